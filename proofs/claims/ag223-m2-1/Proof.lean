import JvmDerived
import JvmDerived.Pilot.@@N@@Statement
import JvmDerived.Pilot.@@N@@Code
set_option linter.unusedVariables false
set_option linter.unusedSimpArgs false
@@BLOCK:NumsL.lean.txt@@
namespace Jvm.Pilot.@@N@@
open Jvm Jvm.ClassFile Sem Op Lib Jvm.Free Jvm.Stand Jvm.LawKit Jvm.RoadKit Bundle Jvm.Pilot.@@N@@.Jvm.D
/-! OWN: the walks' own small calculus: 'Go' says that the run, standing in T with the top frame g, comes to an end that answers; every step carries a Go at the next place back to a Go at this one, so that a walk may fork and join. -/
section Own
variable {p : Program} {l : Launch} {e : Env} {R : Room} {s Z : State} {m : MethodId} {args a0 : Array Value} {below : List Frame} {meth : Method} {c : Code} {T : State} {locs : List Loc} {cells slots : Nat} {h : Heap} {P : Outcome → State → Prop}
/-- what a body must come to -/
def OwnEnd (Q : Option Value → Heap → List Loc → Prop) (s : State) (k n : Nat) (o : Outcome) (t : State) : Prop := ∃ v L, o = .returned v ∧ Q v t.heap L ∧ FrameEnd s o t L k n
def Go (p : Program) (e : Env) (below : List Frame) (P : Outcome → State → Prop) (T : State) (g : JFrame) : Prop := ∃ t o, Steps p.tables e below (T.setTop g) t ∧ t.status = .running ∧ Ended t below o ∧ P o t
theorem Go.of {T' : State} {g g' : JFrame} (k : ∀ t, Steps p.tables e below (T'.setTop g') t → Steps p.tables e below (T.setTop g) t) (K : Go p e below P T' g') : Go p e below P T g := by
  obtain ⟨t, o, h1, h2⟩ := K
  exact ⟨t, o, k t h1, h2⟩
theorem Go.joinI {g : JFrame} (X : Stand p l e R s m args below meth c T locs cells slots) (eT : T.heap = h) (v0 : Int32) (g1 : Int32 → JFrame) (K : (∀ (T' : State) (v : Int32), v = v0 → Stand p l e R s m args below meth c T' locs cells slots → T'.heap = h → Go p e below P T' (g1 v)) → Go p e below P T g)
    (J : ∀ T', Stand p l e R s m args below meth c T' locs cells slots → T'.heap = h → Go p e below P T' (g1 v0)) : Go p e below P T g := K fun T' v q X' e' => q ▸ J T' X' e'
theorem Go.joinJ {g : JFrame} (X : Stand p l e R s m args below meth c T locs cells slots) (eT : T.heap = h) (v0 : Int64) (g1 : Int64 → JFrame) (K : (∀ (T' : State) (v : Int64), v = v0 → Stand p l e R s m args below meth c T' locs cells slots → T'.heap = h → Go p e below P T' (g1 v)) → Go p e below P T g)
    (J : ∀ T', Stand p l e R s m args below meth c T' locs cells slots → T'.heap = h → Go p e below P T' (g1 v0)) : Go p e below P T g := K fun T' v q X' e' => q ▸ J T' X' e'
theorem Go.joinR {g : JFrame} (X : Stand p l e R s m args below meth c T locs cells slots) (eT : T.heap = h) (v0 : Addr) (g1 : Addr → JFrame) (K : (∀ (T' : State) (v : Addr), v = v0 → Stand p l e R s m args below meth c T' locs cells slots → T'.heap = h → Go p e below P T' (g1 v)) → Go p e below P T g)
    (J : ∀ T', Stand p l e R s m args below meth c T' locs cells slots → T'.heap = h → Go p e below P T' (g1 v0)) : Go p e below P T g := K fun T' v q X' e' => q ▸ J T' X' e'
theorem Go.cast {g g' : JFrame} (q : g = g') (K : Go p e below P T g') : Go p e below P T g := q ▸ K
theorem Go.leave (X : Stand p l e R s m args below meth c T locs cells slots) {g : JFrame} {v : Option Value} (hv : meth.sig.returnType = none → v = none) (hlk : meth.locks = false) {Q : Option Value → Heap → List Loc → Prop} {k n : Nat} (hc : cells ≤ k) (hs : slots ≤ n) (hQ : Q v T.heap locs)
    (st : ∀ fs, (∀ (f : JFrame) (acts : List Action), f.method = m → f.locked = none → f.entered = [] → (doReturn e (T.setTop f) acts v).1 = T.setFrames fs) → Steps p.tables e below (T.setTop g) (T.setFrames fs)) : Go p e below (OwnEnd Q s k n) T g := by
  obtain ⟨fs, hr, hrun, hended, hW, hsame⟩ := X.leave hv hlk
  exact ⟨_, _, st fs hr, hrun, hended, _, _, rfl, hQ, ⟨_, rfl⟩, hW, hsame.mono hc hs⟩
theorem Go.retZ (X : Stand p l e R s m args below meth c T locs cells slots) (hx : p.tables.exec = Jvm.exec) {pc pc0 : Nat} {Ls : Array Slot} {z z' : Int32} {rest : List Value} (hret : meth.sig.returnType = some .boolean) (hlk : meth.locks = false) (hd : decode c.code pc0 = .ok (.ireturn, 1)) (hpc : pc = pc0) {Q : Option Value → Heap → List Loc → Prop} {k n : Nat}
    (hz : z &&& 1 = z') (hQ : Q (some (.int z')) T.heap locs) (hc : cells ≤ k) (hs : slots ≤ n) : Go p e below (OwnEnd Q s k n) T (mkF m pc Ls (.int z :: rest)) := by
  subst hz hpc
  exact Go.leave X (v := some (.int (nar .boolean z))) (fun q => by rw [hret] at q; cases q) hlk hc hs hQ fun fs hr => retN X hx (t := .boolean) hret (by simp) hd hr
theorem Go.retW (X : Stand p l e R s m args below meth c T locs cells slots) (hx : p.tables.exec = Jvm.exec) {pc pc0 : Nat} {Ls : Array Slot} {w : Value} {t : FieldType} {i : Instr} {rest : List Value} (hret : meth.sig.returnType = some t) (hlk : meth.locks = false) (hn : narrow t w = w)
    (hi : (i = .ireturn ∧ (t = .int ∨ t = .boolean ∨ t = .byte ∨ t = .char ∨ t = .short) ∧ ∃ z, w = .int z) ∨ (i = .lreturn ∧ t = .long ∧ ∃ z, w = .long z) ∨ (i = .dreturn ∧ t = .double ∧ ∃ z, w = .double z) ∨ (i = .freturn ∧ t = .float ∧ ∃ z, w = .float z) ∨ (i = .areturn ∧ t.isReference = true ∧ w.isRef = true))
    (hd : decode c.code pc0 = .ok (i, 1)) (hpc : pc = pc0) {Q : Option Value → Heap → List Loc → Prop} {k n : Nat} (hQ : Q (some w) T.heap locs) (hc : cells ≤ k) (hs : slots ≤ n) : Go p e below (OwnEnd Q s k n) T (mkF m pc Ls (w :: rest)) := by
  subst hpc
  exact Go.leave X (v := some w) (fun q => by rw [hret] at q; cases q) hlk hc hs hQ fun fs hr => retOut X hx hret hn hi hd hr
theorem Go.retI (X : Stand p l e R s m args below meth c T locs cells slots) (hx : p.tables.exec = Jvm.exec) {pc pc0 : Nat} {Ls : Array Slot} {z : Int32} {rest : List Value} (hret : meth.sig.returnType = some .int) (hlk : meth.locks = false) (hd : decode c.code pc0 = .ok (.ireturn, 1)) (hpc : pc = pc0) {Q : Option Value → Heap → List Loc → Prop} {k n : Nat}
    (hQ : Q (some (.int z)) T.heap locs) (hc : cells ≤ k) (hs : slots ≤ n) : Go p e below (OwnEnd Q s k n) T (mkF m pc Ls (.int z :: rest)) := Go.retW X hx hret hlk rfl (Or.inl ⟨rfl, Or.inl rfl, _, rfl⟩) hd hpc hQ hc hs
theorem Go.retJ (X : Stand p l e R s m args below meth c T locs cells slots) (hx : p.tables.exec = Jvm.exec) {pc pc0 : Nat} {Ls : Array Slot} {z : Int64} {rest : List Value} (hret : meth.sig.returnType = some .long) (hlk : meth.locks = false) (hd : decode c.code pc0 = .ok (.lreturn, 1)) (hpc : pc = pc0) {Q : Option Value → Heap → List Loc → Prop} {k n : Nat}
    (hQ : Q (some (.long z)) T.heap locs) (hc : cells ≤ k) (hs : slots ≤ n) : Go p e below (OwnEnd Q s k n) T (mkF m pc Ls (.long z :: rest)) := Go.retW X hx hret hlk rfl (Or.inr (Or.inl ⟨rfl, rfl, _, rfl⟩)) hd hpc hQ hc hs
theorem Go.retA (X : Stand p l e R s m args below meth c T locs cells slots) (hx : p.tables.exec = Jvm.exec) {pc pc0 : Nat} {Ls : Array Slot} {w : Value} {t : FieldType} {rest : List Value} (hret : meth.sig.returnType = some t) (hlk : meth.locks = false) (ht : t.isReference = true) (hw : w.isRef = true) (hd : decode c.code pc0 = .ok (.areturn, 1)) (hpc : pc = pc0) {Q : Option Value → Heap → List Loc → Prop} {k n : Nat}
    (hQ : Q (some w) T.heap locs) (hc : cells ≤ k) (hs : slots ≤ n) : Go p e below (OwnEnd Q s k n) T (mkF m pc Ls (w :: rest)) := by
  refine Go.retW X hx hret hlk ?_ (Or.inr (Or.inr (Or.inr (Or.inr ⟨rfl, ht, hw⟩)))) hd hpc hQ hc hs
  rcases ref_cases hw with rfl | ⟨a, rfl⟩ <;> cases t <;> first | rfl | (simp [FieldType.isReference] at ht)
theorem Go.retV (X : Stand p l e R s m args below meth c T locs cells slots) (hx : p.tables.exec = Jvm.exec) {pc pc0 : Nat} {Ls : Array Slot} (hret : meth.sig.returnType = none) (hlk : meth.locks = false) (hd : decode c.code pc0 = .ok (.return_, 1)) (hpc : pc = pc0) {Q : Option Value → Heap → List Loc → Prop} {k n : Nat}
    (hQ : Q none T.heap locs) (hc : cells ≤ k) (hs : slots ≤ n) : Go p e below (OwnEnd Q s k n) T (mkF m pc Ls []) := by
  subst hpc
  exact Go.leave X (v := none) (fun _ => rfl) hlk hc hs hQ fun fs hr => X.returnOut hx hret hd hr
/-- a contract of a body: called on these arguments and this heap -/
def Ctr (l : Launch) (Z : State) (y : MethodName) (code : ByteArray) (mx : Nat) (ret : Option FieldType) (Rm : Room) (as' : Array Value) (h : Heap) (Q : Option Value → Heap → List Loc → Prop) : Prop :=
  ∀ ws : List Cond, MetFree l y (head1 (Cond.code y code mx ret :: ws) Rm) (fun a U => a = as' ∧ Z.Warmed39 U.vm ∧ U.heap = h) (fun _ _ _ _ _ => True) (fun _ U o U' => OwnEnd Q U Rm.cells Rm.slots o U')
theorem Ctr.of {y : MethodName} {code : ByteArray} {mx : Nat} {ret : Option FieldType} {Rm : Room} {as' : Array Value} {Q : Option Value → Heap → List Loc → Prop} (hp : plainFor y = true)
    (body : ∀ (p : Program) (e : Env) (s : State) (m : MethodId) (below : List Frame) (meth : Method) (c : Code) (s₁ : State), p.tables.exec = Jvm.exec → c.code = code → c.maxLocals = mx → s.vm.findClass y.cls = some m.cls → meth.name = y.name → meth.sig.returnType = ret → meth.locks = false → Z.Warmed39 s.vm →
      Stand p l e Rm s m as' below meth c s₁ [] 0 0 → s₁.heap = h → Go p e below (OwnEnd Q s Rm.cells Rm.slots) s₁ (entryFrame m as' mx)) : Ctr l Z y code mx ret Rm as' h Q := by
  intro ws
  refine MetFree.of_bodySF hp hisR ?_
  intro p e s m args below meth c s₁ Bd hml hP hK
  obtain ⟨rfl, hZ, hh⟩ := hP
  exact body p e s m below meth c s₁ Bd.exec Bd.bytes hml (findClass_of_methodNamed Bd.named) (name_of_methodNamed Bd.named Bd.method).1 Bd.returns Bd.notSynchronized hZ (Stand.of_body Bd) (by rw [← hh, Bd.state]; rfl)
/-- a body that returns V, writes nothing and makes nothing -/
def Pur (l : Launch) (Z : State) (y : MethodName) (code : ByteArray) (mx : Nat) (ret : Option FieldType) (fr lo : Nat) (as' : Array Value) (h : Heap) (V : Option Value) : Prop :=
  Ctr l Z y code mx ret ({ frames := fr, cells := 0, slots := 0, locals := lo } : Room) as' h fun v h' L => v = V ∧ L = [] ∧ h' = h
theorem Go.callS (X : Stand p l e R s m args below meth c T locs cells slots) (hx : p.tables.exec = Jvm.exec) (hZ : Z.Warmed39 s.vm) {own : String} {index : Nat} {y : MethodName} {bytes : ByteArray} {maxL : Nat} {ret : Option FieldType} (hown : s.vm.findClass own = some m.cls)
    (w1 : (Cond.methodLink own index y).before a0 Z = true) (w2 : (Cond.static y).before a0 Z = true) (w3 : (Cond.initialized y.cls).before a0 Z = true) (w4 : (Cond.code y bytes maxL ret).before a0 Z = true) (hy : y.cls ≠ "java/lang/invoke/MethodHandle" ∧ y.cls ≠ "java/lang/invoke/VarHandle")
    {Rm : Room} {Q : Option Value → Heap → List Loc → Prop} (argsL rest : List Value) (C : Ctr l Z y bytes maxL ret Rm argsL.toArray h Q) (eT : T.heap = h) {pc : Nat} {Ls : Array Slot} {st : List Value} (hst : st = argsL.reverse ++ rest) (hsz : Ls.size = c.maxLocals) {ps : List FieldType} {r : Option FieldType} (hpd : parseMethodDescriptor y.desc = some ⟨ps, r⟩) (hln : argsL.length = ps.length)
    (hd : decode c.code pc = .ok (.invokestatic index, 3)) (hfr : Rm.frames + 1 ≤ R.frames) (hlo : (rest.map fun v => v.category).sum + (maxL + 11) + Rm.locals ≤ R.locals) (hc : cells + Rm.cells ≤ R.cells) (hs : slots + Rm.slots ≤ R.slots)
    (K : ∀ v T' L, Stand p l e R s m args below meth c T' (locs ++ L) (cells + Rm.cells) (slots + Rm.slots) → Q v T'.heap L → Go p e below P T' (mkF m (pc + 3) Ls (v.toList ++ rest))) : Go p e below P T (mkF m pc Ls st) := by
  subst hst
  obtain ⟨v, _, ⟨T', L', k', n'⟩, -, X', ⟨L, hQ, l1, l2, l3⟩, st⟩ := Jvm.LawKit.callS X hx (y := y) hown (mvT hZ w1) (mvT hZ w2) (mvT hZ w3) (mvT hZ w4) hy (backOf (W := (rest.map fun v => v.category).sum) (Q := Q) (C []) hZ w4 w3 hfr hlo) (g := mkF m pc Ls (argsL.reverse ++ rest)) rfl hsz (argsL := argsL) (rest := rest) (lenOf hpd hln) rfl (by show 2 * 0 + _ ≤ _; omega) hd (fun _ _ => ⟨rfl, eT, hc, hs⟩)
  dsimp only [Pt.U, Pt.locs, Pt.cells, Pt.slots] at X' l1 l2 l3 st hQ
  subst l1 l2 l3
  exact Go.of st (K v T' L X' hQ)
theorem Go.pureS (X : Stand p l e R s m args below meth c T locs cells slots) (hx : p.tables.exec = Jvm.exec) (hZ : Z.Warmed39 s.vm) {own : String} {index : Nat} {y : MethodName} {bytes : ByteArray} {maxL : Nat} {ret : Option FieldType} (hown : s.vm.findClass own = some m.cls)
    (w1 : (Cond.methodLink own index y).before a0 Z = true) (w2 : (Cond.static y).before a0 Z = true) (w3 : (Cond.initialized y.cls).before a0 Z = true) (w4 : (Cond.code y bytes maxL ret).before a0 Z = true) (hy : y.cls ≠ "java/lang/invoke/MethodHandle" ∧ y.cls ≠ "java/lang/invoke/VarHandle")
    {fr lo : Nat} {V : Option Value} (argsL rest : List Value) (C : Pur l Z y bytes maxL ret fr lo argsL.toArray h V) (eT : T.heap = h) {pc : Nat} {Ls : Array Slot} {st : List Value} (hst : st = argsL.reverse ++ rest) (hsz : Ls.size = c.maxLocals) {ps : List FieldType} {r : Option FieldType} (hpd : parseMethodDescriptor y.desc = some ⟨ps, r⟩) (hln : argsL.length = ps.length)
    (hd : decode c.code pc = .ok (.invokestatic index, 3)) (hfr : fr + 1 ≤ R.frames) (hlo : (rest.map fun v => v.category).sum + (maxL + 11) + lo ≤ R.locals) (hc : cells ≤ R.cells) (hs : slots ≤ R.slots)
    (K : ∀ T', Stand p l e R s m args below meth c T' locs cells slots → T'.heap = h → Go p e below P T' (mkF m (pc + 3) Ls (V.toList ++ rest))) : Go p e below P T (mkF m pc Ls st) := by
  refine Go.callS X hx hZ hown w1 w2 w3 w4 hy argsL rest C eT hst hsz hpd hln hd hfr hlo hc hs ?_
  rintro v T' L X' ⟨rfl, rfl, e'⟩
  rw [List.append_nil] at X'
  exact K T' X' e'
theorem Go.callV (X : Stand p l e R s m args below meth c T locs cells slots) (hx : p.tables.exec = Jvm.exec) (hZ : Z.Warmed39 s.vm) {own C : String} {index : Nat} {y z : MethodName} {bytes : ByteArray} {maxL : Nat} {ret : Option FieldType} (hown : s.vm.findClass own = some m.cls)
    (w1 : (Cond.methodLink own index y).before a0 Z = true) (w2 : (Cond.declares y).before a0 Z = true) (hnf : NotFace s y) (w3 : (Cond.selects C y z).before a0 Z = true) (w4 : (Cond.instanceMethod z).before a0 Z = true) (w5 : (Cond.initialized z.cls).before a0 Z = true) (w6 : (Cond.code z bytes maxL ret).before a0 Z = true) (hy : y.cls ≠ "java/lang/invoke/MethodHandle" ∧ y.cls ≠ "java/lang/invoke/VarHandle")
    {Rm : Room} {Q : Option Value → Heap → List Loc → Prop} {b : Addr} (argsL rest : List Value) (E : Exa Z h b C) (Ct : Ctr l Z z bytes maxL ret Rm (.ref b :: argsL).toArray h Q) (eT : T.heap = h) {pc : Nat} {Ls : Array Slot} {st : List Value} (hst : st = argsL.reverse ++ .ref b :: rest) (hsz : Ls.size = c.maxLocals) {ps : List FieldType} {r : Option FieldType} (hpd : parseMethodDescriptor y.desc = some ⟨ps, r⟩) (hln : argsL.length = ps.length)
    (hd : decode c.code pc = .ok (.invokevirtual index, 3)) (hfr : Rm.frames + 1 ≤ R.frames) (hlo : (rest.map fun v => v.category).sum + (maxL + 11) + Rm.locals ≤ R.locals) (hc : cells + Rm.cells ≤ R.cells) (hs : slots + Rm.slots ≤ R.slots)
    (K : ∀ v T' L, Stand p l e R s m args below meth c T' (locs ++ L) (cells + Rm.cells) (slots + Rm.slots) → Q v T'.heap L → Go p e below P T' (mkF m (pc + 3) Ls (v.toList ++ rest))) : Go p e below P T (mkF m pc Ls st) := by
  subst hst
  obtain ⟨cq, kq, q1, q2, q3⟩ := isOf hZ eT E
  obtain ⟨v, _, ⟨T', L', k', n'⟩, -, X', ⟨L, hQ, l1, l2, l3⟩, st⟩ := X.virtualBack hx (y := y) (z := z) hown (mvT hZ w1) (mvT hZ w2) hnf (mvT hZ w3) (mvT hZ w4) hy (backOf (W := (rest.map fun v => v.category).sum) (Q := Q) (Ct []) hZ w6 w5 hfr hlo) q1 q3 (g := mkF m pc Ls (argsL.reverse ++ .ref b :: rest)) rfl hsz (Steps.refl _) (argsL := argsL) (rest := rest) (lenOf hpd hln) rfl (by show 2 * 0 + _ ≤ _; omega) hd (fun _ _ => ⟨rfl, eT, hc, hs⟩)
  dsimp only [Pt.U, Pt.locs, Pt.cells, Pt.slots] at X' l1 l2 l3 st hQ
  subst l1 l2 l3
  exact Go.of (fun _ k => st.trans k) (K v T' L X' hQ)
theorem Go.pureV (X : Stand p l e R s m args below meth c T locs cells slots) (hx : p.tables.exec = Jvm.exec) (hZ : Z.Warmed39 s.vm) {own C : String} {index : Nat} {y z : MethodName} {bytes : ByteArray} {maxL : Nat} {ret : Option FieldType} (hown : s.vm.findClass own = some m.cls)
    (w1 : (Cond.methodLink own index y).before a0 Z = true) (w2 : (Cond.declares y).before a0 Z = true) (hnf : NotFace s y) (w3 : (Cond.selects C y z).before a0 Z = true) (w4 : (Cond.instanceMethod z).before a0 Z = true) (w5 : (Cond.initialized z.cls).before a0 Z = true) (w6 : (Cond.code z bytes maxL ret).before a0 Z = true) (hy : y.cls ≠ "java/lang/invoke/MethodHandle" ∧ y.cls ≠ "java/lang/invoke/VarHandle")
    {fr lo : Nat} {V : Option Value} {b : Addr} (argsL rest : List Value) (E : Exa Z h b C) (Ct : Pur l Z z bytes maxL ret fr lo (.ref b :: argsL).toArray h V) (eT : T.heap = h) {pc : Nat} {Ls : Array Slot} {st : List Value} (hst : st = argsL.reverse ++ .ref b :: rest) (hsz : Ls.size = c.maxLocals) {ps : List FieldType} {r : Option FieldType} (hpd : parseMethodDescriptor y.desc = some ⟨ps, r⟩) (hln : argsL.length = ps.length)
    (hd : decode c.code pc = .ok (.invokevirtual index, 3)) (hfr : fr + 1 ≤ R.frames) (hlo : (rest.map fun v => v.category).sum + (maxL + 11) + lo ≤ R.locals) (hc : cells ≤ R.cells) (hs : slots ≤ R.slots)
    (K : ∀ T', Stand p l e R s m args below meth c T' locs cells slots → T'.heap = h → Go p e below P T' (mkF m (pc + 3) Ls (V.toList ++ rest))) : Go p e below P T (mkF m pc Ls st) := by
  refine Go.callV X hx hZ hown w1 w2 hnf w3 w4 w5 w6 hy argsL rest E Ct eT hst hsz hpd hln hd hfr hlo hc hs ?_
  rintro v T' L X' ⟨rfl, rfl, e'⟩
  rw [List.append_nil] at X'
  exact K T' X' e'
theorem Go.callU (X : Stand p l e R s m args below meth c T locs cells slots) (hx : p.tables.exec = Jvm.exec) (hZ : Z.Warmed39 s.vm) {own C ow : String} {index : Nat} {y z : MethodName} {bytes : ByteArray} {maxL : Nat} {ret : Option FieldType} (hown : s.vm.findClass own = some m.cls)
    (w1 : (Cond.methodLink own index y).before a0 Z = true) (w2 : (Cond.sameMethod y.cls ow y.name y.desc).before a0 Z = true) (w2' : (Cond.declares ⟨ow, y.name, y.desc⟩).before a0 Z = true) (w3 : (Cond.selects C y z).before a0 Z = true) (w4 : (Cond.instanceMethod z).before a0 Z = true) (w5 : (Cond.initialized z.cls).before a0 Z = true) (w6 : (Cond.code z bytes maxL ret).before a0 Z = true) (hy : ow ≠ "java/lang/invoke/MethodHandle" ∧ ow ≠ "java/lang/invoke/VarHandle")
    {Rm : Room} {Q : Option Value → Heap → List Loc → Prop} {b : Addr} (argsL rest : List Value) (E : Exa Z h b C) (Ct : Ctr l Z z bytes maxL ret Rm (.ref b :: argsL).toArray h Q) (eT : T.heap = h) {pc : Nat} {Ls : Array Slot} {st : List Value} (hst : st = argsL.reverse ++ .ref b :: rest) (hsz : Ls.size = c.maxLocals) {ps : List FieldType} {r : Option FieldType} (hpd : parseMethodDescriptor y.desc = some ⟨ps, r⟩) (hln : argsL.length = ps.length)
    (hd : decode c.code pc = .ok (.invokevirtual index, 3)) (hfr : Rm.frames + 1 ≤ R.frames) (hlo : (rest.map fun v => v.category).sum + (maxL + 11) + Rm.locals ≤ R.locals) (hc : cells + Rm.cells ≤ R.cells) (hs : slots + Rm.slots ≤ R.slots)
    (K : ∀ v T' L, Stand p l e R s m args below meth c T' (locs ++ L) (cells + Rm.cells) (slots + Rm.slots) → Q v T'.heap L → Go p e below P T' (mkF m (pc + 3) Ls (v.toList ++ rest))) : Go p e below P T (mkF m pc Ls st) := by
  subst hst
  obtain ⟨cq, kq, q1, q2, q3⟩ := isOf hZ eT E
  obtain ⟨v, _, ⟨T', L', k', n'⟩, -, X', ⟨L, hQ, l1, l2, l3⟩, st⟩ := X.virtualBackUp hx (x := y) (y := z) (owner := ow) hown (mvT hZ w1) (mvT hZ w2) (mvT hZ w2') hy (mvT hZ w3) (mvT hZ w4) (backOf (W := (rest.map fun v => v.category).sum) (Q := Q) (Ct []) hZ w6 w5 hfr hlo) q1 q3 (g := mkF m pc Ls (argsL.reverse ++ .ref b :: rest)) rfl hsz (Steps.refl _) (argsL := argsL) (rest := rest) (lenOf hpd hln) rfl (by show 2 * 0 + _ ≤ _; omega) hd (fun _ _ => ⟨rfl, eT, hc, hs⟩)
  dsimp only [Pt.U, Pt.locs, Pt.cells, Pt.slots] at X' l1 l2 l3 st hQ
  subst l1 l2 l3
  exact Go.of (fun _ k => st.trans k) (K v T' L X' hQ)
theorem Go.pureU (X : Stand p l e R s m args below meth c T locs cells slots) (hx : p.tables.exec = Jvm.exec) (hZ : Z.Warmed39 s.vm) {own C ow : String} {index : Nat} {y z : MethodName} {bytes : ByteArray} {maxL : Nat} {ret : Option FieldType} (hown : s.vm.findClass own = some m.cls)
    (w1 : (Cond.methodLink own index y).before a0 Z = true) (w2 : (Cond.sameMethod y.cls ow y.name y.desc).before a0 Z = true) (w2' : (Cond.declares ⟨ow, y.name, y.desc⟩).before a0 Z = true) (w3 : (Cond.selects C y z).before a0 Z = true) (w4 : (Cond.instanceMethod z).before a0 Z = true) (w5 : (Cond.initialized z.cls).before a0 Z = true) (w6 : (Cond.code z bytes maxL ret).before a0 Z = true) (hy : ow ≠ "java/lang/invoke/MethodHandle" ∧ ow ≠ "java/lang/invoke/VarHandle")
    {fr lo : Nat} {V : Option Value} {b : Addr} (argsL rest : List Value) (E : Exa Z h b C) (Ct : Pur l Z z bytes maxL ret fr lo (.ref b :: argsL).toArray h V) (eT : T.heap = h) {pc : Nat} {Ls : Array Slot} {st : List Value} (hst : st = argsL.reverse ++ .ref b :: rest) (hsz : Ls.size = c.maxLocals) {ps : List FieldType} {r : Option FieldType} (hpd : parseMethodDescriptor y.desc = some ⟨ps, r⟩) (hln : argsL.length = ps.length)
    (hd : decode c.code pc = .ok (.invokevirtual index, 3)) (hfr : fr + 1 ≤ R.frames) (hlo : (rest.map fun v => v.category).sum + (maxL + 11) + lo ≤ R.locals) (hc : cells ≤ R.cells) (hs : slots ≤ R.slots)
    (K : ∀ T', Stand p l e R s m args below meth c T' locs cells slots → T'.heap = h → Go p e below P T' (mkF m (pc + 3) Ls (V.toList ++ rest))) : Go p e below P T (mkF m pc Ls st) := by
  refine Go.callU X hx hZ hown w1 w2 w2' w3 w4 w5 w6 hy argsL rest E Ct eT hst hsz hpd hln hd hfr hlo hc hs ?_
  rintro v T' L X' ⟨rfl, rfl, e'⟩
  rw [List.append_nil] at X'
  exact K T' X' e'
theorem Go.callI (X : Stand p l e R s m args below meth c T locs cells slots) (hx : p.tables.exec = Jvm.exec) (hZ : Z.Warmed39 s.vm) {own : String} {index : Nat} {y : MethodName} {bytes : ByteArray} {maxL : Nat} (hyn : y.name = "<init>") (hown : s.vm.findClass own = some m.cls)
    (w1 : (Cond.methodLink own index y).before a0 Z = true) (w2 : (Cond.instanceMethod y).before a0 Z = true) (w3 : (Cond.initialized y.cls).before a0 Z = true) (w4 : (Cond.code y bytes maxL none).before a0 Z = true) (hy : y.cls ≠ "java/lang/invoke/MethodHandle" ∧ y.cls ≠ "java/lang/invoke/VarHandle")
    {Rm : Room} {Q : Option Value → Heap → List Loc → Prop} {b : Addr} (argsL rest : List Value) (C : Ctr l Z y bytes maxL none Rm (.ref b :: argsL).toArray h Q) (eT : T.heap = h) {pc : Nat} {Ls : Array Slot} {st : List Value} (hst : st = argsL.reverse ++ .ref b :: rest) (hsz : Ls.size = c.maxLocals) {ps : List FieldType} {r : Option FieldType} (hpd : parseMethodDescriptor y.desc = some ⟨ps, r⟩) (hln : argsL.length = ps.length)
    (hd : decode c.code pc = .ok (.invokespecial index, 3)) (hfr : Rm.frames + 1 ≤ R.frames) (hlo : (rest.map fun v => v.category).sum + (maxL + 11) + Rm.locals ≤ R.locals) (hc : cells + Rm.cells ≤ R.cells) (hs : slots + Rm.slots ≤ R.slots)
    (K : ∀ v T' L, Stand p l e R s m args below meth c T' (locs ++ L) (cells + Rm.cells) (slots + Rm.slots) → Q v T'.heap L → Go p e below P T' (mkF m (pc + 3) Ls (v.toList ++ rest))) : Go p e below P T (mkF m pc Ls st) := by
  subst hst
  obtain ⟨v, _, ⟨T', L', k', n'⟩, -, X', ⟨L, hQ, l1, l2, l3⟩, st⟩ := X.specialBack hx (y := y) hyn hown (mvT hZ w1) (mvT hZ w2) (mvT hZ w4) hy (backOf (W := (rest.map fun v => v.category).sum) (Q := Q) (C []) hZ w4 w3 hfr hlo) (g := mkF m pc Ls (argsL.reverse ++ .ref b :: rest)) rfl hsz (Steps.refl _) (a := b) (argsL := argsL) (rest := rest) (lenOf hpd hln) rfl (by show 2 * 0 + _ ≤ _; omega) hd (fun _ _ => ⟨rfl, eT, hc, hs⟩)
  dsimp only [Pt.U, Pt.locs, Pt.cells, Pt.slots] at X' l1 l2 l3 st hQ
  subst l1 l2 l3
  exact Go.of (fun _ k => st.trans k) (K v T' L X' hQ)
end Own
theorem own_nf {args : Array Value} {s : State} {C : String} {y y' : MethodName} (hc : y.cls = y'.cls) (hsel : (Cond.selects C y' y').before args s = true) : NotFace s y := fun r0 h0 => by
  obtain ⟨c2, r2, m2, q1, q2, q3, q4, kP, hkP, hkPi⟩ := Cond.selects_spec hsel
  have e1 := findClass_of_methodNamed h0
  have e2 := findClass_of_methodNamed q3
  rw [hc] at e1
  have e3 : r0.cls = m2.cls := Option.some.inj (e1.symm.trans e2)
  exact ⟨kP, e3 ▸ hkP, hkPi⟩
section OwnWords
variable {args : Array Value} {s : State} {a b t i : Term} {v : Value}
theorem own_eqv (g : (Cond.eq a b).value args s none s [] = some true) (hb : b.eval args s none [] s = some v) : a.eval args s none [] s = some v := by
  cases ha : a.eval args s none [] s with
  | none => simp [Cond.value, ha] at g
  | some x => cases x <;> cases v <;> simp [Cond.value, ha, hb] at g ⊢ <;> exact g
theorem own_len {x : Addr} {cl : Cell} {ty : FieldType} {n : Int32} (A : Arr s s.heap x cl ty) (ht : t.eval args s none [] s = some (.ref x)) (g : (Term.length t).eval args s none [] s = some (.int n)) : cl.slots.size < 2 ^ 31 ∧ cl.slots.size.toInt32 = n := by
  have q := A.fin (Vm.Alike.refl _)
  by_cases hl : cl.slots.size < 2 ^ 31
  · refine ⟨hl, ?_⟩
    have e := len_f (args := args) (first := s) (o := none) (idx := []) ht q hl
    exact Value.int.inj (Option.some.inj (e.symm.trans g))
  · simp [Term.eval, ht, q, hl] at g
theorem own_elem {x : Addr} {cl : Cell} {ty : FieldType} {j : Int32} {k : Nat} (A : Arr s s.heap x cl ty) (ht : t.eval args s none [] s = some (.ref x)) (hk : j.toNatClampNeg = k) (g : (Term.elem t (.int j)).eval args s none [] s = some v) : cl.slots[k]? = some v := by
  have e := (elem_in (j := j) (a := .int j) g ht rfl A.1).2
  rw [hk] at e; exact e
end OwnWords
section OwnSteps
variable {p : Program} {l : Launch} {e : Env} {R : Room} {s Z : State} {m : MethodId} {args a0 : Array Value} {below : List Frame} {meth : Method} {c : Code} {T : State} {locs : List Loc} {cells slots : Nat} {h : Heap} {P : Outcome → State → Prop} {pc pc0 : Nat} {Ls : Array Slot} {st : List Value}
theorem Go.iload (X : Stand p l e R s m args below meth c T locs cells slots) (hx : p.tables.exec = Jvm.exec) {k : Nat} {v : Int32} (hd : decode c.code pc0 = .ok (.iload k, 2)) (hpc : pc = pc0) (hl : Ls[k]? = some (.val (.int v))) (K : Go p e below P T (mkF m (pc0 + 2) Ls (.int v :: st))) : Go p e below P T (mkF m pc Ls (st)) := by
  subst hpc
  exact Go.of (fun _ q => XS.iload X.here hx rfl hd hl q) K
theorem Go.iloadN (X : Stand p l e R s m args below meth c T locs cells slots) (hx : p.tables.exec = Jvm.exec) {k : Fin 4} {v : Int32} (hd : decode c.code pc0 = .ok (.iload_n k, 1)) (hpc : pc = pc0) (hl : Ls[k.val]? = some (.val (.int v))) (K : Go p e below P T (mkF m (pc0 + 1) Ls (.int v :: st))) : Go p e below P T (mkF m pc Ls (st)) := by
  subst hpc
  exact Go.of (fun _ q => XS.iloadN X.here hx rfl hd hl q) K
theorem Go.istore (X : Stand p l e R s m args below meth c T locs cells slots) (hx : p.tables.exec = Jvm.exec) {k : Nat} {v : Int32} (hd : decode c.code pc0 = .ok (.istore k, 2)) (hpc : pc = pc0) (l' : Array Slot) (hl : storeLocals Ls k (.int v) = some l') (K : Go p e below P T (mkF m (pc0 + 2) l' (st))) : Go p e below P T (mkF m pc Ls (.int v :: st)) := by
  subst hpc
  exact Go.of (fun _ q => XS.istore X.here hx rfl hd rfl hl q) K
theorem Go.istoreN (X : Stand p l e R s m args below meth c T locs cells slots) (hx : p.tables.exec = Jvm.exec) {k : Fin 4} {v : Int32} (hd : decode c.code pc0 = .ok (.istore_n k, 1)) (hpc : pc = pc0) (l' : Array Slot) (hl : storeLocals Ls k.val (.int v) = some l') (K : Go p e below P T (mkF m (pc0 + 1) l' (st))) : Go p e below P T (mkF m pc Ls (.int v :: st)) := by
  subst hpc
  exact Go.of (fun _ q => XS.istoreN X.here hx rfl hd rfl hl q) K
theorem Go.lload (X : Stand p l e R s m args below meth c T locs cells slots) (hx : p.tables.exec = Jvm.exec) {k : Nat} {v : Int64} (hd : decode c.code pc0 = .ok (.lload k, 2)) (hpc : pc = pc0) (hl : Ls[k]? = some (.val (.long v))) (K : Go p e below P T (mkF m (pc0 + 2) Ls (.long v :: st))) : Go p e below P T (mkF m pc Ls (st)) := by
  subst hpc
  exact Go.of (fun _ q => XS.lload X.here hx rfl hd hl q) K
theorem Go.lloadN (X : Stand p l e R s m args below meth c T locs cells slots) (hx : p.tables.exec = Jvm.exec) {k : Fin 4} {v : Int64} (hd : decode c.code pc0 = .ok (.lload_n k, 1)) (hpc : pc = pc0) (hl : Ls[k.val]? = some (.val (.long v))) (K : Go p e below P T (mkF m (pc0 + 1) Ls (.long v :: st))) : Go p e below P T (mkF m pc Ls (st)) := by
  subst hpc
  exact Go.of (fun _ q => XS.lloadN X.here hx rfl hd hl q) K
theorem Go.lstore (X : Stand p l e R s m args below meth c T locs cells slots) (hx : p.tables.exec = Jvm.exec) {k : Nat} {v : Int64} (hd : decode c.code pc0 = .ok (.lstore k, 2)) (hpc : pc = pc0) (l' : Array Slot) (hl : storeLocals Ls k (.long v) = some l') (K : Go p e below P T (mkF m (pc0 + 2) l' (st))) : Go p e below P T (mkF m pc Ls (.long v :: st)) := by
  subst hpc
  exact Go.of (fun _ q => XS.lstore X.here hx rfl hd rfl hl q) K
theorem Go.lstoreN (X : Stand p l e R s m args below meth c T locs cells slots) (hx : p.tables.exec = Jvm.exec) {k : Fin 4} {v : Int64} (hd : decode c.code pc0 = .ok (.lstore_n k, 1)) (hpc : pc = pc0) (l' : Array Slot) (hl : storeLocals Ls k.val (.long v) = some l') (K : Go p e below P T (mkF m (pc0 + 1) l' (st))) : Go p e below P T (mkF m pc Ls (.long v :: st)) := by
  subst hpc
  exact Go.of (fun _ q => XS.lstoreN X.here hx rfl hd rfl hl q) K
theorem Go.aload (X : Stand p l e R s m args below meth c T locs cells slots) (hx : p.tables.exec = Jvm.exec) {k : Nat} {v : Value} (hd : decode c.code pc0 = .ok (.aload k, 2)) (hpc : pc = pc0) (hl : Ls[k]? = some (.val v)) (hv : v.isRef = true) (K : Go p e below P T (mkF m (pc0 + 2) Ls (v :: st))) : Go p e below P T (mkF m pc Ls (st)) := by
  subst hpc
  exact Go.of (fun _ q => XS.aload X.here hx rfl hd hl hv q) K
theorem Go.aloadN (X : Stand p l e R s m args below meth c T locs cells slots) (hx : p.tables.exec = Jvm.exec) {k : Fin 4} {v : Value} (hd : decode c.code pc0 = .ok (.aload_n k, 1)) (hpc : pc = pc0) (hl : Ls[k.val]? = some (.val v)) (hv : v.isRef = true) (K : Go p e below P T (mkF m (pc0 + 1) Ls (v :: st))) : Go p e below P T (mkF m pc Ls (st)) := by
  subst hpc
  exact Go.of (fun _ q => XS.aloadN X.here hx rfl hd hl hv q) K
theorem Go.astore (X : Stand p l e R s m args below meth c T locs cells slots) (hx : p.tables.exec = Jvm.exec) {k : Nat} {v : Value} (hd : decode c.code pc0 = .ok (.astore k, 2)) (hpc : pc = pc0) (hv : v.isRef = true) (l' : Array Slot) (hl : storeLocals Ls k v = some l') (K : Go p e below P T (mkF m (pc0 + 2) l' (st))) : Go p e below P T (mkF m pc Ls (v :: st)) := by
  subst hpc
  exact Go.of (fun _ q => XS.astore X.here hx rfl hd rfl hv hl q) K
theorem Go.astoreN (X : Stand p l e R s m args below meth c T locs cells slots) (hx : p.tables.exec = Jvm.exec) {k : Fin 4} {v : Value} (hd : decode c.code pc0 = .ok (.astore_n k, 1)) (hpc : pc = pc0) (hv : v.isRef = true) (l' : Array Slot) (hl : storeLocals Ls k.val v = some l') (K : Go p e below P T (mkF m (pc0 + 1) l' (st))) : Go p e below P T (mkF m pc Ls (v :: st)) := by
  subst hpc
  exact Go.of (fun _ q => XS.astoreN X.here hx rfl hd rfl hv hl q) K
theorem Go.iconst (X : Stand p l e R s m args below meth c T locs cells slots) (hx : p.tables.exec = Jvm.exec) {i : Int} (hd : decode c.code pc0 = .ok (.iconst i, 1)) (hpc : pc = pc0) (v : Int32) (hv : Int32.ofInt i = v) (K : Go p e below P T (mkF m (pc0 + 1) Ls (.int v :: st))) : Go p e below P T (mkF m pc Ls (st)) := by
  subst hpc
  subst hv
  exact Go.of (fun _ q => XS.iconst X.here hx rfl hd q) K
theorem Go.bipush (X : Stand p l e R s m args below meth c T locs cells slots) (hx : p.tables.exec = Jvm.exec) {i : Int} (hd : decode c.code pc0 = .ok (.bipush i, 2)) (hpc : pc = pc0) (v : Int32) (hv : (Int8.ofInt i).toInt32 = v) (K : Go p e below P T (mkF m (pc0 + 2) Ls (.int v :: st))) : Go p e below P T (mkF m pc Ls (st)) := by
  subst hpc
  subst hv
  exact Go.of (fun _ q => XS.bipush X.here hx rfl hd q) K
theorem Go.sipush (X : Stand p l e R s m args below meth c T locs cells slots) (hx : p.tables.exec = Jvm.exec) {i : Int} (hd : decode c.code pc0 = .ok (.sipush i, 3)) (hpc : pc = pc0) (v : Int32) (hv : (Int16.ofInt i).toInt32 = v) (K : Go p e below P T (mkF m (pc0 + 3) Ls (.int v :: st))) : Go p e below P T (mkF m pc Ls (st)) := by
  subst hpc
  subst hv
  exact Go.of (fun _ q => XS.sipush X.here hx rfl hd q) K
theorem Go.lconst (X : Stand p l e R s m args below meth c T locs cells slots) (hx : p.tables.exec = Jvm.exec) {k : Fin 2} (hd : decode c.code pc0 = .ok (.lconst k, 1)) (hpc : pc = pc0) (v : Int64) (hv : Int64.ofNat k = v) (K : Go p e below P T (mkF m (pc0 + 1) Ls (.long v :: st))) : Go p e below P T (mkF m pc Ls (st)) := by
  subst hpc
  subst hv
  exact Go.of (fun _ q => XS.lconst X.here hx rfl hd q) K
theorem Go.aconstNull (X : Stand p l e R s m args below meth c T locs cells slots) (hx : p.tables.exec = Jvm.exec)  (hd : decode c.code pc0 = .ok (.aconst_null, 1)) (hpc : pc = pc0)  (K : Go p e below P T (mkF m (pc0 + 1) Ls (.null :: st))) : Go p e below P T (mkF m pc Ls (st)) := by
  subst hpc
  exact Go.of (fun _ q => XS.aconstNull X.here hx rfl hd q) K
theorem Go.iadd (X : Stand p l e R s m args below meth c T locs cells slots) (hx : p.tables.exec = Jvm.exec) {x y : Int32} (hd : decode c.code pc0 = .ok (.iadd, 1)) (hpc : pc = pc0)  (K : Go p e below P T (mkF m (pc0 + 1) Ls (.int (x + y) :: st))) : Go p e below P T (mkF m pc Ls (.int y :: .int x :: st)) := by
  subst hpc
  exact Go.of (fun _ q => XS.iadd X.here hx rfl hd rfl q) K
theorem Go.isub (X : Stand p l e R s m args below meth c T locs cells slots) (hx : p.tables.exec = Jvm.exec) {x y : Int32} (hd : decode c.code pc0 = .ok (.isub, 1)) (hpc : pc = pc0)  (K : Go p e below P T (mkF m (pc0 + 1) Ls (.int (x - y) :: st))) : Go p e below P T (mkF m pc Ls (.int y :: .int x :: st)) := by
  subst hpc
  exact Go.of (fun _ q => XS.isub X.here hx rfl hd rfl q) K
theorem Go.imul (X : Stand p l e R s m args below meth c T locs cells slots) (hx : p.tables.exec = Jvm.exec) {x y : Int32} (hd : decode c.code pc0 = .ok (.imul, 1)) (hpc : pc = pc0)  (K : Go p e below P T (mkF m (pc0 + 1) Ls (.int (x * y) :: st))) : Go p e below P T (mkF m pc Ls (.int y :: .int x :: st)) := by
  subst hpc
  exact Go.of (fun _ q => XS.imul X.here hx rfl hd rfl q) K
theorem Go.iand (X : Stand p l e R s m args below meth c T locs cells slots) (hx : p.tables.exec = Jvm.exec) {x y : Int32} (hd : decode c.code pc0 = .ok (.iand, 1)) (hpc : pc = pc0)  (K : Go p e below P T (mkF m (pc0 + 1) Ls (.int (x &&& y) :: st))) : Go p e below P T (mkF m pc Ls (.int y :: .int x :: st)) := by
  subst hpc
  exact Go.of (fun _ q => XS.iand X.here hx rfl hd rfl q) K
theorem Go.ior (X : Stand p l e R s m args below meth c T locs cells slots) (hx : p.tables.exec = Jvm.exec) {x y : Int32} (hd : decode c.code pc0 = .ok (.ior, 1)) (hpc : pc = pc0)  (K : Go p e below P T (mkF m (pc0 + 1) Ls (.int (x ||| y) :: st))) : Go p e below P T (mkF m pc Ls (.int y :: .int x :: st)) := by
  subst hpc
  exact Go.of (fun _ q => XS.ior X.here hx rfl hd rfl q) K
theorem Go.ixor (X : Stand p l e R s m args below meth c T locs cells slots) (hx : p.tables.exec = Jvm.exec) {x y : Int32} (hd : decode c.code pc0 = .ok (.ixor, 1)) (hpc : pc = pc0)  (K : Go p e below P T (mkF m (pc0 + 1) Ls (.int (x ^^^ y) :: st))) : Go p e below P T (mkF m pc Ls (.int y :: .int x :: st)) := by
  subst hpc
  exact Go.of (fun _ q => XS.ixor X.here hx rfl hd rfl q) K
theorem Go.idiv (X : Stand p l e R s m args below meth c T locs cells slots) (hx : p.tables.exec = Jvm.exec) {x y : Int32} (hd : decode c.code pc0 = .ok (.idiv, 1)) (hpc : pc = pc0) (hy : y ≠ 0) (K : Go p e below P T (mkF m (pc0 + 1) Ls (.int (x / y) :: st))) : Go p e below P T (mkF m pc Ls (.int y :: .int x :: st)) := by
  subst hpc
  exact Go.of (fun _ q => XS.idiv X.here hx rfl hd rfl hy q) K
theorem Go.ineg (X : Stand p l e R s m args below meth c T locs cells slots) (hx : p.tables.exec = Jvm.exec) {x : Int32} (hd : decode c.code pc0 = .ok (.ineg, 1)) (hpc : pc = pc0)  (K : Go p e below P T (mkF m (pc0 + 1) Ls (.int (-x) :: st))) : Go p e below P T (mkF m pc Ls (.int x :: st)) := by
  subst hpc
  exact Go.of (fun _ q => XS.ineg X.here hx rfl hd rfl q) K
theorem Go.ladd (X : Stand p l e R s m args below meth c T locs cells slots) (hx : p.tables.exec = Jvm.exec) {x y : Int64} (hd : decode c.code pc0 = .ok (.ladd, 1)) (hpc : pc = pc0)  (K : Go p e below P T (mkF m (pc0 + 1) Ls (.long (x + y) :: st))) : Go p e below P T (mkF m pc Ls (.long y :: .long x :: st)) := by
  subst hpc
  exact Go.of (fun _ q => XS.ladd X.here hx rfl hd rfl q) K
theorem Go.lsub (X : Stand p l e R s m args below meth c T locs cells slots) (hx : p.tables.exec = Jvm.exec) {x y : Int64} (hd : decode c.code pc0 = .ok (.lsub, 1)) (hpc : pc = pc0)  (K : Go p e below P T (mkF m (pc0 + 1) Ls (.long (x - y) :: st))) : Go p e below P T (mkF m pc Ls (.long y :: .long x :: st)) := by
  subst hpc
  exact Go.of (fun _ q => XS.lsub X.here hx rfl hd rfl q) K
theorem Go.lmul (X : Stand p l e R s m args below meth c T locs cells slots) (hx : p.tables.exec = Jvm.exec) {x y : Int64} (hd : decode c.code pc0 = .ok (.lmul, 1)) (hpc : pc = pc0)  (K : Go p e below P T (mkF m (pc0 + 1) Ls (.long (x * y) :: st))) : Go p e below P T (mkF m pc Ls (.long y :: .long x :: st)) := by
  subst hpc
  exact Go.of (fun _ q => XS.lmul X.here hx rfl hd rfl q) K
theorem Go.land (X : Stand p l e R s m args below meth c T locs cells slots) (hx : p.tables.exec = Jvm.exec) {x y : Int64} (hd : decode c.code pc0 = .ok (.land, 1)) (hpc : pc = pc0)  (K : Go p e below P T (mkF m (pc0 + 1) Ls (.long (x &&& y) :: st))) : Go p e below P T (mkF m pc Ls (.long y :: .long x :: st)) := by
  subst hpc
  exact Go.of (fun _ q => XS.land X.here hx rfl hd rfl q) K
theorem Go.lor (X : Stand p l e R s m args below meth c T locs cells slots) (hx : p.tables.exec = Jvm.exec) {x y : Int64} (hd : decode c.code pc0 = .ok (.lor, 1)) (hpc : pc = pc0)  (K : Go p e below P T (mkF m (pc0 + 1) Ls (.long (x ||| y) :: st))) : Go p e below P T (mkF m pc Ls (.long y :: .long x :: st)) := by
  subst hpc
  exact Go.of (fun _ q => XS.lor X.here hx rfl hd rfl q) K
theorem Go.lxor (X : Stand p l e R s m args below meth c T locs cells slots) (hx : p.tables.exec = Jvm.exec) {x y : Int64} (hd : decode c.code pc0 = .ok (.lxor, 1)) (hpc : pc = pc0)  (K : Go p e below P T (mkF m (pc0 + 1) Ls (.long (x ^^^ y) :: st))) : Go p e below P T (mkF m pc Ls (.long y :: .long x :: st)) := by
  subst hpc
  exact Go.of (fun _ q => XS.lxor X.here hx rfl hd rfl q) K
theorem Go.ldiv (X : Stand p l e R s m args below meth c T locs cells slots) (hx : p.tables.exec = Jvm.exec) {x y : Int64} (hd : decode c.code pc0 = .ok (.ldiv, 1)) (hpc : pc = pc0) (hy : y ≠ 0) (K : Go p e below P T (mkF m (pc0 + 1) Ls (.long (x / y) :: st))) : Go p e below P T (mkF m pc Ls (.long y :: .long x :: st)) := by
  subst hpc
  exact Go.of (fun _ q => XS.ldiv X.here hx rfl hd rfl hy q) K
theorem Go.lneg (X : Stand p l e R s m args below meth c T locs cells slots) (hx : p.tables.exec = Jvm.exec) {x : Int64} (hd : decode c.code pc0 = .ok (.lneg, 1)) (hpc : pc = pc0)  (K : Go p e below P T (mkF m (pc0 + 1) Ls (.long (-x) :: st))) : Go p e below P T (mkF m pc Ls (.long x :: st)) := by
  subst hpc
  exact Go.of (fun _ q => XS.lneg X.here hx rfl hd rfl q) K
theorem Go.irem (X : Stand p l e R s m args below meth c T locs cells slots) (hx : p.tables.exec = Jvm.exec) {x y : Int32} (hd : decode c.code pc0 = .ok (.irem, 1)) (hpc : pc = pc0) (hy : y ≠ 0) (K : Go p e below P T (mkF m (pc0 + 1) Ls (.int (x % y) :: st))) : Go p e below P T (mkF m pc Ls (.int y :: .int x :: st)) := by
  subst hpc
  exact Go.of (fun _ q => iremM X hx rfl hd rfl hy q) K
theorem Go.lrem (X : Stand p l e R s m args below meth c T locs cells slots) (hx : p.tables.exec = Jvm.exec) {x y : Int64} (hd : decode c.code pc0 = .ok (.lrem, 1)) (hpc : pc = pc0) (hy : y ≠ 0) (K : Go p e below P T (mkF m (pc0 + 1) Ls (.long (x - (x / y) * y) :: st))) : Go p e below P T (mkF m pc Ls (.long y :: .long x :: st)) := by
  subst hpc
  exact Go.of (fun _ q => XS.lrem X.here hx rfl hd rfl hy q) K
theorem Go.ishl (X : Stand p l e R s m args below meth c T locs cells slots) (hx : p.tables.exec = Jvm.exec) {x y : Int32} (hd : decode c.code pc0 = .ok (.ishl, 1)) (hpc : pc = pc0)  (K : Go p e below P T (mkF m (pc0 + 1) Ls (.int (x <<< (y &&& 31)) :: st))) : Go p e below P T (mkF m pc Ls (.int y :: .int x :: st)) := by
  subst hpc
  exact Go.of (fun _ q => XS.ishl X.here hx rfl hd rfl q) K
theorem Go.ishr (X : Stand p l e R s m args below meth c T locs cells slots) (hx : p.tables.exec = Jvm.exec) {x y : Int32} (hd : decode c.code pc0 = .ok (.ishr, 1)) (hpc : pc = pc0)  (K : Go p e below P T (mkF m (pc0 + 1) Ls (.int (x >>> (y &&& 31)) :: st))) : Go p e below P T (mkF m pc Ls (.int y :: .int x :: st)) := by
  subst hpc
  exact Go.of (fun _ q => XS.ishr X.here hx rfl hd rfl q) K
theorem Go.iushr (X : Stand p l e R s m args below meth c T locs cells slots) (hx : p.tables.exec = Jvm.exec) {x y : Int32} (hd : decode c.code pc0 = .ok (.iushr, 1)) (hpc : pc = pc0)  (K : Go p e below P T (mkF m (pc0 + 1) Ls (.int ((x.toUInt32 >>> (y &&& 31).toUInt32).toInt32) :: st))) : Go p e below P T (mkF m pc Ls (.int y :: .int x :: st)) := by
  subst hpc
  exact Go.of (fun _ q => XS.iushr X.here hx rfl hd rfl q) K
theorem Go.lshl (X : Stand p l e R s m args below meth c T locs cells slots) (hx : p.tables.exec = Jvm.exec) {x : Int64} {y : Int32} (hd : decode c.code pc0 = .ok (.lshl, 1)) (hpc : pc = pc0)  (K : Go p e below P T (mkF m (pc0 + 1) Ls (.long (x <<< (y &&& 0x3f).toInt64) :: st))) : Go p e below P T (mkF m pc Ls (.int y :: .long x :: st)) := by
  subst hpc
  exact Go.of (fun _ q => XS.lshl X.here hx rfl hd rfl q) K
theorem Go.lshr (X : Stand p l e R s m args below meth c T locs cells slots) (hx : p.tables.exec = Jvm.exec) {x : Int64} {y : Int32} (hd : decode c.code pc0 = .ok (.lshr, 1)) (hpc : pc = pc0)  (K : Go p e below P T (mkF m (pc0 + 1) Ls (.long (x >>> (y &&& 0x3f).toInt64) :: st))) : Go p e below P T (mkF m pc Ls (.int y :: .long x :: st)) := by
  subst hpc
  exact Go.of (fun _ q => XS.lshr X.here hx rfl hd rfl q) K
theorem Go.lushr (X : Stand p l e R s m args below meth c T locs cells slots) (hx : p.tables.exec = Jvm.exec) {x : Int64} {y : Int32} (hd : decode c.code pc0 = .ok (.lushr, 1)) (hpc : pc = pc0)  (K : Go p e below P T (mkF m (pc0 + 1) Ls (.long ((x.toUInt64 >>> (y &&& 0x3f).toInt64.toUInt64).toInt64) :: st))) : Go p e below P T (mkF m pc Ls (.int y :: .long x :: st)) := by
  subst hpc
  exact Go.of (fun _ q => XS.lushr X.here hx rfl hd rfl q) K
theorem Go.i2l (X : Stand p l e R s m args below meth c T locs cells slots) (hx : p.tables.exec = Jvm.exec) {x : Int32} (hd : decode c.code pc0 = .ok (.i2l, 1)) (hpc : pc = pc0)  (K : Go p e below P T (mkF m (pc0 + 1) Ls (.long x.toInt64 :: st))) : Go p e below P T (mkF m pc Ls (.int x :: st)) := by
  subst hpc
  exact Go.of (fun _ q => XS.i2l X.here hx rfl hd rfl q) K
theorem Go.l2i (X : Stand p l e R s m args below meth c T locs cells slots) (hx : p.tables.exec = Jvm.exec) {x : Int64} (hd : decode c.code pc0 = .ok (.l2i, 1)) (hpc : pc = pc0)  (K : Go p e below P T (mkF m (pc0 + 1) Ls (.int x.toInt32 :: st))) : Go p e below P T (mkF m pc Ls (.long x :: st)) := by
  subst hpc
  exact Go.of (fun _ q => XS.l2i X.here hx rfl hd rfl q) K
theorem Go.i2b (X : Stand p l e R s m args below meth c T locs cells slots) (hx : p.tables.exec = Jvm.exec) {x : Int32} (hd : decode c.code pc0 = .ok (.i2b, 1)) (hpc : pc = pc0)  (K : Go p e below P T (mkF m (pc0 + 1) Ls (.int x.toInt8.toInt32 :: st))) : Go p e below P T (mkF m pc Ls (.int x :: st)) := by
  subst hpc
  exact Go.of (fun _ q => XS.i2b X.here hx rfl hd rfl q) K
theorem Go.i2s (X : Stand p l e R s m args below meth c T locs cells slots) (hx : p.tables.exec = Jvm.exec) {x : Int32} (hd : decode c.code pc0 = .ok (.i2s, 1)) (hpc : pc = pc0)  (K : Go p e below P T (mkF m (pc0 + 1) Ls (.int x.toInt16.toInt32 :: st))) : Go p e below P T (mkF m pc Ls (.int x :: st)) := by
  subst hpc
  exact Go.of (fun _ q => XS.i2s X.here hx rfl hd rfl q) K
theorem Go.i2c (X : Stand p l e R s m args below meth c T locs cells slots) (hx : p.tables.exec = Jvm.exec) {x : Int32} (hd : decode c.code pc0 = .ok (.i2c, 1)) (hpc : pc = pc0)  (K : Go p e below P T (mkF m (pc0 + 1) Ls (.int x.toUInt32.toUInt16.toUInt32.toInt32 :: st))) : Go p e below P T (mkF m pc Ls (.int x :: st)) := by
  subst hpc
  exact Go.of (fun _ q => XS.i2c X.here hx rfl hd rfl q) K
theorem Go.lcmp (X : Stand p l e R s m args below meth c T locs cells slots) (hx : p.tables.exec = Jvm.exec) {x y : Int64} (hd : decode c.code pc0 = .ok (.lcmp, 1)) (hpc : pc = pc0)  (K : Go p e below P T (mkF m (pc0 + 1) Ls (.int (lcmpW x y) :: st))) : Go p e below P T (mkF m pc Ls (.long y :: .long x :: st)) := by
  subst hpc
  exact Go.of (fun _ q => XS.lcmp X.here hx rfl hd rfl q) K
theorem Go.dup (X : Stand p l e R s m args below meth c T locs cells slots) (hx : p.tables.exec = Jvm.exec) {x : Value} (hd : decode c.code pc0 = .ok (.dup, 1)) (hpc : pc = pc0) (hc : x.category = 1) (K : Go p e below P T (mkF m (pc0 + 1) Ls (x :: x :: st))) : Go p e below P T (mkF m pc Ls (x :: st)) := by
  subst hpc
  exact Go.of (fun _ q => XS.dup X.here hx rfl hd rfl hc q) K
theorem Go.dupX1 (X : Stand p l e R s m args below meth c T locs cells slots) (hx : p.tables.exec = Jvm.exec) {x y : Value} (hd : decode c.code pc0 = .ok (.dup_x1, 1)) (hpc : pc = pc0) (hc : x.category = 1) (hc' : y.category = 1) (K : Go p e below P T (mkF m (pc0 + 1) Ls (x :: y :: x :: st))) : Go p e below P T (mkF m pc Ls (x :: y :: st)) := by
  subst hpc
  exact Go.of (fun _ q => XS.dupX1 X.here hx rfl hd rfl hc hc' q) K
theorem Go.dup2 (X : Stand p l e R s m args below meth c T locs cells slots) (hx : p.tables.exec = Jvm.exec) {x y : Value} (hd : decode c.code pc0 = .ok (.dup2, 1)) (hpc : pc = pc0) (hc : x.category = 1) (hc' : y.category = 1) (K : Go p e below P T (mkF m (pc0 + 1) Ls (x :: y :: x :: y :: st))) : Go p e below P T (mkF m pc Ls (x :: y :: st)) := by
  subst hpc
  exact Go.of (fun _ q => XT.dup2 X.here hx rfl hd rfl hc hc' q) K
theorem Go.pop (X : Stand p l e R s m args below meth c T locs cells slots) (hx : p.tables.exec = Jvm.exec) {x : Value} (hd : decode c.code pc0 = .ok (.pop, 1)) (hpc : pc = pc0) (hc : x.category = 1) (K : Go p e below P T (mkF m (pc0 + 1) Ls (st))) : Go p e below P T (mkF m pc Ls (x :: st)) := by
  subst hpc
  exact Go.of (fun _ q => XS.pop X.here hx rfl hd rfl hc q) K
theorem Go.iinc (X : Stand p l e R s m args below meth c T locs cells slots) (hx : p.tables.exec = Jvm.exec) {k : Nat} {cst : Int} {x : Int32} (hd : decode c.code pc0 = .ok (.iinc k cst, 3)) (hpc : pc = pc0) (hl : Ls[k]? = some (.val (.int x))) (l' : Array Slot) (hl' : storeLocals Ls k (.int (x + Int32.ofInt cst)) = some l') (K : Go p e below P T (mkF m (pc0 + 3) l' (st))) : Go p e below P T (mkF m pc Ls (st)) := by
  subst hpc
  exact Go.of (fun _ q => XS.iinc X.here hx rfl hd hl hl' q) K
theorem Go.goto (X : Stand p l e R s m args below meth c T locs cells slots) (hx : p.tables.exec = Jvm.exec)  {o : Int} (hd : decode c.code pc0 = .ok (.goto o, 3)) (hpc : pc = pc0) (pc' : Nat)  (ho : 0 ≤ (pc0 : Int) + o) (hp : ((pc0 : Int) + o).toNat = pc') (K : Go p e below P T (mkF m pc' Ls st)) : Go p e below P T (mkF m pc Ls (st)) := by
  subst hpc
  exact Go.of (fun _ q => XS.goto X.here hx rfl rfl hd ho hp q) K
theorem Go.ifYes (X : Stand p l e R s m args below meth c T locs cells slots) (hx : p.tables.exec = Jvm.exec) {cd : ClassFile.Cond} {x : Int32} {o : Int} (hd : decode c.code pc0 = .ok (.ifCond cd o, 3)) (hpc : pc = pc0) (pc' : Nat) (hc : ifCond.holds cd x = true) (ho : 0 ≤ (pc0 : Int) + o) (hp : ((pc0 : Int) + o).toNat = pc') (K : Go p e below P T (mkF m pc' Ls st)) : Go p e below P T (mkF m pc Ls (.int x :: st)) := by
  subst hpc
  exact Go.of (fun _ q => XS.ifYes X.here hx rfl rfl hd rfl hc ho hp q) K
theorem Go.icmpYes (X : Stand p l e R s m args below meth c T locs cells slots) (hx : p.tables.exec = Jvm.exec) {cd : ClassFile.Cond} {x y : Int32} {o : Int} (hd : decode c.code pc0 = .ok (.if_icmp cd o, 3)) (hpc : pc = pc0) (pc' : Nat) (hc : if_icmp.holds cd x y = true) (ho : 0 ≤ (pc0 : Int) + o) (hp : ((pc0 : Int) + o).toNat = pc') (K : Go p e below P T (mkF m pc' Ls st)) : Go p e below P T (mkF m pc Ls (.int y :: .int x :: st)) := by
  subst hpc
  exact Go.of (fun _ q => XS.icmpYes X.here hx rfl rfl hd rfl hc ho hp q) K
theorem Go.ifnullYes (X : Stand p l e R s m args below meth c T locs cells slots) (hx : p.tables.exec = Jvm.exec)  {o : Int} (hd : decode c.code pc0 = .ok (.ifnull o, 3)) (hpc : pc = pc0) (pc' : Nat)  (ho : 0 ≤ (pc0 : Int) + o) (hp : ((pc0 : Int) + o).toNat = pc') (K : Go p e below P T (mkF m pc' Ls st)) : Go p e below P T (mkF m pc Ls (.null :: st)) := by
  subst hpc
  exact Go.of (fun _ q => XS.ifnullYes X.here hx rfl rfl hd rfl ho hp q) K
theorem Go.ifnonnullYes (X : Stand p l e R s m args below meth c T locs cells slots) (hx : p.tables.exec = Jvm.exec) {b : Addr} {o : Int} (hd : decode c.code pc0 = .ok (.ifnonnull o, 3)) (hpc : pc = pc0) (pc' : Nat)  (ho : 0 ≤ (pc0 : Int) + o) (hp : ((pc0 : Int) + o).toNat = pc') (K : Go p e below P T (mkF m pc' Ls st)) : Go p e below P T (mkF m pc Ls (.ref b :: st)) := by
  subst hpc
  exact Go.of (fun _ q => XS.ifnonnullYes X.here hx rfl rfl hd rfl ho hp q) K
theorem Go.ifNo (X : Stand p l e R s m args below meth c T locs cells slots) (hx : p.tables.exec = Jvm.exec) {cd : ClassFile.Cond} {o : Int} {x : Int32} (hd : decode c.code pc0 = .ok (.ifCond cd o, 3)) (hpc : pc = pc0) (hc : ifCond.holds cd x = false) (K : Go p e below P T (mkF m (pc0 + 3) Ls (st))) : Go p e below P T (mkF m pc Ls (.int x :: st)) := by
  subst hpc
  exact Go.of (fun _ q => XS.ifNo X.here hx rfl hd rfl hc q) K
theorem Go.icmpNo (X : Stand p l e R s m args below meth c T locs cells slots) (hx : p.tables.exec = Jvm.exec) {cd : ClassFile.Cond} {o : Int} {x y : Int32} (hd : decode c.code pc0 = .ok (.if_icmp cd o, 3)) (hpc : pc = pc0) (hc : if_icmp.holds cd x y = false) (K : Go p e below P T (mkF m (pc0 + 3) Ls (st))) : Go p e below P T (mkF m pc Ls (.int y :: .int x :: st)) := by
  subst hpc
  exact Go.of (fun _ q => XS.icmpNo X.here hx rfl hd rfl hc q) K
theorem Go.ifnullNo (X : Stand p l e R s m args below meth c T locs cells slots) (hx : p.tables.exec = Jvm.exec) {o : Int} {b : Addr} (hd : decode c.code pc0 = .ok (.ifnull o, 3)) (hpc : pc = pc0)  (K : Go p e below P T (mkF m (pc0 + 3) Ls (st))) : Go p e below P T (mkF m pc Ls (.ref b :: st)) := by
  subst hpc
  exact Go.of (fun _ q => XS.ifnullNo X.here hx rfl hd rfl q) K
theorem Go.ifnonnullNo (X : Stand p l e R s m args below meth c T locs cells slots) (hx : p.tables.exec = Jvm.exec) {o : Int} (hd : decode c.code pc0 = .ok (.ifnonnull o, 3)) (hpc : pc = pc0)  (K : Go p e below P T (mkF m (pc0 + 3) Ls (st))) : Go p e below P T (mkF m pc Ls (.null :: st)) := by
  subst hpc
  exact Go.of (fun _ q => XS.ifnonnullNo X.here hx rfl hd rfl q) K
theorem Go.acmp (X : Stand p l e R s m args below meth c T locs cells slots) (hx : p.tables.exec = Jvm.exec) {cd : ACond} {x y : Value} {o : Int} (hd : decode c.code pc0 = .ok (.if_acmp cd o, 3)) (hpc : pc = pc0) (h1 : x.isRef = true) (h2 : y.isRef = true) (same : Bool) (hq : decide (x = y) = same) (pc' : Nat) (ho : 0 ≤ (pc0 : Int) + o) (hp : pc' = if acV cd same = true then ((pc0 : Int) + o).toNat else pc0 + 3) (K : Go p e below P T (mkF m pc' Ls st)) : Go p e below P T (mkF m pc Ls (y :: x :: st)) := by
  subst hpc
  exact Go.of (fun _ q => Jvm.RoadKit.acmp X hx rfl h1 h2 rfl hd rfl hq ho hp q) K
theorem Go.tswIn (X : Stand p l e R s m args below meth c T locs cells slots) (hx : p.tables.exec = Jvm.exec) {dflt low high : Int} {offs : Array Int} {len : Nat} {o : Int} {i : Int32} (hd : decode c.code pc0 = .ok (.tableswitch dflt low high offs, len)) (hpc : pc = pc0) (pc' : Nat) (hin : ¬ (i.toInt < low ∨ i.toInt > high)) (hoff : offs[(i.toInt - low).toNat]? = some o) (ho : 0 ≤ (pc0 : Int) + o) (hp : ((pc0 : Int) + o).toNat = pc') (K : Go p e below P T (mkF m pc' Ls st)) : Go p e below P T (mkF m pc Ls (.int i :: st)) := by
  subst hpc
  exact Go.of (fun _ q => XS.tswIn X.here hx rfl rfl hd rfl hin hoff ho hp q) K
theorem Go.ldc (X : Stand p l e R s m args below meth c T locs cells slots) (hx : p.tables.exec = Jvm.exec) (hZ : Z.Warmed39 s.vm) {own : String} {index : Nat} (hown : s.vm.findClass own = some m.cls) {v : Int32} (w : (Cond.constant own index v).before a0 Z = true) (hd : decode c.code pc0 = .ok (.ldc index, 2)) (hpc : pc = pc0) (K : Go p e below P T (mkF m (pc0 + 2) Ls (.int v :: st))) : Go p e below P T (mkF m pc Ls st) := by
  subst hpc
  exact Go.of (fun _ q => X.ldcInt hx hown (mvT hZ w) (g := mkF m pc Ls st) rfl hd _ q) K
theorem Go.ldc_w (X : Stand p l e R s m args below meth c T locs cells slots) (hx : p.tables.exec = Jvm.exec) (hZ : Z.Warmed39 s.vm) {own : String} {index : Nat} (hown : s.vm.findClass own = some m.cls) {v : Int32} (w : (Cond.constant own index v).before a0 Z = true) (hd : decode c.code pc0 = .ok (.ldc_w index, 3)) (hpc : pc = pc0) (K : Go p e below P T (mkF m (pc0 + 3) Ls (.int v :: st))) : Go p e below P T (mkF m pc Ls st) := by
  subst hpc
  exact Go.of (fun _ q => X.ldcwInt hx hown (mvT hZ w) (g := mkF m pc Ls st) rfl hd _ q) K
theorem Go.ldc2_w (X : Stand p l e R s m args below meth c T locs cells slots) (hx : p.tables.exec = Jvm.exec) (hZ : Z.Warmed39 s.vm) {own : String} {index : Nat} (hown : s.vm.findClass own = some m.cls) {v : Int64} (w : (Cond.constantLong own index v).before a0 Z = true) (hd : decode c.code pc0 = .ok (.ldc2_w index, 3)) (hpc : pc = pc0) (K : Go p e below P T (mkF m (pc0 + 3) Ls (.long v :: st))) : Go p e below P T (mkF m pc Ls st) := by
  subst hpc
  exact Go.of (fun _ q => X.ldc2Long hx hown (mvT hZ w) (g := mkF m pc Ls st) rfl hd _ q) K
theorem Go.getS (X : Stand p l e R s m args below meth c T locs cells slots) (hx : p.tables.exec = Jvm.exec) (hZ : Z.Warmed39 s.vm) {own : String} {index : Nat} (hown : s.vm.findClass own = some m.cls) {R0 O n d host : String} {v : Value} (w : (Cond.fieldLink own index R0 n d).before a0 Z = true ∨ (Cond.fieldLinkNest own index R0 n d host).before a0 Z = true) (via : Via Z R0 O n d) (eT : T.heap = h) (F : Sta Z h O n d v) (hd : decode c.code pc0 = .ok (.getstatic index, 3)) (hpc : pc = pc0) (K : ∀ T', Stand p l e R s m args below meth c T' locs cells slots → T'.heap = h → Go p e below P T' (mkF m (pc0 + 3) Ls (v :: st))) : Go p e below P T (mkF m pc Ls st) := by
  subst hpc
  obtain ⟨T', X', e', q⟩ := getS2 X hx hZ hown w via eT F (g := mkF m pc Ls st) rfl hd
  exact Go.of q (K T' X' e')
theorem Go.getF (X : Stand p l e R s m args below meth c T locs cells slots) (hx : p.tables.exec = Jvm.exec) (hZ : Z.Warmed39 s.vm) {own : String} {index : Nat} (hown : s.vm.findClass own = some m.cls) {R0 O n d host : String} {a : Addr} {v : Value} (w : (Cond.fieldLink own index R0 n d).before a0 Z = true ∨ (Cond.fieldLinkNest own index R0 n d host).before a0 Z = true) (via : Via Z R0 O n d) (eT : T.heap = h) (F : Fld Z h a O n d v) (hd : decode c.code pc0 = .ok (.getfield index, 3)) (hpc : pc = pc0) (K : ∀ T', Stand p l e R s m args below meth c T' locs cells slots → T'.heap = h → Go p e below P T' (mkF m (pc0 + 3) Ls (v :: st))) : Go p e below P T (mkF m pc Ls (.ref a :: st)) := by
  subst hpc
  obtain ⟨T', X', e', q⟩ := Jvm.RoadKit.getF X hx hZ hown w via eT F (g := mkF m pc Ls (.ref a :: st)) rfl rfl hd
  exact Go.of q (K T' X' e')
theorem Go.putF (X : Stand p l e R s m args below meth c T locs cells slots) (hx : p.tables.exec = Jvm.exec) (hZ : Z.Warmed39 s.vm) {own : String} {index : Nat} (hown : s.vm.findClass own = some m.cls) {R0 O n d host C : String} {kk : Nat} {a : Addr} {v old : Value} {ty : FieldType} (w : (Cond.fieldLink own index R0 n d).before a0 Z = true ∨ (Cond.fieldLinkNest own index R0 n d host).before a0 Z = true) (via : Via Z R0 O n d) (eT : T.heap = h) (F : Fld Z h a O n d old) (E : Exa Z h a C) (L : (Cond.lays C O n d).before a0 Z = true ∨ ((Cond.laysFinal C O n d).before a0 Z = true ∧ own = O ∧ meth.name = "<init>")) (wi : (Cond.instantiable C kk).before a0 Z = true) (hty : parseFieldDescriptor d = some ty) (hn : narrow ty v = v) (hf : fits ty v = true) (hd : decode c.code pc0 = .ok (.putfield index, 3)) (hpc : pc = pc0)
    (K : ∀ T' h', Stand p l e R s m args below meth c T' (locs ++ [⟨a, Jvm.RoadKit.slotOf Z O n d⟩]) cells slots → T'.heap = h' → Wr h h' a (Jvm.RoadKit.slotOf Z O n d) v → Fld Z h' a O n d v → Go p e below P T' (mkF m (pc0 + 3) Ls st)) : Go p e below P T (mkF m pc Ls (v :: .ref a :: st)) := by
  subst hpc
  obtain ⟨T', h', X', e', W, q⟩ := Jvm.RoadKit.putF X hx hZ hown w via eT F E L wi hty hn hf (g := mkF m pc Ls (v :: .ref a :: st)) rfl rfl hd
  exact Go.of q (K T' h' X' e' W (F.same W))
theorem Go.newO (X : Stand p l e R s m args below meth c T locs cells slots) (hx : p.tables.exec = Jvm.exec) (hZ : Z.Warmed39 s.vm) {own : String} {index : Nat} (hown : s.vm.findClass own = some m.cls) {C : String} {n : Nat} (w : (Cond.classLink own index C).before a0 Z = true) (wi : (Cond.instantiable C n).before a0 Z = true) (wz : (Cond.initialized C).before a0 Z = true) (eT : T.heap = h) (hd : decode c.code pc0 = .ok (.new index, 3)) (hpc : pc = pc0) (hc : cells + 1 ≤ R.cells) (hl : slots + n ≤ R.slots)
    (K : ∀ T' h' b, b = h.size → Stand p l e R s m args below meth c T' locs (cells + 1) (slots + n) → T'.heap = h' → Ext h h' → Exa Z h' b C → (∀ {O nm d : String} {ty : FieldType}, Laid Z a0 C O nm d → parseFieldDescriptor d = some ty → Fld Z h' b O nm d (defaultValue ty)) → Go p e below P T' (mkF m (pc0 + 3) Ls (.ref b :: st))) : Go p e below P T (mkF m pc Ls st) := by
  subst hpc
  obtain ⟨T', h', X', e', E, A, D, -, q⟩ := Jvm.RoadKit.newO X hx hZ hown w wi wz eT (g := mkF m pc Ls st) rfl hd hc hl
  exact Go.of q (K T' h' _ rfl X' e' E A D)
theorem Go.initO (X : Stand p l e R s m args below meth c T locs cells slots) (hx : p.tables.exec = Jvm.exec) (hZ : Z.Warmed39 s.vm) {own : String} {index : Nat} (hown : s.vm.findClass own = some m.cls) (w1 : (Cond.methodLink own index Lib.objectInit).before a0 Z = true) (w2 : (Cond.instanceMethod Lib.objectInit).before a0 Z = true) (w3 : (Cond.code Lib.objectInit ⟨#[0xb1]⟩ 1 none).before a0 Z = true) (eT : T.heap = h) (hsz : Ls.size = c.maxLocals) {a : Addr} (hd : decode c.code pc0 = .ok (.invokespecial index, 3)) (hpc : pc = pc0) (hf : 1 ≤ R.frames) (hl : (st.map fun v => v.category).sum + 12 ≤ R.locals) (K : ∀ T', Stand p l e R s m args below meth c T' locs cells slots → T'.heap = h → Go p e below P T' (mkF m (pc0 + 3) Ls (st))) : Go p e below P T (mkF m pc Ls (.ref a :: st)) := by
  subst hpc
  obtain ⟨T', X', e', q⟩ := Jvm.RoadKit.initO X hx hZ hown w1 w2 w3 eT (g := mkF m pc Ls (.ref a :: st)) rfl hsz rfl hd hf (W := (st.map fun v => v.category).sum) (by show 2 * 0 + _ ≤ _; omega) hl
  exact Go.of q (K T' X' e')
theorem Go.alen (X : Stand p l e R s m args below meth c T locs cells slots) (hx : p.tables.exec = Jvm.exec) (hZ : Z.Warmed39 s.vm) {a : Addr} {k : ClassId} {ty : FieldType} {n : Int32} {vs : List Value} {dv : Value} (A : Arv Z h a k ty n vs dv) (eT : T.heap = h) (hd : decode c.code pc0 = .ok (.arraylength, 1)) (hpc : pc = pc0) (K : Go p e below P T (mkF m (pc0 + 1) Ls (.int n :: st))) : Go p e below P T (mkF m pc Ls (.ref a :: st)) := by
  subst hpc
  obtain ⟨cl, Ar, -, Sz, Ng, -, -⟩ := A
  refine Go.of (fun _ q => X.arraylength hx (by rw [eT]; exact Ar.1) (State.isArrayOf_alike hZ.alike Ar.2.1) (g := mkF m pc Ls (.ref a :: st)) rfl rfl hd _ q) ?_
  rw [len_of Sz Ng]
  exact K
theorem Go.iaload (X : Stand p l e R s m args below meth c T locs cells slots) (hx : p.tables.exec = Jvm.exec) (hZ : Z.Warmed39 s.vm) {a : Addr} {k : ClassId} {n : Int32} {vs : List Value} {dv : Value} {j : Int32} (v : Value) (A : Arv Z h a k .int n vs dv) (eT : T.heap = h) (hj : ¬ j < 0 ∧ j < n) (hv : vs.getD j.toNatClampNeg dv = v) (hd : decode c.code pc0 = .ok (.iaload, 1)) (hpc : pc = pc0) (K : Go p e below P T (mkF m (pc0 + 1) Ls (v :: st))) : Go p e below P T (mkF m pc Ls (.int j :: .ref a :: st)) := by
  subst hpc
  obtain ⟨cl, Ar, -, Sz, Ng, Hs, -⟩ := A
  have hin : ¬ (j < 0 ∨ cl.slots.size ≤ j.toNatClampNeg) := inb_of Sz hj
  exact Go.of (fun _ q => X.iaload hx (j := j) (v := v) (by rw [eT]; exact Ar.1) (State.isArrayOf_alike hZ.alike Ar.2.1) Ar.2.2 hin (Has.at Hs hin hv) (g := mkF m pc Ls (.int j :: .ref a :: st)) rfl rfl hd _ q) K
theorem Go.laload (X : Stand p l e R s m args below meth c T locs cells slots) (hx : p.tables.exec = Jvm.exec) (hZ : Z.Warmed39 s.vm) {a : Addr} {k : ClassId} {n : Int32} {vs : List Value} {dv : Value} {j : Int32} (v : Value) (A : Arv Z h a k .long n vs dv) (eT : T.heap = h) (hj : ¬ j < 0 ∧ j < n) (hv : vs.getD j.toNatClampNeg dv = v) (hd : decode c.code pc0 = .ok (.laload, 1)) (hpc : pc = pc0) (K : Go p e below P T (mkF m (pc0 + 1) Ls (v :: st))) : Go p e below P T (mkF m pc Ls (.int j :: .ref a :: st)) := by
  subst hpc
  obtain ⟨cl, Ar, -, Sz, Ng, Hs, -⟩ := A
  have hin : ¬ (j < 0 ∨ cl.slots.size ≤ j.toNatClampNeg) := inb_of Sz hj
  exact Go.of (fun _ q => X.laload hx (j := j) (v := v) (by rw [eT]; exact Ar.1) (State.isArrayOf_alike hZ.alike Ar.2.1) Ar.2.2 hin (Has.at Hs hin hv) (g := mkF m pc Ls (.int j :: .ref a :: st)) rfl rfl hd _ q) K
theorem Go.aaload (X : Stand p l e R s m args below meth c T locs cells slots) (hx : p.tables.exec = Jvm.exec) (hZ : Z.Warmed39 s.vm) {a : Addr} {k : ClassId} {ty : FieldType} {n : Int32} {vs : List Value} {dv : Value} {j : Int32} (v : Value) (A : Arv Z h a k ty n vs dv) (eT : T.heap = h) (hty : ty.isReference = true) (hj : ¬ j < 0 ∧ j < n) (hv : vs.getD j.toNatClampNeg dv = v) (hd : decode c.code pc0 = .ok (.aaload, 1)) (hpc : pc = pc0) (K : Go p e below P T (mkF m (pc0 + 1) Ls (v :: st))) : Go p e below P T (mkF m pc Ls (.int j :: .ref a :: st)) := by
  subst hpc
  obtain ⟨cl, Ar, -, Sz, Ng, Hs, -⟩ := A
  have hin : ¬ (j < 0 ∨ cl.slots.size ≤ j.toNatClampNeg) := inb_of Sz hj
  exact Go.of (fun _ q => X.aaload hx (j := j) (v := v) (by rw [eT]; exact Ar.1) (State.isArrayOf_alike hZ.alike Ar.2.1) hty Ar.2.2 hin (Has.at Hs hin hv) (g := mkF m pc Ls (.int j :: .ref a :: st)) rfl rfl hd _ q) K
theorem Go.iastore (X : Stand p l e R s m args below meth c T locs cells slots) (hx : p.tables.exec = Jvm.exec) (hZ : Z.Warmed39 s.vm) {a : Addr} {k : ClassId} {n : Int32} {vs : List Value} {dv : Value} {j : Int32} {x : Int32} (A : Arv Z h a k .int n vs dv) (eT : T.heap = h) (hj : ¬ j < 0 ∧ j < n) (i : Nat) (hi : j.toNatClampNeg = i) (hl : i < vs.length) (hd : decode c.code pc0 = .ok (.iastore, 1)) (hpc : pc = pc0)
    (K : ∀ T' h', Stand p l e R s m args below meth c T' (locs ++ [⟨a, j.toNatClampNeg⟩]) cells slots → T'.heap = h' → Wr h h' a j.toNatClampNeg (.int x) → Arv Z h' a k .int n (vs.set i (.int x)) dv → Go p e below P T' (mkF m (pc0 + 1) Ls st)) : Go p e below P T (mkF m pc Ls (.int x :: .int j :: .ref a :: st)) := by
  subst hpc
  obtain ⟨cl, Ar, cq, Sz, Ng, Hs, Gs⟩ := A
  have hin : ¬ (j < 0 ∨ cl.slots.size ≤ j.toNatClampNeg) := inb_of Sz hj
  obtain ⟨T', h', X', e', W, q⟩ := stI X hx hZ eT Ar (j := j) hin (g := mkF m pc Ls (.int x :: .int j :: .ref a :: st)) rfl rfl hd
  exact Go.of q (K T' h' X' e' W (Arv.set Ar cq Sz Ng Hs Gs rfl W i hi hl))
theorem Go.lastore (X : Stand p l e R s m args below meth c T locs cells slots) (hx : p.tables.exec = Jvm.exec) (hZ : Z.Warmed39 s.vm) {a : Addr} {k : ClassId} {n : Int32} {vs : List Value} {dv : Value} {j : Int32} {x : Int64} (A : Arv Z h a k .long n vs dv) (eT : T.heap = h) (hj : ¬ j < 0 ∧ j < n) (i : Nat) (hi : j.toNatClampNeg = i) (hl : i < vs.length) (hd : decode c.code pc0 = .ok (.lastore, 1)) (hpc : pc = pc0)
    (K : ∀ T' h', Stand p l e R s m args below meth c T' (locs ++ [⟨a, j.toNatClampNeg⟩]) cells slots → T'.heap = h' → Wr h h' a j.toNatClampNeg (.long x) → Arv Z h' a k .long n (vs.set i (.long x)) dv → Go p e below P T' (mkF m (pc0 + 1) Ls st)) : Go p e below P T (mkF m pc Ls (.long x :: .int j :: .ref a :: st)) := by
  subst hpc
  obtain ⟨cl, Ar, cq, Sz, Ng, Hs, Gs⟩ := A
  have hin : ¬ (j < 0 ∨ cl.slots.size ≤ j.toNatClampNeg) := inb_of Sz hj
  obtain ⟨T', h', X', e', W, q⟩ := stJ X hx hZ eT Ar (j := j) hin (g := mkF m pc Ls (.long x :: .int j :: .ref a :: st)) rfl rfl hd
  exact Go.of q (K T' h' X' e' W (Arv.set Ar cq Sz Ng Hs Gs rfl W i hi hl))
theorem Go.aastore (X : Stand p l e R s m args below meth c T locs cells slots) (hx : p.tables.exec = Jvm.exec) (hZ : Z.Warmed39 s.vm) {a : Addr} {k : ClassId} {ty : FieldType} {n : Int32} {vs : List Value} {dv : Value} {j : Int32} {v : Value} (A : Arv Z h a k ty n vs dv) (eT : T.heap = h) (hj : ¬ j < 0 ∧ j < n) (i : Nat) (hi : j.toNatClampNeg = i) (hl : i < vs.length) (hty : ty.isReference = true) (hfv : fits ty v = true) (F : ∀ cl, Arr Z h a cl ty → cl.cls = k → Sto Z h a v) (hd : decode c.code pc0 = .ok (.aastore, 1)) (hpc : pc = pc0)
    (K : ∀ T' h', Stand p l e R s m args below meth c T' (locs ++ [⟨a, j.toNatClampNeg⟩]) cells slots → T'.heap = h' → Wr h h' a j.toNatClampNeg (v) → Arv Z h' a k ty n (vs.set i (v)) dv → Go p e below P T' (mkF m (pc0 + 1) Ls st)) : Go p e below P T (mkF m pc Ls (v :: .int j :: .ref a :: st)) := by
  subst hpc
  obtain ⟨cl, Ar, cq, Sz, Ng, Hs, Gs⟩ := A
  have hin : ¬ (j < 0 ∨ cl.slots.size ≤ j.toNatClampNeg) := inb_of Sz hj
  obtain ⟨T', h', X', e', W, q⟩ := stR X hx hZ eT Ar (j := j) hin hty (F cl Ar cq) (g := mkF m pc Ls (v :: .int j :: .ref a :: st)) rfl rfl hd
  exact Go.of q (K T' h' X' e' W (Arv.set Ar cq Sz Ng Hs Gs hfv W i hi hl))
theorem Go.newP (X : Stand p l e R s m args below meth c T locs cells slots) (hx : p.tables.exec = Jvm.exec) (hZ : Z.Warmed39 s.vm) {aty : ArrayType} {n : Int32} (w : (Cond.arrayClass (newarray.typeOf aty)).before a0 Z = true) (eT : T.heap = h) (u : Nat) (hn : ¬ n < 0) (cap : Nat) (hcap : n.toNatClampNeg ≤ cap) (hb : cap * 8 ≤ 536870912) (hc : cells + 1 ≤ R.cells) (hl : slots + cap ≤ R.slots) (ad : String) (had : "[" ++ (newarray.typeOf aty).toString = ad) (hd : decode c.code pc0 = .ok (.newarray aty, 2)) (hpc : pc = pc0)
    (K : ∀ T' h' b k, b = h.size → Stand p l e R s m args below meth c T' locs (cells + 1) (slots + cap) → T'.heap = h' → Ext h h' → Arv Z h' b k (newarray.typeOf aty) n ([] ++ List.replicate u (defaultValue (newarray.typeOf aty))) (defaultValue (newarray.typeOf aty)) → Exa Z h' b ad → Go p e below P T' (mkF m (pc0 + 2) Ls (.ref b :: st))) : Go p e below P T (mkF m pc Ls (.int n :: st)) := by
  subst hpc
  obtain ⟨T', h', cA, X', e', E, A, A', q⟩ := newPE X hx hZ w eT (g := mkF m pc Ls (.int n :: st)) rfl hd rfl hn (cap := cap) hcap hb hc hl had
  exact Go.of q (K T' h' _ cA rfl X' e' E ((Arv.new A hn).pad (pad_rep [] _ u)) A')
theorem Go.newR (X : Stand p l e R s m args below meth c T locs cells slots) (hx : p.tables.exec = Jvm.exec) (hZ : Z.Warmed39 s.vm) {own : String} {index : Nat} (hown : s.vm.findClass own = some m.cls) {C : String} {n : Int32} (w1 : (Cond.classLink own index C).before a0 Z = true) (w2 : (Cond.arrayOver (.object C)).before a0 Z = true) (eT : T.heap = h) (u : Nat) (hn : ¬ n < 0) (cap : Nat) (hcap : n.toNatClampNeg ≤ cap) (hb : cap * 8 ≤ 536870912) (hc : cells + 1 ≤ R.cells) (hl : slots + cap ≤ R.slots) (hd : decode c.code pc0 = .ok (.anewarray index, 3)) (hpc : pc = pc0)
    (K : ∀ T' h' b k, b = h.size → Stand p l e R s m args below meth c T' locs (cells + 1) (slots + cap) → T'.heap = h' → Ext h h' → Arv Z h' b k (.object C) n ([] ++ List.replicate u (.null)) (.null) → Ovr Z k C → Go p e below P T' (mkF m (pc0 + 3) Ls (.ref b :: st))) : Go p e below P T (mkF m pc Ls (.int n :: st)) := by
  subst hpc
  obtain ⟨T', h', cA, X', e', E, A, O, q⟩ := Jvm.RoadKit.newR X hx hZ hown w1 w2 eT (g := mkF m pc Ls (.int n :: st)) rfl hd rfl hn (cap := cap) hcap hb hc hl
  exact Go.of q (K T' h' _ cA rfl X' e' E ((Arv.new A hn).pad (pad_rep [] _ u)) O)
theorem Go.newRA (X : Stand p l e R s m args below meth c T locs cells slots) (hx : p.tables.exec = Jvm.exec) (hZ : Z.Warmed39 s.vm) {own : String} {index : Nat} (hown : s.vm.findClass own = some m.cls) {C : String} {ty : FieldType} {n : Int32} (hC : (FieldType.array ty).toString = C) (w1 : (Cond.classLink own index C).before a0 Z = true) (w2 : (Cond.arrayOver (.array ty)).before a0 Z = true) (eT : T.heap = h) (u : Nat) (hn : ¬ n < 0) (cap : Nat) (hcap : n.toNatClampNeg ≤ cap) (hb : cap * 8 ≤ 536870912) (hc : cells + 1 ≤ R.cells) (hl : slots + cap ≤ R.slots) (hd : decode c.code pc0 = .ok (.anewarray index, 3)) (hpc : pc = pc0)
    (K : ∀ T' h' b k, b = h.size → Stand p l e R s m args below meth c T' locs (cells + 1) (slots + cap) → T'.heap = h' → Ext h h' → Arv Z h' b k (.array ty) n ([] ++ List.replicate u (.null)) (.null) → OvrA Z k ty C → Go p e below P T' (mkF m (pc0 + 3) Ls (.ref b :: st))) : Go p e below P T (mkF m pc Ls (.int n :: st)) := by
  subst hpc
  obtain ⟨T', h', cA, X', e', E, A, -, O, q⟩ := Jvm.RoadKit.newRA X hx hZ hown hC w1 w2 eT (g := mkF m pc Ls (.int n :: st)) rfl hd rfl hn (cap := cap) hcap hb hc hl rfl
  exact Go.of q (K T' h' _ cA rfl X' e' E ((Arv.new A hn).pad (pad_rep [] _ u)) O)
end OwnSteps
theorem own_i32 {k n : Int32} {v : Int} (h : k.toInt = v) (hv : n.toInt = v) : k = n := Int32.toInt_inj.mp (h.trans hv.symm)
theorem own_len3 (x : Int32) : (((x).toUInt32 >>> ((2 : Int32) &&& 31).toUInt32).toInt32 &&& (3 : Int32)) % (3 : Int32) = 0 ∨ (((x).toUInt32 >>> ((2 : Int32) &&& 31).toUInt32).toInt32 &&& (3 : Int32)) % (3 : Int32) = 1 ∨ (((x).toUInt32 >>> ((2 : Int32) &&& 31).toUInt32).toInt32 &&& (3 : Int32)) % (3 : Int32) = 2 := by
  generalize ((x).toUInt32 >>> ((2 : Int32) &&& 31).toUInt32).toInt32 = y
  have e1 : (y &&& (3 : Int32)).toInt = y.toInt % 2 ^ 2 := Jvm.Kit.i32_mask y 3 (k := 2) (by decide) (by decide)
  have e2 := Jvm.Kit.i32_rem_nonneg (x := y &&& (3 : Int32)) (y := 3) (by omega)
  rw [show (3 : Int32).toInt = 3 from by decide] at e2
  generalize (y &&& (3 : Int32)) % (3 : Int32) = k at *
  have e3 : k.toInt = 0 ∨ k.toInt = 1 ∨ k.toInt = 2 := by omega
  rcases e3 with h | h | h
  · exact Or.inl (own_i32 h (by decide))
  · exact Or.inr (Or.inl (own_i32 h (by decide)))
  · exact Or.inr (Or.inr (own_i32 h (by decide)))
theorem pd_0 : parseMethodDescriptor "()V" = some ⟨[], none⟩ := by decide +kernel
theorem pd_1 : parseMethodDescriptor "(J)J" = some ⟨[.long], some .long⟩ := by decide +kernel
theorem pd_2 : parseMethodDescriptor "(JJ)V" = some ⟨[.long, .long], none⟩ := by decide +kernel
theorem pd_3 : parseMethodDescriptor "([I[IJI)Lcom/example/unika/unika/anonymize/RecodingMetric$Evaluation;" = some ⟨[(.array .int), (.array .int), .long, .int], some (.object "com/example/unika/unika/anonymize/RecodingMetric$Evaluation")⟩ := by decide +kernel
theorem pd_4 : parseMethodDescriptor "()J" = some ⟨[], some .long⟩ := by decide +kernel
theorem pd_5 : parseMethodDescriptor "(ZII)J" = some ⟨[.boolean, .int, .int], some .long⟩ := by decide +kernel
theorem pd_6 : parseMethodDescriptor "(JJ)J" = some ⟨[.long, .long], some .long⟩ := by decide +kernel
def Facts (Z : State) (a_DM : Addr) (a_CM : Addr) : Prop := (Sta Z Z.heap "com/example/unika/unika/anonymize/RecodingMetric" "DM" "Lcom/example/unika/unika/anonymize/RecodingMetric;" (.ref a_DM)) ∧ (Exa Z Z.heap a_DM "com/example/unika/unika/anonymize/RecodingMetric$1") ∧ (Sta Z Z.heap "com/example/unika/unika/anonymize/RecodingMetric" "CM" "Lcom/example/unika/unika/anonymize/RecodingMetric;" (.ref a_CM)) ∧ (Exa Z Z.heap a_CM "com/example/unika/unika/anonymize/RecodingMetric$2") ∧ (a_DM ≠ a_CM)
theorem d4_0 : decode jdk_30_method_1_code 0 = .ok (.aload_n 0, 1) := by decide +kernel
theorem d4_1 : decode jdk_30_method_1_code 1 = .ok (.invokespecial 1, 3) := by decide +kernel
theorem d4_4 : decode jdk_30_method_1_code 4 = .ok (.return_, 1) := by decide +kernel
theorem pn_4 : plainName "java/lang/Record" = true := by first | (simp [plainName, overriddenIn]; done) | decide +kernel
theorem ef_4 (m : MethodId) (x0 : Addr) : entryFrame m #[(.ref x0)] 1 = mkF m 0 #[.val (.ref x0)] [] := by first | (simp [entryFrame, mkF, argsToLocals, Value.category]; done) | rfl
set_option maxRecDepth 65536 in
set_option maxHeartbeats 40000000 in
theorem rmR (l : Launch) (Z : State) (a0 : Array Value) (hw : ∀ d ∈ tables_1, d.before a0 Z = true) (a : Addr) (h0 : Heap) (O0 : Old Z Z.heap.size h0)  : Ctr l Z (⟨"java/lang/Record", "<init>", "()V"⟩ : MethodName) jdk_30_method_1_code 1 none ({ frames := 1, cells := 0, slots := 0, locals := 12 } : Room) #[(.ref a)] h0 (fun v h L => v = none ∧ L = [] ∧ h = h0) := by
  refine Ctr.of (plainFor_of_name pn_4) ?_
  have wd : ∀ {d : Jvm.Cond} (i : Nat), tables_1[i]? = some d → d.before a0 Z = true := fun i q => hw _ (List.mem_of_getElem? q)
  intro p e s m below meth c s₁ hx hby hml hown hnm hret hlk hZ X0 e0
  refine Go.cast (ef_4 m a) ?_
  show Go p e below _ s₁ (mkF m 0 #[.val (.ref a)] [])
  refine Go.aloadN X0 hx (hb hby d4_0) rfl rfl rfl ?_
  refine Go.initO X0 hx hZ hown (wd 26 rfl) (wd 27 rfl) (wd 28 rfl) e0 (by rw [hml]; rfl) (hb hby d4_1) rfl (Nat.le_of_ble_eq_true rfl) (Nat.le_of_ble_eq_true rfl) ?_
  intro T1 X1 e1
  exact Go.retV X1 hx hret hlk (hb hby d4_4) rfl (by rw [e1]; exact ⟨rfl, rfl, rfl⟩) (Nat.le_of_ble_eq_true rfl) (Nat.le_of_ble_eq_true rfl)
theorem d3_0 : decode prog_42_method_1_code 0 = .ok (.aload_n 0, 1) := by decide +kernel
theorem d3_1 : decode prog_42_method_1_code 1 = .ok (.invokespecial 1, 3) := by decide +kernel
theorem d3_4 : decode prog_42_method_1_code 4 = .ok (.aload_n 0, 1) := by decide +kernel
theorem d3_5 : decode prog_42_method_1_code 5 = .ok (.lload_n 1, 1) := by decide +kernel
theorem d3_6 : decode prog_42_method_1_code 6 = .ok (.putfield 7, 3) := by decide +kernel
theorem d3_9 : decode prog_42_method_1_code 9 = .ok (.aload_n 0, 1) := by decide +kernel
theorem d3_10 : decode prog_42_method_1_code 10 = .ok (.lload_n 3, 1) := by decide +kernel
theorem d3_11 : decode prog_42_method_1_code 11 = .ok (.putfield 13, 3) := by decide +kernel
theorem d3_14 : decode prog_42_method_1_code 14 = .ok (.return_, 1) := by decide +kernel
theorem pn_3 : plainName "com/example/unika/unika/anonymize/RecodingMetric$Evaluation" = true := by first | (simp [plainName, overriddenIn]; done) | decide +kernel
theorem ef_3 (m : MethodId) (x0 : Addr) (x1 : Int64) (x2 : Int64) : entryFrame m #[(.ref x0), (.long x1), (.long x2)] 5 = mkF m 0 #[.val (.ref x0), .val (.long x1), .second, .val (.long x2), .second] [] := by first | (simp [entryFrame, mkF, argsToLocals, Value.category]; done) | rfl
set_option maxRecDepth 65536 in
set_option maxHeartbeats 40000000 in
theorem rmE (l : Launch) (Z : State) (a0 : Array Value) (hw : ∀ d ∈ tables_1, d.before a0 Z = true) (a : Addr) (u w : Int64) (h0 : Heap) (O0 : Old Z Z.heap.size h0) (Ea : Exa Z h0 a "com/example/unika/unika/anonymize/RecodingMetric$Evaluation") (ga : Z.heap.size ≤ a) (F_suppressedRows : Fld Z h0 a "com/example/unika/unika/anonymize/RecodingMetric$Evaluation" "suppressedRows" "J" (.long 0)) (F_cost : Fld Z h0 a "com/example/unika/unika/anonymize/RecodingMetric$Evaluation" "cost" "J" (.long 0)) : Ctr l Z (⟨"com/example/unika/unika/anonymize/RecodingMetric$Evaluation", "<init>", "(JJ)V"⟩ : MethodName) prog_42_method_1_code 5 none ({ frames := 2, cells := 0, slots := 0, locals := 24 } : Room) #[(.ref a), (.long u), (.long w)] h0 (fun v h L => v = none ∧ Fr Z.heap.size L ∧ Keep h0 h [a] ∧ Exa Z h a "com/example/unika/unika/anonymize/RecodingMetric$Evaluation" ∧ Fld Z h a "com/example/unika/unika/anonymize/RecodingMetric$Evaluation" "suppressedRows" "J" (.long u) ∧ Fld Z h a "com/example/unika/unika/anonymize/RecodingMetric$Evaluation" "cost" "J" (.long w)) := by
  refine Ctr.of (plainFor_of_name pn_3) ?_
  have wd : ∀ {d : Jvm.Cond} (i : Nat), tables_1[i]? = some d → d.before a0 Z = true := fun i q => hw _ (List.mem_of_getElem? q)
  intro p e s m below meth c s₁ hx hby hml hown hnm hret hlk hZ X0 e0
  refine Go.cast (ef_3 m a u w) ?_
  show Go p e below _ s₁ (mkF m 0 #[.val (.ref a), .val (.long u), .second, .val (.long w), .second] [])
  refine Go.aloadN X0 hx (hb hby d3_0) rfl rfl rfl ?_
  refine Go.callI X0 hx hZ rfl hown (wd 21 rfl) (wd 22 rfl) (wd 24 rfl) (wd 25 rfl) (by decide) [] [] (rmR l Z a0 hw a h0 O0) e0 rfl (by rw [hml]; rfl) pd_0 rfl (hb hby d3_1) (Nat.le_of_ble_eq_true rfl) (Nat.le_of_ble_eq_true rfl) (Nat.le_of_ble_eq_true rfl) (Nat.le_of_ble_eq_true rfl) ?_
  rintro vv1 T1 L1 X1 Q1
  obtain ⟨rfl, rfl, e1⟩ := Q1
  rw [List.append_nil] at X1
  refine Go.aloadN X1 hx (hb hby d3_4) rfl rfl rfl ?_
  refine Go.lloadN X1 hx (hb hby d3_5) rfl rfl  ?_
  refine Go.putF X1 hx hZ hown (host := "") (Or.inl (wd 29 rfl)) Via.refl e1 F_suppressedRows Ea (Or.inr ⟨wd 30 rfl, rfl, hnm⟩) (wd 10 rfl) (ty := .long) (by decide) rfl rfl (hb hby d3_6) rfl ?_
  intro T2 h2 X2 e2 W2 F3
  have K4 := (Keep.refl h0 [a]).wr W2 (Or.inl (List.mem_of_getElem? (i := 0) rfl))
  have O5 := O0.wr W2 ga
  have N6 := Fr.snoc X2 (Fr.nil _) ga
  have E7 := Ea.wr W2
  have F8 := F_cost.other W2 (Or.inr (slot_ne (Or.inr (wd 32 rfl)) (Or.inr (wd 30 rfl)) (by decide) (t := .long) (t' := .long) (by decide) (by decide)))
  refine Go.aloadN X2 hx (hb hby d3_9) rfl rfl rfl ?_
  refine Go.lloadN X2 hx (hb hby d3_10) rfl rfl  ?_
  refine Go.putF X2 hx hZ hown (host := "") (Or.inl (wd 31 rfl)) Via.refl e2 F8 E7 (Or.inr ⟨wd 32 rfl, rfl, hnm⟩) (wd 10 rfl) (ty := .long) (by decide) rfl rfl (hb hby d3_11) rfl ?_
  intro T9 h9 X9 e9 W9 F10
  have K11 := K4.wr W9 (Or.inl (List.mem_of_getElem? (i := 0) rfl))
  have O12 := O5.wr W9 ga
  have N13 := Fr.snoc X9 N6 ga
  have E14 := E7.wr W9
  have F15 := F3.other W9 (Or.inr (slot_ne (Or.inr (wd 30 rfl)) (Or.inr (wd 32 rfl)) (by decide) (t := .long) (t' := .long) (by decide) (by decide)))
  exact Go.retV X9 hx hret hlk (hb hby d3_14) rfl (by rw [e9]; exact ⟨rfl, N13, K11, E14, F15, F10⟩) (Nat.le_of_ble_eq_true rfl) (Nat.le_of_ble_eq_true rfl)
theorem d6_0 : decode prog_42_method_5_code 0 = .ok (.aload_n 0, 1) := by decide +kernel
theorem d6_1 : decode prog_42_method_5_code 1 = .ok (.getfield 7, 3) := by decide +kernel
theorem d6_4 : decode prog_42_method_5_code 4 = .ok (.lreturn, 1) := by decide +kernel
theorem ef_6 (m : MethodId) (x0 : Addr) : entryFrame m #[(.ref x0)] 1 = mkF m 0 #[.val (.ref x0)] [] := by first | (simp [entryFrame, mkF, argsToLocals, Value.category]; done) | rfl
set_option maxRecDepth 65536 in
set_option maxHeartbeats 40000000 in
theorem rmS (l : Launch) (Z : State) (a0 : Array Value) (hw : ∀ d ∈ tables_1, d.before a0 Z = true) (a : Addr) (u : Int64) (h0 : Heap) (F : Fld Z h0 a "com/example/unika/unika/anonymize/RecodingMetric$Evaluation" "suppressedRows" "J" (.long u)) : Pur l Z (⟨"com/example/unika/unika/anonymize/RecodingMetric$Evaluation", "suppressedRows", "()J"⟩ : MethodName) prog_42_method_5_code 1 (some .long) 0 0 #[(.ref a)] h0 (some (.long u)) := by
  refine Ctr.of (plainFor_of_name pn_3) ?_
  have wd : ∀ {d : Jvm.Cond} (i : Nat), tables_1[i]? = some d → d.before a0 Z = true := fun i q => hw _ (List.mem_of_getElem? q)
  intro p e s m below meth c s₁ hx hby hml hown hnm hret hlk hZ X0 e0
  refine Go.cast (ef_6 m a) ?_
  show Go p e below _ s₁ (mkF m 0 #[.val (.ref a)] [])
  refine Go.aloadN X0 hx (hb hby d6_0) rfl rfl rfl ?_
  refine Go.getF X0 hx hZ hown (host := "") (Or.inl (wd 29 rfl)) Via.refl e0 F (hb hby d6_1) rfl ?_
  intro T1 X1 e1
  exact Go.retJ X1 hx hret hlk (hb hby d6_4) rfl ⟨by first | rfl | simp [], rfl, e1⟩ (Nat.le_of_ble_eq_true rfl) (Nat.le_of_ble_eq_true rfl)
theorem d7_0 : decode prog_42_method_6_code 0 = .ok (.aload_n 0, 1) := by decide +kernel
theorem d7_1 : decode prog_42_method_6_code 1 = .ok (.getfield 13, 3) := by decide +kernel
theorem d7_4 : decode prog_42_method_6_code 4 = .ok (.lreturn, 1) := by decide +kernel
theorem ef_7 (m : MethodId) (x0 : Addr) : entryFrame m #[(.ref x0)] 1 = mkF m 0 #[.val (.ref x0)] [] := by first | (simp [entryFrame, mkF, argsToLocals, Value.category]; done) | rfl
set_option maxRecDepth 65536 in
set_option maxHeartbeats 40000000 in
theorem rmC (l : Launch) (Z : State) (a0 : Array Value) (hw : ∀ d ∈ tables_1, d.before a0 Z = true) (a : Addr) (u : Int64) (h0 : Heap) (F : Fld Z h0 a "com/example/unika/unika/anonymize/RecodingMetric$Evaluation" "cost" "J" (.long u)) : Pur l Z (⟨"com/example/unika/unika/anonymize/RecodingMetric$Evaluation", "cost", "()J"⟩ : MethodName) prog_42_method_6_code 1 (some .long) 0 0 #[(.ref a)] h0 (some (.long u)) := by
  refine Ctr.of (plainFor_of_name pn_3) ?_
  have wd : ∀ {d : Jvm.Cond} (i : Nat), tables_1[i]? = some d → d.before a0 Z = true := fun i q => hw _ (List.mem_of_getElem? q)
  intro p e s m below meth c s₁ hx hby hml hown hnm hret hlk hZ X0 e0
  refine Go.cast (ef_7 m a) ?_
  show Go p e below _ s₁ (mkF m 0 #[.val (.ref a)] [])
  refine Go.aloadN X0 hx (hb hby d7_0) rfl rfl rfl ?_
  refine Go.getF X0 hx hZ hown (host := "") (Or.inl (wd 31 rfl)) Via.refl e0 F (hb hby d7_1) rfl ?_
  intro T1 X1 e1
  exact Go.retJ X1 hx hret hlk (hb hby d7_4) rfl ⟨by first | rfl | simp [], rfl, e1⟩ (Nat.le_of_ble_eq_true rfl) (Nat.le_of_ble_eq_true rfl)
theorem d9_0 : decode prog_40_method_2_code 0 = .ok (.lload_n 1, 1) := by decide +kernel
theorem d9_1 : decode prog_40_method_2_code 1 = .ok (.lload_n 1, 1) := by decide +kernel
theorem d9_2 : decode prog_40_method_2_code 2 = .ok (.lmul, 1) := by decide +kernel
theorem d9_3 : decode prog_40_method_2_code 3 = .ok (.lreturn, 1) := by decide +kernel
theorem pn_9 : plainName "com/example/unika/unika/anonymize/RecodingMetric$1" = true := by first | (simp [plainName, overriddenIn]; done) | decide +kernel
theorem ef_9 (m : MethodId) (x0 : Addr) (x1 : Int64) (x2 : Int64) : entryFrame m #[(.ref x0), (.long x1), (.long x2)] 5 = mkF m 0 #[.val (.ref x0), .val (.long x1), .second, .val (.long x2), .second] [] := by first | (simp [entryFrame, mkF, argsToLocals, Value.category]; done) | rfl
set_option maxRecDepth 65536 in
set_option maxHeartbeats 40000000 in
theorem rmK1 (l : Launch) (Z : State) (a0 : Array Value) (hw : ∀ d ∈ tables_1, d.before a0 Z = true) (a : Addr) (u1 u2 : Int64) (h0 : Heap)  : Pur l Z (⟨"com/example/unika/unika/anonymize/RecodingMetric$1", "keptClass", "(JJ)J"⟩ : MethodName) prog_40_method_2_code 5 (some .long) 0 0 #[(.ref a), (.long u1), (.long u2)] h0 (some (.long (u1 * u1))) := by
  refine Ctr.of (plainFor_of_name pn_9) ?_
  have wd : ∀ {d : Jvm.Cond} (i : Nat), tables_1[i]? = some d → d.before a0 Z = true := fun i q => hw _ (List.mem_of_getElem? q)
  intro p e s m below meth c s₁ hx hby hml hown hnm hret hlk hZ X0 e0
  refine Go.cast (ef_9 m a u1 u2) ?_
  show Go p e below _ s₁ (mkF m 0 #[.val (.ref a), .val (.long u1), .second, .val (.long u2), .second] [])
  refine Go.lloadN X0 hx (hb hby d9_0) rfl rfl  ?_
  refine Go.lloadN X0 hx (hb hby d9_1) rfl rfl  ?_
  refine Go.lmul X0 hx (hb hby d9_2) rfl ?_
  exact Go.retJ X0 hx hret hlk (hb hby d9_3) rfl ⟨by first | rfl | simp [], rfl, e0⟩ (Nat.le_of_ble_eq_true rfl) (Nat.le_of_ble_eq_true rfl)
theorem d10_0 : decode prog_41_method_2_code 0 = .ok (.lload_n 1, 1) := by decide +kernel
theorem d10_1 : decode prog_41_method_2_code 1 = .ok (.lload_n 3, 1) := by decide +kernel
theorem d10_2 : decode prog_41_method_2_code 2 = .ok (.lsub, 1) := by decide +kernel
theorem d10_3 : decode prog_41_method_2_code 3 = .ok (.lreturn, 1) := by decide +kernel
theorem pn_10 : plainName "com/example/unika/unika/anonymize/RecodingMetric$2" = true := by first | (simp [plainName, overriddenIn]; done) | decide +kernel
theorem ef_10 (m : MethodId) (x0 : Addr) (x1 : Int64) (x2 : Int64) : entryFrame m #[(.ref x0), (.long x1), (.long x2)] 5 = mkF m 0 #[.val (.ref x0), .val (.long x1), .second, .val (.long x2), .second] [] := by first | (simp [entryFrame, mkF, argsToLocals, Value.category]; done) | rfl
set_option maxRecDepth 65536 in
set_option maxHeartbeats 40000000 in
theorem rmK2 (l : Launch) (Z : State) (a0 : Array Value) (hw : ∀ d ∈ tables_1, d.before a0 Z = true) (a : Addr) (u1 u2 : Int64) (h0 : Heap)  : Pur l Z (⟨"com/example/unika/unika/anonymize/RecodingMetric$2", "keptClass", "(JJ)J"⟩ : MethodName) prog_41_method_2_code 5 (some .long) 0 0 #[(.ref a), (.long u1), (.long u2)] h0 (some (.long (u1 - u2))) := by
  refine Ctr.of (plainFor_of_name pn_10) ?_
  have wd : ∀ {d : Jvm.Cond} (i : Nat), tables_1[i]? = some d → d.before a0 Z = true := fun i q => hw _ (List.mem_of_getElem? q)
  intro p e s m below meth c s₁ hx hby hml hown hnm hret hlk hZ X0 e0
  refine Go.cast (ef_10 m a u1 u2) ?_
  show Go p e below _ s₁ (mkF m 0 #[.val (.ref a), .val (.long u1), .second, .val (.long u2), .second] [])
  refine Go.lloadN X0 hx (hb hby d10_0) rfl rfl  ?_
  refine Go.lloadN X0 hx (hb hby d10_1) rfl rfl  ?_
  refine Go.lsub X0 hx (hb hby d10_2) rfl ?_
  exact Go.retJ X0 hx hret hlk (hb hby d10_3) rfl ⟨by first | rfl | simp [], rfl, e0⟩ (Nat.le_of_ble_eq_true rfl) (Nat.le_of_ble_eq_true rfl)
theorem d2_0 : decode prog_40_method_3_code 0 = .ok (.lload_n 1, 1) := by decide +kernel
theorem d2_1 : decode prog_40_method_3_code 1 = .ok (.lreturn, 1) := by decide +kernel
theorem ef_2 (m : MethodId) (x0 : Addr) (x1 : Int64) : entryFrame m #[(.ref x0), (.long x1)] 3 = mkF m 0 #[.val (.ref x0), .val (.long x1), .second] [] := by first | (simp [entryFrame, mkF, argsToLocals, Value.category]; done) | rfl
set_option maxRecDepth 65536 in
set_option maxHeartbeats 40000000 in
theorem rmV1 (l : Launch) (Z : State) (a0 : Array Value) (hw : ∀ d ∈ tables_1, d.before a0 Z = true) (a : Addr) (n : Int64) (h0 : Heap)  : Pur l Z (⟨"com/example/unika/unika/anonymize/RecodingMetric$1", "removedRow", "(J)J"⟩ : MethodName) prog_40_method_3_code 3 (some .long) 0 0 #[(.ref a), (.long n)] h0 (some (.long n)) := by
  refine Ctr.of (plainFor_of_name pn_9) ?_
  have wd : ∀ {d : Jvm.Cond} (i : Nat), tables_1[i]? = some d → d.before a0 Z = true := fun i q => hw _ (List.mem_of_getElem? q)
  intro p e s m below meth c s₁ hx hby hml hown hnm hret hlk hZ X0 e0
  refine Go.cast (ef_2 m a n) ?_
  show Go p e below _ s₁ (mkF m 0 #[.val (.ref a), .val (.long n), .second] [])
  refine Go.lloadN X0 hx (hb hby d2_0) rfl rfl  ?_
  exact Go.retJ X0 hx hret hlk (hb hby d2_1) rfl ⟨by first | rfl | simp [], rfl, e0⟩ (Nat.le_of_ble_eq_true rfl) (Nat.le_of_ble_eq_true rfl)
theorem d11_0 : decode prog_41_method_3_code 0 = .ok (.lconst 1, 1) := by decide +kernel
theorem d11_1 : decode prog_41_method_3_code 1 = .ok (.lreturn, 1) := by decide +kernel
theorem ef_11 (m : MethodId) (x0 : Addr) (x1 : Int64) : entryFrame m #[(.ref x0), (.long x1)] 3 = mkF m 0 #[.val (.ref x0), .val (.long x1), .second] [] := by first | (simp [entryFrame, mkF, argsToLocals, Value.category]; done) | rfl
set_option maxRecDepth 65536 in
set_option maxHeartbeats 40000000 in
theorem rmV2 (l : Launch) (Z : State) (a0 : Array Value) (hw : ∀ d ∈ tables_1, d.before a0 Z = true) (a : Addr) (n : Int64) (h0 : Heap)  : Pur l Z (⟨"com/example/unika/unika/anonymize/RecodingMetric$2", "removedRow", "(J)J"⟩ : MethodName) prog_41_method_3_code 3 (some .long) 0 0 #[(.ref a), (.long n)] h0 (some (.long (1 : Int64))) := by
  refine Ctr.of (plainFor_of_name pn_10) ?_
  have wd : ∀ {d : Jvm.Cond} (i : Nat), tables_1[i]? = some d → d.before a0 Z = true := fun i q => hw _ (List.mem_of_getElem? q)
  intro p e s m below meth c s₁ hx hby hml hown hnm hret hlk hZ X0 e0
  refine Go.cast (ef_11 m a n) ?_
  show Go p e below _ s₁ (mkF m 0 #[.val (.ref a), .val (.long n), .second] [])
  refine Go.lconst X0 hx (hb hby d11_0) rfl (1 : Int64) rfl ?_
  exact Go.retJ X0 hx hret hlk (hb hby d11_1) rfl ⟨by first | rfl | simp [], rfl, e0⟩ (Nat.le_of_ble_eq_true rfl) (Nat.le_of_ble_eq_true rfl)
theorem d8_0 : decode method_3_code 0 = .ok (.iload_n 0, 1) := by decide +kernel
theorem d8_1 : decode method_3_code 1 = .ok (.ifCond .eq 9, 3) := by decide +kernel
theorem d8_4 : decode method_3_code 4 = .ok (.iload_n 1, 1) := by decide +kernel
theorem d8_5 : decode method_3_code 5 = .ok (.i2l, 1) := by decide +kernel
theorem d8_6 : decode method_3_code 6 = .ok (.iload_n 2, 1) := by decide +kernel
theorem d8_7 : decode method_3_code 7 = .ok (.i2l, 1) := by decide +kernel
theorem d8_8 : decode method_3_code 8 = .ok (.lsub, 1) := by decide +kernel
theorem d8_9 : decode method_3_code 9 = .ok (.lreturn, 1) := by decide +kernel
theorem d8_10 : decode method_3_code 10 = .ok (.iload_n 1, 1) := by decide +kernel
theorem d8_11 : decode method_3_code 11 = .ok (.i2l, 1) := by decide +kernel
theorem d8_12 : decode method_3_code 12 = .ok (.iload_n 1, 1) := by decide +kernel
theorem d8_13 : decode method_3_code 13 = .ok (.i2l, 1) := by decide +kernel
theorem d8_14 : decode method_3_code 14 = .ok (.lmul, 1) := by decide +kernel
theorem d8_15 : decode method_3_code 15 = .ok (.lreturn, 1) := by decide +kernel
theorem pn_8 : plainName "com/example/unika/unika/anonymize/RecodingMetricEvaluatePinLaw" = true := by first | (simp [plainName, overriddenIn]; done) | decide +kernel
theorem ef_8 (m : MethodId) (x0 : Int32) (x1 : Int32) (x2 : Int32) : entryFrame m #[(.int x0), (.int x1), (.int x2)] 3 = mkF m 0 #[.val (.int x0), .val (.int x1), .val (.int x2)] [] := by first | (simp [entryFrame, mkF, argsToLocals, Value.category]; done) | rfl
set_option maxRecDepth 65536 in
set_option maxHeartbeats 40000000 in
theorem rmP0 (l : Launch) (Z : State) (a0 : Array Value) (hw : ∀ d ∈ tables_1, d.before a0 Z = true) (u1 u2 : Int32) (h0 : Heap)  : Pur l Z (⟨"com/example/unika/unika/anonymize/RecodingMetricEvaluatePinLaw", "keep", "(ZII)J"⟩ : MethodName) method_3_code 3 (some .long) 0 0 #[(.int (0 : Int32)), (.int u1), (.int u2)] h0 (some (.long (((u1).toInt64) * ((u1).toInt64)))) := by
  refine Ctr.of (plainFor_of_name pn_8) ?_
  have wd : ∀ {d : Jvm.Cond} (i : Nat), tables_1[i]? = some d → d.before a0 Z = true := fun i q => hw _ (List.mem_of_getElem? q)
  intro p e s m below meth c s₁ hx hby hml hown hnm hret hlk hZ X0 e0
  refine Go.cast (ef_8 m (0 : Int32) u1 u2) ?_
  show Go p e below _ s₁ (mkF m 0 #[.val (.int (0 : Int32)), .val (.int u1), .val (.int u2)] [])
  refine Go.iloadN X0 hx (hb hby d8_0) rfl rfl  ?_
  refine Go.ifYes X0 hx (hb hby d8_1) rfl 10 ((if0 _ _).trans (teq (by decide : (0 : Int32) = (0 : Int32))).1) (by decide) (by decide) ?_
  refine Go.iloadN X0 hx (hb hby d8_10) rfl rfl  ?_
  refine Go.i2l X0 hx (hb hby d8_11) rfl ?_
  refine Go.iloadN X0 hx (hb hby d8_12) rfl rfl  ?_
  refine Go.i2l X0 hx (hb hby d8_13) rfl ?_
  refine Go.lmul X0 hx (hb hby d8_14) rfl ?_
  exact Go.retJ X0 hx hret hlk (hb hby d8_15) rfl ⟨by first | rfl | simp [], rfl, e0⟩ (Nat.le_of_ble_eq_true rfl) (Nat.le_of_ble_eq_true rfl)
set_option maxRecDepth 65536 in
set_option maxHeartbeats 40000000 in
theorem rmP1 (l : Launch) (Z : State) (a0 : Array Value) (hw : ∀ d ∈ tables_1, d.before a0 Z = true) (u1 u2 : Int32) (h0 : Heap)  : Pur l Z (⟨"com/example/unika/unika/anonymize/RecodingMetricEvaluatePinLaw", "keep", "(ZII)J"⟩ : MethodName) method_3_code 3 (some .long) 0 0 #[(.int (1 : Int32)), (.int u1), (.int u2)] h0 (some (.long (((u1).toInt64) - ((u2).toInt64)))) := by
  refine Ctr.of (plainFor_of_name pn_8) ?_
  have wd : ∀ {d : Jvm.Cond} (i : Nat), tables_1[i]? = some d → d.before a0 Z = true := fun i q => hw _ (List.mem_of_getElem? q)
  intro p e s m below meth c s₁ hx hby hml hown hnm hret hlk hZ X0 e0
  refine Go.cast (ef_8 m (1 : Int32) u1 u2) ?_
  show Go p e below _ s₁ (mkF m 0 #[.val (.int (1 : Int32)), .val (.int u1), .val (.int u2)] [])
  refine Go.iloadN X0 hx (hb hby d8_0) rfl rfl  ?_
  refine Go.ifNo X0 hx (hb hby d8_1) rfl ((if0 _ _).trans (feq (by decide : ¬ ((1 : Int32) = (0 : Int32)))).1) ?_
  refine Go.iloadN X0 hx (hb hby d8_4) rfl rfl  ?_
  refine Go.i2l X0 hx (hb hby d8_5) rfl ?_
  refine Go.iloadN X0 hx (hb hby d8_6) rfl rfl  ?_
  refine Go.i2l X0 hx (hb hby d8_7) rfl ?_
  refine Go.lsub X0 hx (hb hby d8_8) rfl ?_
  exact Go.retJ X0 hx hret hlk (hb hby d8_9) rfl ⟨by first | rfl | simp [], rfl, e0⟩ (Nat.le_of_ble_eq_true rfl) (Nat.le_of_ble_eq_true rfl)
theorem ef_0 (m : MethodId) (x0 : Int32) (x1 : Int32) (x2 : Int32) (x3 : Int32) (x4 : Int32) (x5 : Int64) : entryFrame m #[(.int x0), (.int x1), (.int x2), (.int x3), (.int x4), (.long x5)] maxLocals = mkF m 0 #[.val (.int x0), .val (.int x1), .val (.int x2), .val (.int x3), .val (.int x4), .val (.long x5), .second, .unset, .unset, .unset, .unset, .unset, .unset, .unset, .unset, .unset, .unset, .unset, .unset, .unset, .unset, .unset, .unset] [] := by first | (simp [entryFrame, mkF, argsToLocals, Value.category, maxLocals]; done) | rfl
theorem d1_0 : decode prog_39_method_13_code 0 = .ok (.lconst 0, 1) := by decide +kernel
theorem d1_1 : decode prog_39_method_13_code 1 = .ok (.lstore 6, 2) := by decide +kernel
theorem d1_3 : decode prog_39_method_13_code 3 = .ok (.lconst 0, 1) := by decide +kernel
theorem d1_4 : decode prog_39_method_13_code 4 = .ok (.lstore 8, 2) := by decide +kernel
theorem d1_6 : decode prog_39_method_13_code 6 = .ok (.iconst 0, 1) := by decide +kernel
theorem d1_7 : decode prog_39_method_13_code 7 = .ok (.istore 10, 2) := by decide +kernel
theorem d1_9 : decode prog_39_method_13_code 9 = .ok (.iload 10, 2) := by decide +kernel
theorem d1_11 : decode prog_39_method_13_code 11 = .ok (.aload_n 1, 1) := by decide +kernel
theorem d1_12 : decode prog_39_method_13_code 12 = .ok (.arraylength, 1) := by decide +kernel
theorem d1_13 : decode prog_39_method_13_code 13 = .ok (.if_icmp .ge 58, 3) := by decide +kernel
theorem d1_16 : decode prog_39_method_13_code 16 = .ok (.aload_n 1, 1) := by decide +kernel
theorem d1_17 : decode prog_39_method_13_code 17 = .ok (.iload 10, 2) := by decide +kernel
theorem d1_19 : decode prog_39_method_13_code 19 = .ok (.iaload, 1) := by decide +kernel
theorem d1_20 : decode prog_39_method_13_code 20 = .ok (.iload 5, 2) := by decide +kernel
theorem d1_22 : decode prog_39_method_13_code 22 = .ok (.if_icmp .ge 16, 3) := by decide +kernel
theorem d1_25 : decode prog_39_method_13_code 25 = .ok (.lload 6, 2) := by decide +kernel
theorem d1_27 : decode prog_39_method_13_code 27 = .ok (.aload_n 1, 1) := by decide +kernel
theorem d1_28 : decode prog_39_method_13_code 28 = .ok (.iload 10, 2) := by decide +kernel
theorem d1_30 : decode prog_39_method_13_code 30 = .ok (.iaload, 1) := by decide +kernel
theorem d1_31 : decode prog_39_method_13_code 31 = .ok (.i2l, 1) := by decide +kernel
theorem d1_32 : decode prog_39_method_13_code 32 = .ok (.ladd, 1) := by decide +kernel
theorem d1_33 : decode prog_39_method_13_code 33 = .ok (.lstore 6, 2) := by decide +kernel
theorem d1_35 : decode prog_39_method_13_code 35 = .ok (.goto 30, 3) := by decide +kernel
theorem d1_38 : decode prog_39_method_13_code 38 = .ok (.lload 8, 2) := by decide +kernel
theorem d1_40 : decode prog_39_method_13_code 40 = .ok (.aload_n 0, 1) := by decide +kernel
theorem d1_41 : decode prog_39_method_13_code 41 = .ok (.aload_n 1, 1) := by decide +kernel
theorem d1_42 : decode prog_39_method_13_code 42 = .ok (.iload 10, 2) := by decide +kernel
theorem d1_44 : decode prog_39_method_13_code 44 = .ok (.iaload, 1) := by decide +kernel
theorem d1_45 : decode prog_39_method_13_code 45 = .ok (.i2l, 1) := by decide +kernel
theorem d1_46 : decode prog_39_method_13_code 46 = .ok (.aload_n 2, 1) := by decide +kernel
theorem d1_47 : decode prog_39_method_13_code 47 = .ok (.ifnonnull 7, 3) := by decide +kernel
theorem d1_50 : decode prog_39_method_13_code 50 = .ok (.lconst 0, 1) := by decide +kernel
theorem d1_51 : decode prog_39_method_13_code 51 = .ok (.goto 8, 3) := by decide +kernel
theorem d1_54 : decode prog_39_method_13_code 54 = .ok (.aload_n 2, 1) := by decide +kernel
theorem d1_55 : decode prog_39_method_13_code 55 = .ok (.iload 10, 2) := by decide +kernel
theorem d1_57 : decode prog_39_method_13_code 57 = .ok (.iaload, 1) := by decide +kernel
theorem d1_58 : decode prog_39_method_13_code 58 = .ok (.i2l, 1) := by decide +kernel
theorem d1_59 : decode prog_39_method_13_code 59 = .ok (.invokevirtual 29, 3) := by decide +kernel
theorem d1_62 : decode prog_39_method_13_code 62 = .ok (.ladd, 1) := by decide +kernel
theorem d1_63 : decode prog_39_method_13_code 63 = .ok (.lstore 8, 2) := by decide +kernel
theorem d1_65 : decode prog_39_method_13_code 65 = .ok (.iinc 10 1, 3) := by decide +kernel
theorem d1_68 : decode prog_39_method_13_code 68 = .ok (.goto (-59), 3) := by decide +kernel
theorem d1_71 : decode prog_39_method_13_code 71 = .ok (.new 33, 3) := by decide +kernel
theorem d1_74 : decode prog_39_method_13_code 74 = .ok (.dup, 1) := by decide +kernel
theorem d1_75 : decode prog_39_method_13_code 75 = .ok (.lload 6, 2) := by decide +kernel
theorem d1_77 : decode prog_39_method_13_code 77 = .ok (.lload 8, 2) := by decide +kernel
theorem d1_79 : decode prog_39_method_13_code 79 = .ok (.lload 6, 2) := by decide +kernel
theorem d1_81 : decode prog_39_method_13_code 81 = .ok (.aload_n 0, 1) := by decide +kernel
theorem d1_82 : decode prog_39_method_13_code 82 = .ok (.lload_n 3, 1) := by decide +kernel
theorem d1_83 : decode prog_39_method_13_code 83 = .ok (.invokevirtual 35, 3) := by decide +kernel
theorem d1_86 : decode prog_39_method_13_code 86 = .ok (.lmul, 1) := by decide +kernel
theorem d1_87 : decode prog_39_method_13_code 87 = .ok (.ladd, 1) := by decide +kernel
theorem d1_88 : decode prog_39_method_13_code 88 = .ok (.invokespecial 39, 3) := by decide +kernel
theorem d1_91 : decode prog_39_method_13_code 91 = .ok (.areturn, 1) := by decide +kernel
theorem pn_1 : plainName "com/example/unika/unika/anonymize/RecodingMetric" = true := by first | (simp [plainName, overriddenIn]; done) | decide +kernel
theorem ef_1 (m : MethodId) (x0 : Addr) (x1 : Addr) (x2 : Addr) (x3 : Int64) (x4 : Int32) : entryFrame m #[(.ref x0), (.ref x1), (.ref x2), (.long x3), (.int x4)] 11 = mkF m 0 #[.val (.ref x0), .val (.ref x1), .val (.ref x2), .val (.long x3), .second, .val (.int x4), .unset, .unset, .unset, .unset, .unset] [] := by first | (simp [entryFrame, mkF, argsToLocals, Value.category]; done) | rfl
set_option maxRecDepth 65536 in
set_option maxHeartbeats 40000000 in
theorem rmEv000 (l : Launch) (Z : State) (a0 : Array Value) (hw : ∀ d ∈ tables_1, d.before a0 Z = true) (u w : Addr) (ku kw : ClassId) (rc : Int64) (k : Int32) (a_DM : Addr) (a_CM : Addr) (h0 : Heap) (O0 : Old Z Z.heap.size h0) (FF : Facts Z a_DM a_CM) (Vu : Arv Z h0 u ku .int (0 : Int32) [] (.int (0 : Int32))) (Vw : Arv Z h0 w kw .int (0 : Int32) [] (.int (0 : Int32))) : Ctr l Z (⟨"com/example/unika/unika/anonymize/RecodingMetric", "evaluate", "([I[IJI)Lcom/example/unika/unika/anonymize/RecodingMetric$Evaluation;"⟩ : MethodName) prog_39_method_13_code 11 (some (.object "com/example/unika/unika/anonymize/RecodingMetric$Evaluation")) ({ frames := 3, cells := 1, slots := 2, locals := 41 } : Room) #[(.ref a_DM), (.ref u), (.ref w), (.long rc), (.int k)] h0 (fun v h L => ∃ b : Addr, v = some (.ref b) ∧ Fr Z.heap.size L ∧ Keep h0 h [] ∧ h0.size ≤ b ∧ Exa Z h b "com/example/unika/unika/anonymize/RecodingMetric$Evaluation" ∧ Fld Z h b "com/example/unika/unika/anonymize/RecodingMetric$Evaluation" "suppressedRows" "J" (.long (0 : Int64)) ∧ Fld Z h b "com/example/unika/unika/anonymize/RecodingMetric$Evaluation" "cost" "J" (.long ((0 : Int64) + ((0 : Int64) * rc)))) := by
  refine Ctr.of (plainFor_of_name pn_1) ?_
  have wd : ∀ {d : Jvm.Cond} (i : Nat), tables_1[i]? = some d → d.before a0 Z = true := fun i q => hw _ (List.mem_of_getElem? q)
  intro p e s m below meth c s₁ hx hby hml hown hnm hret hlk hZ X0 e0
  have FF' := FF
  obtain ⟨S_DM, E_DM, S_CM, E_CM, ne_DM_CM⟩ := FF'
  refine Go.cast (ef_1 m a_DM u w rc k) ?_
  show Go p e below _ s₁ (mkF m 0 #[.val (.ref a_DM), .val (.ref u), .val (.ref w), .val (.long rc), .second, .val (.int k), .unset, .unset, .unset, .unset, .unset] [])
  refine Go.lconst X0 hx (hb hby d1_0) rfl (0 : Int64) rfl ?_
  refine Go.lstore X0 hx (hb hby d1_1) rfl  #[.val (.ref a_DM), .val (.ref u), .val (.ref w), .val (.long rc), .second, .val (.int k), .val (.long (0 : Int64)), .second, .unset, .unset, .unset] rfl ?_
  refine Go.lconst X0 hx (hb hby d1_3) rfl (0 : Int64) rfl ?_
  refine Go.lstore X0 hx (hb hby d1_4) rfl  #[.val (.ref a_DM), .val (.ref u), .val (.ref w), .val (.long rc), .second, .val (.int k), .val (.long (0 : Int64)), .second, .val (.long (0 : Int64)), .second, .unset] rfl ?_
  refine Go.iconst X0 hx (hb hby d1_6) rfl (0 : Int32) rfl ?_
  refine Go.istore X0 hx (hb hby d1_7) rfl  #[.val (.ref a_DM), .val (.ref u), .val (.ref w), .val (.long rc), .second, .val (.int k), .val (.long (0 : Int64)), .second, .val (.long (0 : Int64)), .second, .val (.int (0 : Int32))] rfl ?_
  refine Go.iload X0 hx (hb hby d1_9) rfl rfl  ?_
  refine Go.aloadN X0 hx (hb hby d1_11) rfl rfl rfl ?_
  refine Go.alen X0 hx hZ Vu e0 (hb hby d1_12) rfl ?_
  refine Go.icmpYes X0 hx (hb hby d1_13) rfl 71 (flt (by decide : ¬ ((0 : Int32) < (0 : Int32)))).2.1 (by decide) (by decide) ?_
  refine Go.newO X0 hx hZ hown (wd 9 rfl) (wd 10 rfl) (wd 11 rfl) e0 (hb hby d1_71) rfl (Nat.le_of_ble_eq_true rfl) (Nat.le_of_ble_eq_true rfl) ?_
  intro T1 h1 b1 g1 X1 e1 E1 A1 D1
  have F2 : Fld Z h1 b1 "com/example/unika/unika/anonymize/RecodingMetric$Evaluation" "suppressedRows" "J" (.long (0 : Int64)) := D1 (Or.inr (wd 30 rfl)) (ty := .long) (by decide)
  have F3 : Fld Z h1 b1 "com/example/unika/unika/anonymize/RecodingMetric$Evaluation" "cost" "J" (.long (0 : Int64)) := D1 (Or.inr (wd 32 rfl)) (ty := .long) (by decide)
  have q1 : Z.heap.size ≤ b1 := Nat.le_trans O0.2.1 (Nat.le_of_eq g1.symm)
  have z1 : h0.size ≤ b1 := Nat.le_trans (Keep.refl h0 []).1 (Nat.le_of_eq g1.symm)
  have ne_u_b1 : u ≠ b1 := Nat.ne_of_lt (Nat.lt_of_lt_of_le Vu.lt (Nat.le_of_eq g1.symm))
  have ne_w_b1 : w ≠ b1 := Nat.ne_of_lt (Nat.lt_of_lt_of_le Vw.lt (Nat.le_of_eq g1.symm))
  have K4 := (Keep.refl h0 []).ext E1
  have O5 := O0.ext E1
  have V6 := Vu.ext E1
  have V7 := Vw.ext E1
  refine Go.dup X1 hx (hb hby d1_74) rfl rfl ?_
  refine Go.lload X1 hx (hb hby d1_75) rfl rfl  ?_
  refine Go.lload X1 hx (hb hby d1_77) rfl rfl  ?_
  refine Go.lload X1 hx (hb hby d1_79) rfl rfl  ?_
  refine Go.aloadN X1 hx (hb hby d1_81) rfl rfl rfl ?_
  refine Go.lloadN X1 hx (hb hby d1_82) rfl rfl  ?_
  refine Go.pureV X1 hx hZ hown (wd 12 rfl) (wd 13 rfl) (own_nf (args := #[]) (y' := (⟨"com/example/unika/unika/anonymize/RecodingMetric", "evaluate", "([I[IJI)Lcom/example/unika/unika/anonymize/RecodingMetric$Evaluation;"⟩ : MethodName)) rfl (mvT hZ (wd 7 rfl))) (wd 14 rfl) (wd 15 rfl) (wd 16 rfl) (wd 17 rfl) (by decide) [(.long rc)] [(.long (0 : Int64)), (.long (0 : Int64)), (.long (0 : Int64)), (.ref b1), (.ref b1)] (E_DM.ext O5.2) (rmV1 l Z a0 hw a_DM rc h1) e1 rfl (by rw [hml]; rfl) pd_1 rfl (hb hby d1_83) (Nat.le_of_ble_eq_true rfl) (Nat.le_of_ble_eq_true rfl) (Nat.le_of_ble_eq_true rfl) (Nat.le_of_ble_eq_true rfl) ?_
  intro T8 X8 e8
  refine Go.lmul X8 hx (hb hby d1_86) rfl ?_
  refine Go.ladd X8 hx (hb hby d1_87) rfl ?_
  refine Go.callI X8 hx hZ rfl hown (wd 18 rfl) (wd 19 rfl) (wd 11 rfl) (wd 20 rfl) (by decide) [(.long (0 : Int64)), (.long ((0 : Int64) + ((0 : Int64) * rc)))] [(.ref b1)] (rmE l Z a0 hw b1 (0 : Int64) ((0 : Int64) + ((0 : Int64) * rc)) h1 O5 A1 q1 F2 F3) e8 rfl (by rw [hml]; rfl) pd_2 rfl (hb hby d1_88) (Nat.le_of_ble_eq_true rfl) (Nat.le_of_ble_eq_true rfl) (Nat.le_of_ble_eq_true rfl) (Nat.le_of_ble_eq_true rfl) ?_
  rintro vv9 T9 L9 X9 Q9
  obtain ⟨rfl, N9, K9, E9, Fs9, Fc9⟩ := Q9
  have M10 := Fr.app (Fr.nil _) N9
  have O11 := O5.keep K9 (allS q1 (all0))
  have K12 := Keep.trans K4 K9 (allS (Or.inr z1) (all0))
  have V13 := V6.keep K9 (ninS ne_u_b1 (nin0))
  have V14 := V7.keep K9 (ninS ne_w_b1 (nin0))
  have E15 := A1.keep K9
  exact Go.retA X9 hx hret hlk rfl rfl (hb hby d1_91) rfl ⟨b1, rfl, M10, K12, z1, E9, Fs9, Fc9⟩ (Nat.le_of_ble_eq_true rfl) (Nat.le_of_ble_eq_true rfl)
set_option maxRecDepth 65536 in
set_option maxHeartbeats 40000000 in
theorem rmEv001t (l : Launch) (Z : State) (a0 : Array Value) (hw : ∀ d ∈ tables_1, d.before a0 Z = true) (u w : Addr) (ku kw : ClassId) (s0 m0 : Int32) (rc : Int64) (k : Int32) (a_DM : Addr) (a_CM : Addr) (h0 : Heap) (O0 : Old Z Z.heap.size h0) (FF : Facts Z a_DM a_CM) (Vu : Arv Z h0 u ku .int (1 : Int32) [(.int s0)] (.int (0 : Int32))) (Vw : Arv Z h0 w kw .int (1 : Int32) [(.int m0)] (.int (0 : Int32))) (t0 : s0 < k) : Ctr l Z (⟨"com/example/unika/unika/anonymize/RecodingMetric", "evaluate", "([I[IJI)Lcom/example/unika/unika/anonymize/RecodingMetric$Evaluation;"⟩ : MethodName) prog_39_method_13_code 11 (some (.object "com/example/unika/unika/anonymize/RecodingMetric$Evaluation")) ({ frames := 3, cells := 1, slots := 2, locals := 41 } : Room) #[(.ref a_DM), (.ref u), (.ref w), (.long rc), (.int k)] h0 (fun v h L => ∃ b : Addr, v = some (.ref b) ∧ Fr Z.heap.size L ∧ Keep h0 h [] ∧ h0.size ≤ b ∧ Exa Z h b "com/example/unika/unika/anonymize/RecodingMetric$Evaluation" ∧ Fld Z h b "com/example/unika/unika/anonymize/RecodingMetric$Evaluation" "suppressedRows" "J" (.long ((0 : Int64) + ((s0).toInt64))) ∧ Fld Z h b "com/example/unika/unika/anonymize/RecodingMetric$Evaluation" "cost" "J" (.long ((0 : Int64) + (((0 : Int64) + ((s0).toInt64)) * rc)))) := by
  refine Ctr.of (plainFor_of_name pn_1) ?_
  have wd : ∀ {d : Jvm.Cond} (i : Nat), tables_1[i]? = some d → d.before a0 Z = true := fun i q => hw _ (List.mem_of_getElem? q)
  intro p e s m below meth c s₁ hx hby hml hown hnm hret hlk hZ X0 e0
  have FF' := FF
  obtain ⟨S_DM, E_DM, S_CM, E_CM, ne_DM_CM⟩ := FF'
  refine Go.cast (ef_1 m a_DM u w rc k) ?_
  show Go p e below _ s₁ (mkF m 0 #[.val (.ref a_DM), .val (.ref u), .val (.ref w), .val (.long rc), .second, .val (.int k), .unset, .unset, .unset, .unset, .unset] [])
  refine Go.lconst X0 hx (hb hby d1_0) rfl (0 : Int64) rfl ?_
  refine Go.lstore X0 hx (hb hby d1_1) rfl  #[.val (.ref a_DM), .val (.ref u), .val (.ref w), .val (.long rc), .second, .val (.int k), .val (.long (0 : Int64)), .second, .unset, .unset, .unset] rfl ?_
  refine Go.lconst X0 hx (hb hby d1_3) rfl (0 : Int64) rfl ?_
  refine Go.lstore X0 hx (hb hby d1_4) rfl  #[.val (.ref a_DM), .val (.ref u), .val (.ref w), .val (.long rc), .second, .val (.int k), .val (.long (0 : Int64)), .second, .val (.long (0 : Int64)), .second, .unset] rfl ?_
  refine Go.iconst X0 hx (hb hby d1_6) rfl (0 : Int32) rfl ?_
  refine Go.istore X0 hx (hb hby d1_7) rfl  #[.val (.ref a_DM), .val (.ref u), .val (.ref w), .val (.long rc), .second, .val (.int k), .val (.long (0 : Int64)), .second, .val (.long (0 : Int64)), .second, .val (.int (0 : Int32))] rfl ?_
  refine Go.iload X0 hx (hb hby d1_9) rfl rfl  ?_
  refine Go.aloadN X0 hx (hb hby d1_11) rfl rfl rfl ?_
  refine Go.alen X0 hx hZ Vu e0 (hb hby d1_12) rfl ?_
  refine Go.icmpNo X0 hx (hb hby d1_13) rfl (tlt (by decide : (0 : Int32) < (1 : Int32))).2.1 ?_
  refine Go.aloadN X0 hx (hb hby d1_16) rfl rfl rfl ?_
  refine Go.iload X0 hx (hb hby d1_17) rfl rfl  ?_
  refine Go.iaload X0 hx hZ (.int s0) Vu e0  ⟨by decide, by decide⟩ rfl (hb hby d1_19) rfl ?_
  refine Go.iload X0 hx (hb hby d1_20) rfl rfl  ?_
  refine Go.icmpNo X0 hx (hb hby d1_22) rfl (tlt t0).2.1 ?_
  refine Go.lload X0 hx (hb hby d1_25) rfl rfl  ?_
  refine Go.aloadN X0 hx (hb hby d1_27) rfl rfl rfl ?_
  refine Go.iload X0 hx (hb hby d1_28) rfl rfl  ?_
  refine Go.iaload X0 hx hZ (.int s0) Vu e0  ⟨by decide, by decide⟩ rfl (hb hby d1_30) rfl ?_
  refine Go.i2l X0 hx (hb hby d1_31) rfl ?_
  refine Go.ladd X0 hx (hb hby d1_32) rfl ?_
  refine Go.lstore X0 hx (hb hby d1_33) rfl  #[.val (.ref a_DM), .val (.ref u), .val (.ref w), .val (.long rc), .second, .val (.int k), .val (.long ((0 : Int64) + ((s0).toInt64))), .second, .val (.long (0 : Int64)), .second, .val (.int (0 : Int32))] rfl ?_
  refine Go.goto X0 hx (hb hby d1_35) rfl 65 (by decide) (by decide) ?_
  refine Go.iinc X0 hx (hb hby d1_65) rfl rfl #[.val (.ref a_DM), .val (.ref u), .val (.ref w), .val (.long rc), .second, .val (.int k), .val (.long ((0 : Int64) + ((s0).toInt64))), .second, .val (.long (0 : Int64)), .second, .val (.int ((0 : Int32) + (1 : Int32)))] rfl ?_
  show Go p e below _ s₁ (mkF m 68 #[.val (.ref a_DM), .val (.ref u), .val (.ref w), .val (.long rc), .second, .val (.int k), .val (.long ((0 : Int64) + ((s0).toInt64))), .second, .val (.long (0 : Int64)), .second, .val (.int ((0 : Int32) + (1 : Int32)))] [])
  rw [show ((0 : Int32) + (1 : Int32)) = (1 : Int32) from by decide]
  show Go p e below _ s₁ (mkF m 68 #[.val (.ref a_DM), .val (.ref u), .val (.ref w), .val (.long rc), .second, .val (.int k), .val (.long ((0 : Int64) + ((s0).toInt64))), .second, .val (.long (0 : Int64)), .second, .val (.int (1 : Int32))] [])
  refine Go.goto X0 hx (hb hby d1_68) rfl 9 (by decide) (by decide) ?_
  refine Go.iload X0 hx (hb hby d1_9) rfl rfl  ?_
  refine Go.aloadN X0 hx (hb hby d1_11) rfl rfl rfl ?_
  refine Go.alen X0 hx hZ Vu e0 (hb hby d1_12) rfl ?_
  refine Go.icmpYes X0 hx (hb hby d1_13) rfl 71 (flt (by decide : ¬ ((1 : Int32) < (1 : Int32)))).2.1 (by decide) (by decide) ?_
  refine Go.newO X0 hx hZ hown (wd 9 rfl) (wd 10 rfl) (wd 11 rfl) e0 (hb hby d1_71) rfl (Nat.le_of_ble_eq_true rfl) (Nat.le_of_ble_eq_true rfl) ?_
  intro T1 h1 b1 g1 X1 e1 E1 A1 D1
  have F2 : Fld Z h1 b1 "com/example/unika/unika/anonymize/RecodingMetric$Evaluation" "suppressedRows" "J" (.long (0 : Int64)) := D1 (Or.inr (wd 30 rfl)) (ty := .long) (by decide)
  have F3 : Fld Z h1 b1 "com/example/unika/unika/anonymize/RecodingMetric$Evaluation" "cost" "J" (.long (0 : Int64)) := D1 (Or.inr (wd 32 rfl)) (ty := .long) (by decide)
  have q1 : Z.heap.size ≤ b1 := Nat.le_trans O0.2.1 (Nat.le_of_eq g1.symm)
  have z1 : h0.size ≤ b1 := Nat.le_trans (Keep.refl h0 []).1 (Nat.le_of_eq g1.symm)
  have ne_u_b1 : u ≠ b1 := Nat.ne_of_lt (Nat.lt_of_lt_of_le Vu.lt (Nat.le_of_eq g1.symm))
  have ne_w_b1 : w ≠ b1 := Nat.ne_of_lt (Nat.lt_of_lt_of_le Vw.lt (Nat.le_of_eq g1.symm))
  have K4 := (Keep.refl h0 []).ext E1
  have O5 := O0.ext E1
  have V6 := Vu.ext E1
  have V7 := Vw.ext E1
  refine Go.dup X1 hx (hb hby d1_74) rfl rfl ?_
  refine Go.lload X1 hx (hb hby d1_75) rfl rfl  ?_
  refine Go.lload X1 hx (hb hby d1_77) rfl rfl  ?_
  refine Go.lload X1 hx (hb hby d1_79) rfl rfl  ?_
  refine Go.aloadN X1 hx (hb hby d1_81) rfl rfl rfl ?_
  refine Go.lloadN X1 hx (hb hby d1_82) rfl rfl  ?_
  refine Go.pureV X1 hx hZ hown (wd 12 rfl) (wd 13 rfl) (own_nf (args := #[]) (y' := (⟨"com/example/unika/unika/anonymize/RecodingMetric", "evaluate", "([I[IJI)Lcom/example/unika/unika/anonymize/RecodingMetric$Evaluation;"⟩ : MethodName)) rfl (mvT hZ (wd 7 rfl))) (wd 14 rfl) (wd 15 rfl) (wd 16 rfl) (wd 17 rfl) (by decide) [(.long rc)] [(.long ((0 : Int64) + ((s0).toInt64))), (.long (0 : Int64)), (.long ((0 : Int64) + ((s0).toInt64))), (.ref b1), (.ref b1)] (E_DM.ext O5.2) (rmV1 l Z a0 hw a_DM rc h1) e1 rfl (by rw [hml]; rfl) pd_1 rfl (hb hby d1_83) (Nat.le_of_ble_eq_true rfl) (Nat.le_of_ble_eq_true rfl) (Nat.le_of_ble_eq_true rfl) (Nat.le_of_ble_eq_true rfl) ?_
  intro T8 X8 e8
  refine Go.lmul X8 hx (hb hby d1_86) rfl ?_
  refine Go.ladd X8 hx (hb hby d1_87) rfl ?_
  refine Go.callI X8 hx hZ rfl hown (wd 18 rfl) (wd 19 rfl) (wd 11 rfl) (wd 20 rfl) (by decide) [(.long ((0 : Int64) + ((s0).toInt64))), (.long ((0 : Int64) + (((0 : Int64) + ((s0).toInt64)) * rc)))] [(.ref b1)] (rmE l Z a0 hw b1 ((0 : Int64) + ((s0).toInt64)) ((0 : Int64) + (((0 : Int64) + ((s0).toInt64)) * rc)) h1 O5 A1 q1 F2 F3) e8 rfl (by rw [hml]; rfl) pd_2 rfl (hb hby d1_88) (Nat.le_of_ble_eq_true rfl) (Nat.le_of_ble_eq_true rfl) (Nat.le_of_ble_eq_true rfl) (Nat.le_of_ble_eq_true rfl) ?_
  rintro vv9 T9 L9 X9 Q9
  obtain ⟨rfl, N9, K9, E9, Fs9, Fc9⟩ := Q9
  have M10 := Fr.app (Fr.nil _) N9
  have O11 := O5.keep K9 (allS q1 (all0))
  have K12 := Keep.trans K4 K9 (allS (Or.inr z1) (all0))
  have V13 := V6.keep K9 (ninS ne_u_b1 (nin0))
  have V14 := V7.keep K9 (ninS ne_w_b1 (nin0))
  have E15 := A1.keep K9
  exact Go.retA X9 hx hret hlk rfl rfl (hb hby d1_91) rfl ⟨b1, rfl, M10, K12, z1, E9, Fs9, Fc9⟩ (Nat.le_of_ble_eq_true rfl) (Nat.le_of_ble_eq_true rfl)
set_option maxRecDepth 65536 in
set_option maxHeartbeats 40000000 in
theorem rmEv001f (l : Launch) (Z : State) (a0 : Array Value) (hw : ∀ d ∈ tables_1, d.before a0 Z = true) (u w : Addr) (ku kw : ClassId) (s0 m0 : Int32) (rc : Int64) (k : Int32) (a_DM : Addr) (a_CM : Addr) (h0 : Heap) (O0 : Old Z Z.heap.size h0) (FF : Facts Z a_DM a_CM) (Vu : Arv Z h0 u ku .int (1 : Int32) [(.int s0)] (.int (0 : Int32))) (Vw : Arv Z h0 w kw .int (1 : Int32) [(.int m0)] (.int (0 : Int32))) (t0 : ¬ s0 < k) : Ctr l Z (⟨"com/example/unika/unika/anonymize/RecodingMetric", "evaluate", "([I[IJI)Lcom/example/unika/unika/anonymize/RecodingMetric$Evaluation;"⟩ : MethodName) prog_39_method_13_code 11 (some (.object "com/example/unika/unika/anonymize/RecodingMetric$Evaluation")) ({ frames := 3, cells := 1, slots := 2, locals := 41 } : Room) #[(.ref a_DM), (.ref u), (.ref w), (.long rc), (.int k)] h0 (fun v h L => ∃ b : Addr, v = some (.ref b) ∧ Fr Z.heap.size L ∧ Keep h0 h [] ∧ h0.size ≤ b ∧ Exa Z h b "com/example/unika/unika/anonymize/RecodingMetric$Evaluation" ∧ Fld Z h b "com/example/unika/unika/anonymize/RecodingMetric$Evaluation" "suppressedRows" "J" (.long (0 : Int64)) ∧ Fld Z h b "com/example/unika/unika/anonymize/RecodingMetric$Evaluation" "cost" "J" (.long (((0 : Int64) + (((s0).toInt64) * ((s0).toInt64))) + ((0 : Int64) * rc)))) := by
  refine Ctr.of (plainFor_of_name pn_1) ?_
  have wd : ∀ {d : Jvm.Cond} (i : Nat), tables_1[i]? = some d → d.before a0 Z = true := fun i q => hw _ (List.mem_of_getElem? q)
  intro p e s m below meth c s₁ hx hby hml hown hnm hret hlk hZ X0 e0
  have FF' := FF
  obtain ⟨S_DM, E_DM, S_CM, E_CM, ne_DM_CM⟩ := FF'
  refine Go.cast (ef_1 m a_DM u w rc k) ?_
  show Go p e below _ s₁ (mkF m 0 #[.val (.ref a_DM), .val (.ref u), .val (.ref w), .val (.long rc), .second, .val (.int k), .unset, .unset, .unset, .unset, .unset] [])
  refine Go.lconst X0 hx (hb hby d1_0) rfl (0 : Int64) rfl ?_
  refine Go.lstore X0 hx (hb hby d1_1) rfl  #[.val (.ref a_DM), .val (.ref u), .val (.ref w), .val (.long rc), .second, .val (.int k), .val (.long (0 : Int64)), .second, .unset, .unset, .unset] rfl ?_
  refine Go.lconst X0 hx (hb hby d1_3) rfl (0 : Int64) rfl ?_
  refine Go.lstore X0 hx (hb hby d1_4) rfl  #[.val (.ref a_DM), .val (.ref u), .val (.ref w), .val (.long rc), .second, .val (.int k), .val (.long (0 : Int64)), .second, .val (.long (0 : Int64)), .second, .unset] rfl ?_
  refine Go.iconst X0 hx (hb hby d1_6) rfl (0 : Int32) rfl ?_
  refine Go.istore X0 hx (hb hby d1_7) rfl  #[.val (.ref a_DM), .val (.ref u), .val (.ref w), .val (.long rc), .second, .val (.int k), .val (.long (0 : Int64)), .second, .val (.long (0 : Int64)), .second, .val (.int (0 : Int32))] rfl ?_
  refine Go.iload X0 hx (hb hby d1_9) rfl rfl  ?_
  refine Go.aloadN X0 hx (hb hby d1_11) rfl rfl rfl ?_
  refine Go.alen X0 hx hZ Vu e0 (hb hby d1_12) rfl ?_
  refine Go.icmpNo X0 hx (hb hby d1_13) rfl (tlt (by decide : (0 : Int32) < (1 : Int32))).2.1 ?_
  refine Go.aloadN X0 hx (hb hby d1_16) rfl rfl rfl ?_
  refine Go.iload X0 hx (hb hby d1_17) rfl rfl  ?_
  refine Go.iaload X0 hx hZ (.int s0) Vu e0  ⟨by decide, by decide⟩ rfl (hb hby d1_19) rfl ?_
  refine Go.iload X0 hx (hb hby d1_20) rfl rfl  ?_
  refine Go.icmpYes X0 hx (hb hby d1_22) rfl 38 (flt t0).2.1 (by decide) (by decide) ?_
  refine Go.lload X0 hx (hb hby d1_38) rfl rfl  ?_
  refine Go.aloadN X0 hx (hb hby d1_40) rfl rfl rfl ?_
  refine Go.aloadN X0 hx (hb hby d1_41) rfl rfl rfl ?_
  refine Go.iload X0 hx (hb hby d1_42) rfl rfl  ?_
  refine Go.iaload X0 hx hZ (.int s0) Vu e0  ⟨by decide, by decide⟩ rfl (hb hby d1_44) rfl ?_
  refine Go.i2l X0 hx (hb hby d1_45) rfl ?_
  refine Go.aloadN X0 hx (hb hby d1_46) rfl rfl rfl ?_
  refine Go.ifnonnullYes X0 hx (hb hby d1_47) rfl 54 (by decide) (by decide) ?_
  refine Go.aloadN X0 hx (hb hby d1_54) rfl rfl rfl ?_
  refine Go.iload X0 hx (hb hby d1_55) rfl rfl  ?_
  refine Go.iaload X0 hx hZ (.int m0) Vw e0  ⟨by decide, by decide⟩ rfl (hb hby d1_57) rfl ?_
  refine Go.i2l X0 hx (hb hby d1_58) rfl ?_
  refine Go.pureV X0 hx hZ hown (wd 47 rfl) (wd 48 rfl) (own_nf (args := #[]) (y' := (⟨"com/example/unika/unika/anonymize/RecodingMetric", "evaluate", "([I[IJI)Lcom/example/unika/unika/anonymize/RecodingMetric$Evaluation;"⟩ : MethodName)) rfl (mvT hZ (wd 7 rfl))) (wd 49 rfl) (wd 50 rfl) (wd 16 rfl) (wd 51 rfl) (by decide) [(.long ((s0).toInt64)), (.long ((m0).toInt64))] [(.long (0 : Int64))] (E_DM.ext O0.2) (rmK1 l Z a0 hw a_DM ((s0).toInt64) ((m0).toInt64) h0) e0 rfl (by rw [hml]; rfl) pd_6 rfl (hb hby d1_59) (Nat.le_of_ble_eq_true rfl) (Nat.le_of_ble_eq_true rfl) (Nat.le_of_ble_eq_true rfl) (Nat.le_of_ble_eq_true rfl) ?_
  intro T1 X1 e1
  refine Go.ladd X1 hx (hb hby d1_62) rfl ?_
  refine Go.lstore X1 hx (hb hby d1_63) rfl  #[.val (.ref a_DM), .val (.ref u), .val (.ref w), .val (.long rc), .second, .val (.int k), .val (.long (0 : Int64)), .second, .val (.long ((0 : Int64) + (((s0).toInt64) * ((s0).toInt64)))), .second, .val (.int (0 : Int32))] rfl ?_
  refine Go.iinc X1 hx (hb hby d1_65) rfl rfl #[.val (.ref a_DM), .val (.ref u), .val (.ref w), .val (.long rc), .second, .val (.int k), .val (.long (0 : Int64)), .second, .val (.long ((0 : Int64) + (((s0).toInt64) * ((s0).toInt64)))), .second, .val (.int ((0 : Int32) + (1 : Int32)))] rfl ?_
  show Go p e below _ T1 (mkF m 68 #[.val (.ref a_DM), .val (.ref u), .val (.ref w), .val (.long rc), .second, .val (.int k), .val (.long (0 : Int64)), .second, .val (.long ((0 : Int64) + (((s0).toInt64) * ((s0).toInt64)))), .second, .val (.int ((0 : Int32) + (1 : Int32)))] [])
  rw [show ((0 : Int32) + (1 : Int32)) = (1 : Int32) from by decide]
  show Go p e below _ T1 (mkF m 68 #[.val (.ref a_DM), .val (.ref u), .val (.ref w), .val (.long rc), .second, .val (.int k), .val (.long (0 : Int64)), .second, .val (.long ((0 : Int64) + (((s0).toInt64) * ((s0).toInt64)))), .second, .val (.int (1 : Int32))] [])
  refine Go.goto X1 hx (hb hby d1_68) rfl 9 (by decide) (by decide) ?_
  refine Go.iload X1 hx (hb hby d1_9) rfl rfl  ?_
  refine Go.aloadN X1 hx (hb hby d1_11) rfl rfl rfl ?_
  refine Go.alen X1 hx hZ Vu e1 (hb hby d1_12) rfl ?_
  refine Go.icmpYes X1 hx (hb hby d1_13) rfl 71 (flt (by decide : ¬ ((1 : Int32) < (1 : Int32)))).2.1 (by decide) (by decide) ?_
  refine Go.newO X1 hx hZ hown (wd 9 rfl) (wd 10 rfl) (wd 11 rfl) e1 (hb hby d1_71) rfl (Nat.le_of_ble_eq_true rfl) (Nat.le_of_ble_eq_true rfl) ?_
  intro T2 h2 b2 g2 X2 e2 E2 A2 D2
  have F3 : Fld Z h2 b2 "com/example/unika/unika/anonymize/RecodingMetric$Evaluation" "suppressedRows" "J" (.long (0 : Int64)) := D2 (Or.inr (wd 30 rfl)) (ty := .long) (by decide)
  have F4 : Fld Z h2 b2 "com/example/unika/unika/anonymize/RecodingMetric$Evaluation" "cost" "J" (.long (0 : Int64)) := D2 (Or.inr (wd 32 rfl)) (ty := .long) (by decide)
  have q2 : Z.heap.size ≤ b2 := Nat.le_trans O0.2.1 (Nat.le_of_eq g2.symm)
  have z2 : h0.size ≤ b2 := Nat.le_trans (Keep.refl h0 []).1 (Nat.le_of_eq g2.symm)
  have ne_u_b2 : u ≠ b2 := Nat.ne_of_lt (Nat.lt_of_lt_of_le Vu.lt (Nat.le_of_eq g2.symm))
  have ne_w_b2 : w ≠ b2 := Nat.ne_of_lt (Nat.lt_of_lt_of_le Vw.lt (Nat.le_of_eq g2.symm))
  have K5 := (Keep.refl h0 []).ext E2
  have O6 := O0.ext E2
  have V7 := Vu.ext E2
  have V8 := Vw.ext E2
  refine Go.dup X2 hx (hb hby d1_74) rfl rfl ?_
  refine Go.lload X2 hx (hb hby d1_75) rfl rfl  ?_
  refine Go.lload X2 hx (hb hby d1_77) rfl rfl  ?_
  refine Go.lload X2 hx (hb hby d1_79) rfl rfl  ?_
  refine Go.aloadN X2 hx (hb hby d1_81) rfl rfl rfl ?_
  refine Go.lloadN X2 hx (hb hby d1_82) rfl rfl  ?_
  refine Go.pureV X2 hx hZ hown (wd 12 rfl) (wd 13 rfl) (own_nf (args := #[]) (y' := (⟨"com/example/unika/unika/anonymize/RecodingMetric", "evaluate", "([I[IJI)Lcom/example/unika/unika/anonymize/RecodingMetric$Evaluation;"⟩ : MethodName)) rfl (mvT hZ (wd 7 rfl))) (wd 14 rfl) (wd 15 rfl) (wd 16 rfl) (wd 17 rfl) (by decide) [(.long rc)] [(.long (0 : Int64)), (.long ((0 : Int64) + (((s0).toInt64) * ((s0).toInt64)))), (.long (0 : Int64)), (.ref b2), (.ref b2)] (E_DM.ext O6.2) (rmV1 l Z a0 hw a_DM rc h2) e2 rfl (by rw [hml]; rfl) pd_1 rfl (hb hby d1_83) (Nat.le_of_ble_eq_true rfl) (Nat.le_of_ble_eq_true rfl) (Nat.le_of_ble_eq_true rfl) (Nat.le_of_ble_eq_true rfl) ?_
  intro T9 X9 e9
  refine Go.lmul X9 hx (hb hby d1_86) rfl ?_
  refine Go.ladd X9 hx (hb hby d1_87) rfl ?_
  refine Go.callI X9 hx hZ rfl hown (wd 18 rfl) (wd 19 rfl) (wd 11 rfl) (wd 20 rfl) (by decide) [(.long (0 : Int64)), (.long (((0 : Int64) + (((s0).toInt64) * ((s0).toInt64))) + ((0 : Int64) * rc)))] [(.ref b2)] (rmE l Z a0 hw b2 (0 : Int64) (((0 : Int64) + (((s0).toInt64) * ((s0).toInt64))) + ((0 : Int64) * rc)) h2 O6 A2 q2 F3 F4) e9 rfl (by rw [hml]; rfl) pd_2 rfl (hb hby d1_88) (Nat.le_of_ble_eq_true rfl) (Nat.le_of_ble_eq_true rfl) (Nat.le_of_ble_eq_true rfl) (Nat.le_of_ble_eq_true rfl) ?_
  rintro vv10 T10 L10 X10 Q10
  obtain ⟨rfl, N10, K10, E10, Fs10, Fc10⟩ := Q10
  have M11 := Fr.app (Fr.nil _) N10
  have O12 := O6.keep K10 (allS q2 (all0))
  have K13 := Keep.trans K5 K10 (allS (Or.inr z2) (all0))
  have V14 := V7.keep K10 (ninS ne_u_b2 (nin0))
  have V15 := V8.keep K10 (ninS ne_w_b2 (nin0))
  have E16 := A2.keep K10
  exact Go.retA X10 hx hret hlk rfl rfl (hb hby d1_91) rfl ⟨b2, rfl, M11, K13, z2, E10, Fs10, Fc10⟩ (Nat.le_of_ble_eq_true rfl) (Nat.le_of_ble_eq_true rfl)
set_option maxRecDepth 65536 in
set_option maxHeartbeats 40000000 in
theorem rmEv002tt (l : Launch) (Z : State) (a0 : Array Value) (hw : ∀ d ∈ tables_1, d.before a0 Z = true) (u w : Addr) (ku kw : ClassId) (s0 s1 m0 m1 : Int32) (rc : Int64) (k : Int32) (a_DM : Addr) (a_CM : Addr) (h0 : Heap) (O0 : Old Z Z.heap.size h0) (FF : Facts Z a_DM a_CM) (Vu : Arv Z h0 u ku .int (2 : Int32) [(.int s0), (.int s1)] (.int (0 : Int32))) (Vw : Arv Z h0 w kw .int (2 : Int32) [(.int m0), (.int m1)] (.int (0 : Int32))) (t0 : s0 < k) (t1 : s1 < k) : Ctr l Z (⟨"com/example/unika/unika/anonymize/RecodingMetric", "evaluate", "([I[IJI)Lcom/example/unika/unika/anonymize/RecodingMetric$Evaluation;"⟩ : MethodName) prog_39_method_13_code 11 (some (.object "com/example/unika/unika/anonymize/RecodingMetric$Evaluation")) ({ frames := 3, cells := 1, slots := 2, locals := 41 } : Room) #[(.ref a_DM), (.ref u), (.ref w), (.long rc), (.int k)] h0 (fun v h L => ∃ b : Addr, v = some (.ref b) ∧ Fr Z.heap.size L ∧ Keep h0 h [] ∧ h0.size ≤ b ∧ Exa Z h b "com/example/unika/unika/anonymize/RecodingMetric$Evaluation" ∧ Fld Z h b "com/example/unika/unika/anonymize/RecodingMetric$Evaluation" "suppressedRows" "J" (.long (((0 : Int64) + ((s0).toInt64)) + ((s1).toInt64))) ∧ Fld Z h b "com/example/unika/unika/anonymize/RecodingMetric$Evaluation" "cost" "J" (.long ((0 : Int64) + ((((0 : Int64) + ((s0).toInt64)) + ((s1).toInt64)) * rc)))) := by
  refine Ctr.of (plainFor_of_name pn_1) ?_
  have wd : ∀ {d : Jvm.Cond} (i : Nat), tables_1[i]? = some d → d.before a0 Z = true := fun i q => hw _ (List.mem_of_getElem? q)
  intro p e s m below meth c s₁ hx hby hml hown hnm hret hlk hZ X0 e0
  have FF' := FF
  obtain ⟨S_DM, E_DM, S_CM, E_CM, ne_DM_CM⟩ := FF'
  refine Go.cast (ef_1 m a_DM u w rc k) ?_
  show Go p e below _ s₁ (mkF m 0 #[.val (.ref a_DM), .val (.ref u), .val (.ref w), .val (.long rc), .second, .val (.int k), .unset, .unset, .unset, .unset, .unset] [])
  refine Go.lconst X0 hx (hb hby d1_0) rfl (0 : Int64) rfl ?_
  refine Go.lstore X0 hx (hb hby d1_1) rfl  #[.val (.ref a_DM), .val (.ref u), .val (.ref w), .val (.long rc), .second, .val (.int k), .val (.long (0 : Int64)), .second, .unset, .unset, .unset] rfl ?_
  refine Go.lconst X0 hx (hb hby d1_3) rfl (0 : Int64) rfl ?_
  refine Go.lstore X0 hx (hb hby d1_4) rfl  #[.val (.ref a_DM), .val (.ref u), .val (.ref w), .val (.long rc), .second, .val (.int k), .val (.long (0 : Int64)), .second, .val (.long (0 : Int64)), .second, .unset] rfl ?_
  refine Go.iconst X0 hx (hb hby d1_6) rfl (0 : Int32) rfl ?_
  refine Go.istore X0 hx (hb hby d1_7) rfl  #[.val (.ref a_DM), .val (.ref u), .val (.ref w), .val (.long rc), .second, .val (.int k), .val (.long (0 : Int64)), .second, .val (.long (0 : Int64)), .second, .val (.int (0 : Int32))] rfl ?_
  refine Go.iload X0 hx (hb hby d1_9) rfl rfl  ?_
  refine Go.aloadN X0 hx (hb hby d1_11) rfl rfl rfl ?_
  refine Go.alen X0 hx hZ Vu e0 (hb hby d1_12) rfl ?_
  refine Go.icmpNo X0 hx (hb hby d1_13) rfl (tlt (by decide : (0 : Int32) < (2 : Int32))).2.1 ?_
  refine Go.aloadN X0 hx (hb hby d1_16) rfl rfl rfl ?_
  refine Go.iload X0 hx (hb hby d1_17) rfl rfl  ?_
  refine Go.iaload X0 hx hZ (.int s0) Vu e0  ⟨by decide, by decide⟩ rfl (hb hby d1_19) rfl ?_
  refine Go.iload X0 hx (hb hby d1_20) rfl rfl  ?_
  refine Go.icmpNo X0 hx (hb hby d1_22) rfl (tlt t0).2.1 ?_
  refine Go.lload X0 hx (hb hby d1_25) rfl rfl  ?_
  refine Go.aloadN X0 hx (hb hby d1_27) rfl rfl rfl ?_
  refine Go.iload X0 hx (hb hby d1_28) rfl rfl  ?_
  refine Go.iaload X0 hx hZ (.int s0) Vu e0  ⟨by decide, by decide⟩ rfl (hb hby d1_30) rfl ?_
  refine Go.i2l X0 hx (hb hby d1_31) rfl ?_
  refine Go.ladd X0 hx (hb hby d1_32) rfl ?_
  refine Go.lstore X0 hx (hb hby d1_33) rfl  #[.val (.ref a_DM), .val (.ref u), .val (.ref w), .val (.long rc), .second, .val (.int k), .val (.long ((0 : Int64) + ((s0).toInt64))), .second, .val (.long (0 : Int64)), .second, .val (.int (0 : Int32))] rfl ?_
  refine Go.goto X0 hx (hb hby d1_35) rfl 65 (by decide) (by decide) ?_
  refine Go.iinc X0 hx (hb hby d1_65) rfl rfl #[.val (.ref a_DM), .val (.ref u), .val (.ref w), .val (.long rc), .second, .val (.int k), .val (.long ((0 : Int64) + ((s0).toInt64))), .second, .val (.long (0 : Int64)), .second, .val (.int ((0 : Int32) + (1 : Int32)))] rfl ?_
  show Go p e below _ s₁ (mkF m 68 #[.val (.ref a_DM), .val (.ref u), .val (.ref w), .val (.long rc), .second, .val (.int k), .val (.long ((0 : Int64) + ((s0).toInt64))), .second, .val (.long (0 : Int64)), .second, .val (.int ((0 : Int32) + (1 : Int32)))] [])
  rw [show ((0 : Int32) + (1 : Int32)) = (1 : Int32) from by decide]
  show Go p e below _ s₁ (mkF m 68 #[.val (.ref a_DM), .val (.ref u), .val (.ref w), .val (.long rc), .second, .val (.int k), .val (.long ((0 : Int64) + ((s0).toInt64))), .second, .val (.long (0 : Int64)), .second, .val (.int (1 : Int32))] [])
  refine Go.goto X0 hx (hb hby d1_68) rfl 9 (by decide) (by decide) ?_
  refine Go.iload X0 hx (hb hby d1_9) rfl rfl  ?_
  refine Go.aloadN X0 hx (hb hby d1_11) rfl rfl rfl ?_
  refine Go.alen X0 hx hZ Vu e0 (hb hby d1_12) rfl ?_
  refine Go.icmpNo X0 hx (hb hby d1_13) rfl (tlt (by decide : (1 : Int32) < (2 : Int32))).2.1 ?_
  refine Go.aloadN X0 hx (hb hby d1_16) rfl rfl rfl ?_
  refine Go.iload X0 hx (hb hby d1_17) rfl rfl  ?_
  refine Go.iaload X0 hx hZ (.int s1) Vu e0  ⟨by decide, by decide⟩ rfl (hb hby d1_19) rfl ?_
  refine Go.iload X0 hx (hb hby d1_20) rfl rfl  ?_
  refine Go.icmpNo X0 hx (hb hby d1_22) rfl (tlt t1).2.1 ?_
  refine Go.lload X0 hx (hb hby d1_25) rfl rfl  ?_
  refine Go.aloadN X0 hx (hb hby d1_27) rfl rfl rfl ?_
  refine Go.iload X0 hx (hb hby d1_28) rfl rfl  ?_
  refine Go.iaload X0 hx hZ (.int s1) Vu e0  ⟨by decide, by decide⟩ rfl (hb hby d1_30) rfl ?_
  refine Go.i2l X0 hx (hb hby d1_31) rfl ?_
  refine Go.ladd X0 hx (hb hby d1_32) rfl ?_
  refine Go.lstore X0 hx (hb hby d1_33) rfl  #[.val (.ref a_DM), .val (.ref u), .val (.ref w), .val (.long rc), .second, .val (.int k), .val (.long (((0 : Int64) + ((s0).toInt64)) + ((s1).toInt64))), .second, .val (.long (0 : Int64)), .second, .val (.int (1 : Int32))] rfl ?_
  refine Go.goto X0 hx (hb hby d1_35) rfl 65 (by decide) (by decide) ?_
  refine Go.iinc X0 hx (hb hby d1_65) rfl rfl #[.val (.ref a_DM), .val (.ref u), .val (.ref w), .val (.long rc), .second, .val (.int k), .val (.long (((0 : Int64) + ((s0).toInt64)) + ((s1).toInt64))), .second, .val (.long (0 : Int64)), .second, .val (.int ((1 : Int32) + (1 : Int32)))] rfl ?_
  show Go p e below _ s₁ (mkF m 68 #[.val (.ref a_DM), .val (.ref u), .val (.ref w), .val (.long rc), .second, .val (.int k), .val (.long (((0 : Int64) + ((s0).toInt64)) + ((s1).toInt64))), .second, .val (.long (0 : Int64)), .second, .val (.int ((1 : Int32) + (1 : Int32)))] [])
  rw [show ((1 : Int32) + (1 : Int32)) = (2 : Int32) from by decide]
  show Go p e below _ s₁ (mkF m 68 #[.val (.ref a_DM), .val (.ref u), .val (.ref w), .val (.long rc), .second, .val (.int k), .val (.long (((0 : Int64) + ((s0).toInt64)) + ((s1).toInt64))), .second, .val (.long (0 : Int64)), .second, .val (.int (2 : Int32))] [])
  refine Go.goto X0 hx (hb hby d1_68) rfl 9 (by decide) (by decide) ?_
  refine Go.iload X0 hx (hb hby d1_9) rfl rfl  ?_
  refine Go.aloadN X0 hx (hb hby d1_11) rfl rfl rfl ?_
  refine Go.alen X0 hx hZ Vu e0 (hb hby d1_12) rfl ?_
  refine Go.icmpYes X0 hx (hb hby d1_13) rfl 71 (flt (by decide : ¬ ((2 : Int32) < (2 : Int32)))).2.1 (by decide) (by decide) ?_
  refine Go.newO X0 hx hZ hown (wd 9 rfl) (wd 10 rfl) (wd 11 rfl) e0 (hb hby d1_71) rfl (Nat.le_of_ble_eq_true rfl) (Nat.le_of_ble_eq_true rfl) ?_
  intro T1 h1 b1 g1 X1 e1 E1 A1 D1
  have F2 : Fld Z h1 b1 "com/example/unika/unika/anonymize/RecodingMetric$Evaluation" "suppressedRows" "J" (.long (0 : Int64)) := D1 (Or.inr (wd 30 rfl)) (ty := .long) (by decide)
  have F3 : Fld Z h1 b1 "com/example/unika/unika/anonymize/RecodingMetric$Evaluation" "cost" "J" (.long (0 : Int64)) := D1 (Or.inr (wd 32 rfl)) (ty := .long) (by decide)
  have q1 : Z.heap.size ≤ b1 := Nat.le_trans O0.2.1 (Nat.le_of_eq g1.symm)
  have z1 : h0.size ≤ b1 := Nat.le_trans (Keep.refl h0 []).1 (Nat.le_of_eq g1.symm)
  have ne_u_b1 : u ≠ b1 := Nat.ne_of_lt (Nat.lt_of_lt_of_le Vu.lt (Nat.le_of_eq g1.symm))
  have ne_w_b1 : w ≠ b1 := Nat.ne_of_lt (Nat.lt_of_lt_of_le Vw.lt (Nat.le_of_eq g1.symm))
  have K4 := (Keep.refl h0 []).ext E1
  have O5 := O0.ext E1
  have V6 := Vu.ext E1
  have V7 := Vw.ext E1
  refine Go.dup X1 hx (hb hby d1_74) rfl rfl ?_
  refine Go.lload X1 hx (hb hby d1_75) rfl rfl  ?_
  refine Go.lload X1 hx (hb hby d1_77) rfl rfl  ?_
  refine Go.lload X1 hx (hb hby d1_79) rfl rfl  ?_
  refine Go.aloadN X1 hx (hb hby d1_81) rfl rfl rfl ?_
  refine Go.lloadN X1 hx (hb hby d1_82) rfl rfl  ?_
  refine Go.pureV X1 hx hZ hown (wd 12 rfl) (wd 13 rfl) (own_nf (args := #[]) (y' := (⟨"com/example/unika/unika/anonymize/RecodingMetric", "evaluate", "([I[IJI)Lcom/example/unika/unika/anonymize/RecodingMetric$Evaluation;"⟩ : MethodName)) rfl (mvT hZ (wd 7 rfl))) (wd 14 rfl) (wd 15 rfl) (wd 16 rfl) (wd 17 rfl) (by decide) [(.long rc)] [(.long (((0 : Int64) + ((s0).toInt64)) + ((s1).toInt64))), (.long (0 : Int64)), (.long (((0 : Int64) + ((s0).toInt64)) + ((s1).toInt64))), (.ref b1), (.ref b1)] (E_DM.ext O5.2) (rmV1 l Z a0 hw a_DM rc h1) e1 rfl (by rw [hml]; rfl) pd_1 rfl (hb hby d1_83) (Nat.le_of_ble_eq_true rfl) (Nat.le_of_ble_eq_true rfl) (Nat.le_of_ble_eq_true rfl) (Nat.le_of_ble_eq_true rfl) ?_
  intro T8 X8 e8
  refine Go.lmul X8 hx (hb hby d1_86) rfl ?_
  refine Go.ladd X8 hx (hb hby d1_87) rfl ?_
  refine Go.callI X8 hx hZ rfl hown (wd 18 rfl) (wd 19 rfl) (wd 11 rfl) (wd 20 rfl) (by decide) [(.long (((0 : Int64) + ((s0).toInt64)) + ((s1).toInt64))), (.long ((0 : Int64) + ((((0 : Int64) + ((s0).toInt64)) + ((s1).toInt64)) * rc)))] [(.ref b1)] (rmE l Z a0 hw b1 (((0 : Int64) + ((s0).toInt64)) + ((s1).toInt64)) ((0 : Int64) + ((((0 : Int64) + ((s0).toInt64)) + ((s1).toInt64)) * rc)) h1 O5 A1 q1 F2 F3) e8 rfl (by rw [hml]; rfl) pd_2 rfl (hb hby d1_88) (Nat.le_of_ble_eq_true rfl) (Nat.le_of_ble_eq_true rfl) (Nat.le_of_ble_eq_true rfl) (Nat.le_of_ble_eq_true rfl) ?_
  rintro vv9 T9 L9 X9 Q9
  obtain ⟨rfl, N9, K9, E9, Fs9, Fc9⟩ := Q9
  have M10 := Fr.app (Fr.nil _) N9
  have O11 := O5.keep K9 (allS q1 (all0))
  have K12 := Keep.trans K4 K9 (allS (Or.inr z1) (all0))
  have V13 := V6.keep K9 (ninS ne_u_b1 (nin0))
  have V14 := V7.keep K9 (ninS ne_w_b1 (nin0))
  have E15 := A1.keep K9
  exact Go.retA X9 hx hret hlk rfl rfl (hb hby d1_91) rfl ⟨b1, rfl, M10, K12, z1, E9, Fs9, Fc9⟩ (Nat.le_of_ble_eq_true rfl) (Nat.le_of_ble_eq_true rfl)
set_option maxRecDepth 65536 in
set_option maxHeartbeats 40000000 in
theorem rmEv002tf (l : Launch) (Z : State) (a0 : Array Value) (hw : ∀ d ∈ tables_1, d.before a0 Z = true) (u w : Addr) (ku kw : ClassId) (s0 s1 m0 m1 : Int32) (rc : Int64) (k : Int32) (a_DM : Addr) (a_CM : Addr) (h0 : Heap) (O0 : Old Z Z.heap.size h0) (FF : Facts Z a_DM a_CM) (Vu : Arv Z h0 u ku .int (2 : Int32) [(.int s0), (.int s1)] (.int (0 : Int32))) (Vw : Arv Z h0 w kw .int (2 : Int32) [(.int m0), (.int m1)] (.int (0 : Int32))) (t0 : s0 < k) (t1 : ¬ s1 < k) : Ctr l Z (⟨"com/example/unika/unika/anonymize/RecodingMetric", "evaluate", "([I[IJI)Lcom/example/unika/unika/anonymize/RecodingMetric$Evaluation;"⟩ : MethodName) prog_39_method_13_code 11 (some (.object "com/example/unika/unika/anonymize/RecodingMetric$Evaluation")) ({ frames := 3, cells := 1, slots := 2, locals := 41 } : Room) #[(.ref a_DM), (.ref u), (.ref w), (.long rc), (.int k)] h0 (fun v h L => ∃ b : Addr, v = some (.ref b) ∧ Fr Z.heap.size L ∧ Keep h0 h [] ∧ h0.size ≤ b ∧ Exa Z h b "com/example/unika/unika/anonymize/RecodingMetric$Evaluation" ∧ Fld Z h b "com/example/unika/unika/anonymize/RecodingMetric$Evaluation" "suppressedRows" "J" (.long ((0 : Int64) + ((s0).toInt64))) ∧ Fld Z h b "com/example/unika/unika/anonymize/RecodingMetric$Evaluation" "cost" "J" (.long (((0 : Int64) + (((s1).toInt64) * ((s1).toInt64))) + (((0 : Int64) + ((s0).toInt64)) * rc)))) := by
  refine Ctr.of (plainFor_of_name pn_1) ?_
  have wd : ∀ {d : Jvm.Cond} (i : Nat), tables_1[i]? = some d → d.before a0 Z = true := fun i q => hw _ (List.mem_of_getElem? q)
  intro p e s m below meth c s₁ hx hby hml hown hnm hret hlk hZ X0 e0
  have FF' := FF
  obtain ⟨S_DM, E_DM, S_CM, E_CM, ne_DM_CM⟩ := FF'
  refine Go.cast (ef_1 m a_DM u w rc k) ?_
  show Go p e below _ s₁ (mkF m 0 #[.val (.ref a_DM), .val (.ref u), .val (.ref w), .val (.long rc), .second, .val (.int k), .unset, .unset, .unset, .unset, .unset] [])
  refine Go.lconst X0 hx (hb hby d1_0) rfl (0 : Int64) rfl ?_
  refine Go.lstore X0 hx (hb hby d1_1) rfl  #[.val (.ref a_DM), .val (.ref u), .val (.ref w), .val (.long rc), .second, .val (.int k), .val (.long (0 : Int64)), .second, .unset, .unset, .unset] rfl ?_
  refine Go.lconst X0 hx (hb hby d1_3) rfl (0 : Int64) rfl ?_
  refine Go.lstore X0 hx (hb hby d1_4) rfl  #[.val (.ref a_DM), .val (.ref u), .val (.ref w), .val (.long rc), .second, .val (.int k), .val (.long (0 : Int64)), .second, .val (.long (0 : Int64)), .second, .unset] rfl ?_
  refine Go.iconst X0 hx (hb hby d1_6) rfl (0 : Int32) rfl ?_
  refine Go.istore X0 hx (hb hby d1_7) rfl  #[.val (.ref a_DM), .val (.ref u), .val (.ref w), .val (.long rc), .second, .val (.int k), .val (.long (0 : Int64)), .second, .val (.long (0 : Int64)), .second, .val (.int (0 : Int32))] rfl ?_
  refine Go.iload X0 hx (hb hby d1_9) rfl rfl  ?_
  refine Go.aloadN X0 hx (hb hby d1_11) rfl rfl rfl ?_
  refine Go.alen X0 hx hZ Vu e0 (hb hby d1_12) rfl ?_
  refine Go.icmpNo X0 hx (hb hby d1_13) rfl (tlt (by decide : (0 : Int32) < (2 : Int32))).2.1 ?_
  refine Go.aloadN X0 hx (hb hby d1_16) rfl rfl rfl ?_
  refine Go.iload X0 hx (hb hby d1_17) rfl rfl  ?_
  refine Go.iaload X0 hx hZ (.int s0) Vu e0  ⟨by decide, by decide⟩ rfl (hb hby d1_19) rfl ?_
  refine Go.iload X0 hx (hb hby d1_20) rfl rfl  ?_
  refine Go.icmpNo X0 hx (hb hby d1_22) rfl (tlt t0).2.1 ?_
  refine Go.lload X0 hx (hb hby d1_25) rfl rfl  ?_
  refine Go.aloadN X0 hx (hb hby d1_27) rfl rfl rfl ?_
  refine Go.iload X0 hx (hb hby d1_28) rfl rfl  ?_
  refine Go.iaload X0 hx hZ (.int s0) Vu e0  ⟨by decide, by decide⟩ rfl (hb hby d1_30) rfl ?_
  refine Go.i2l X0 hx (hb hby d1_31) rfl ?_
  refine Go.ladd X0 hx (hb hby d1_32) rfl ?_
  refine Go.lstore X0 hx (hb hby d1_33) rfl  #[.val (.ref a_DM), .val (.ref u), .val (.ref w), .val (.long rc), .second, .val (.int k), .val (.long ((0 : Int64) + ((s0).toInt64))), .second, .val (.long (0 : Int64)), .second, .val (.int (0 : Int32))] rfl ?_
  refine Go.goto X0 hx (hb hby d1_35) rfl 65 (by decide) (by decide) ?_
  refine Go.iinc X0 hx (hb hby d1_65) rfl rfl #[.val (.ref a_DM), .val (.ref u), .val (.ref w), .val (.long rc), .second, .val (.int k), .val (.long ((0 : Int64) + ((s0).toInt64))), .second, .val (.long (0 : Int64)), .second, .val (.int ((0 : Int32) + (1 : Int32)))] rfl ?_
  show Go p e below _ s₁ (mkF m 68 #[.val (.ref a_DM), .val (.ref u), .val (.ref w), .val (.long rc), .second, .val (.int k), .val (.long ((0 : Int64) + ((s0).toInt64))), .second, .val (.long (0 : Int64)), .second, .val (.int ((0 : Int32) + (1 : Int32)))] [])
  rw [show ((0 : Int32) + (1 : Int32)) = (1 : Int32) from by decide]
  show Go p e below _ s₁ (mkF m 68 #[.val (.ref a_DM), .val (.ref u), .val (.ref w), .val (.long rc), .second, .val (.int k), .val (.long ((0 : Int64) + ((s0).toInt64))), .second, .val (.long (0 : Int64)), .second, .val (.int (1 : Int32))] [])
  refine Go.goto X0 hx (hb hby d1_68) rfl 9 (by decide) (by decide) ?_
  refine Go.iload X0 hx (hb hby d1_9) rfl rfl  ?_
  refine Go.aloadN X0 hx (hb hby d1_11) rfl rfl rfl ?_
  refine Go.alen X0 hx hZ Vu e0 (hb hby d1_12) rfl ?_
  refine Go.icmpNo X0 hx (hb hby d1_13) rfl (tlt (by decide : (1 : Int32) < (2 : Int32))).2.1 ?_
  refine Go.aloadN X0 hx (hb hby d1_16) rfl rfl rfl ?_
  refine Go.iload X0 hx (hb hby d1_17) rfl rfl  ?_
  refine Go.iaload X0 hx hZ (.int s1) Vu e0  ⟨by decide, by decide⟩ rfl (hb hby d1_19) rfl ?_
  refine Go.iload X0 hx (hb hby d1_20) rfl rfl  ?_
  refine Go.icmpYes X0 hx (hb hby d1_22) rfl 38 (flt t1).2.1 (by decide) (by decide) ?_
  refine Go.lload X0 hx (hb hby d1_38) rfl rfl  ?_
  refine Go.aloadN X0 hx (hb hby d1_40) rfl rfl rfl ?_
  refine Go.aloadN X0 hx (hb hby d1_41) rfl rfl rfl ?_
  refine Go.iload X0 hx (hb hby d1_42) rfl rfl  ?_
  refine Go.iaload X0 hx hZ (.int s1) Vu e0  ⟨by decide, by decide⟩ rfl (hb hby d1_44) rfl ?_
  refine Go.i2l X0 hx (hb hby d1_45) rfl ?_
  refine Go.aloadN X0 hx (hb hby d1_46) rfl rfl rfl ?_
  refine Go.ifnonnullYes X0 hx (hb hby d1_47) rfl 54 (by decide) (by decide) ?_
  refine Go.aloadN X0 hx (hb hby d1_54) rfl rfl rfl ?_
  refine Go.iload X0 hx (hb hby d1_55) rfl rfl  ?_
  refine Go.iaload X0 hx hZ (.int m1) Vw e0  ⟨by decide, by decide⟩ rfl (hb hby d1_57) rfl ?_
  refine Go.i2l X0 hx (hb hby d1_58) rfl ?_
  refine Go.pureV X0 hx hZ hown (wd 47 rfl) (wd 48 rfl) (own_nf (args := #[]) (y' := (⟨"com/example/unika/unika/anonymize/RecodingMetric", "evaluate", "([I[IJI)Lcom/example/unika/unika/anonymize/RecodingMetric$Evaluation;"⟩ : MethodName)) rfl (mvT hZ (wd 7 rfl))) (wd 49 rfl) (wd 50 rfl) (wd 16 rfl) (wd 51 rfl) (by decide) [(.long ((s1).toInt64)), (.long ((m1).toInt64))] [(.long (0 : Int64))] (E_DM.ext O0.2) (rmK1 l Z a0 hw a_DM ((s1).toInt64) ((m1).toInt64) h0) e0 rfl (by rw [hml]; rfl) pd_6 rfl (hb hby d1_59) (Nat.le_of_ble_eq_true rfl) (Nat.le_of_ble_eq_true rfl) (Nat.le_of_ble_eq_true rfl) (Nat.le_of_ble_eq_true rfl) ?_
  intro T1 X1 e1
  refine Go.ladd X1 hx (hb hby d1_62) rfl ?_
  refine Go.lstore X1 hx (hb hby d1_63) rfl  #[.val (.ref a_DM), .val (.ref u), .val (.ref w), .val (.long rc), .second, .val (.int k), .val (.long ((0 : Int64) + ((s0).toInt64))), .second, .val (.long ((0 : Int64) + (((s1).toInt64) * ((s1).toInt64)))), .second, .val (.int (1 : Int32))] rfl ?_
  refine Go.iinc X1 hx (hb hby d1_65) rfl rfl #[.val (.ref a_DM), .val (.ref u), .val (.ref w), .val (.long rc), .second, .val (.int k), .val (.long ((0 : Int64) + ((s0).toInt64))), .second, .val (.long ((0 : Int64) + (((s1).toInt64) * ((s1).toInt64)))), .second, .val (.int ((1 : Int32) + (1 : Int32)))] rfl ?_
  show Go p e below _ T1 (mkF m 68 #[.val (.ref a_DM), .val (.ref u), .val (.ref w), .val (.long rc), .second, .val (.int k), .val (.long ((0 : Int64) + ((s0).toInt64))), .second, .val (.long ((0 : Int64) + (((s1).toInt64) * ((s1).toInt64)))), .second, .val (.int ((1 : Int32) + (1 : Int32)))] [])
  rw [show ((1 : Int32) + (1 : Int32)) = (2 : Int32) from by decide]
  show Go p e below _ T1 (mkF m 68 #[.val (.ref a_DM), .val (.ref u), .val (.ref w), .val (.long rc), .second, .val (.int k), .val (.long ((0 : Int64) + ((s0).toInt64))), .second, .val (.long ((0 : Int64) + (((s1).toInt64) * ((s1).toInt64)))), .second, .val (.int (2 : Int32))] [])
  refine Go.goto X1 hx (hb hby d1_68) rfl 9 (by decide) (by decide) ?_
  refine Go.iload X1 hx (hb hby d1_9) rfl rfl  ?_
  refine Go.aloadN X1 hx (hb hby d1_11) rfl rfl rfl ?_
  refine Go.alen X1 hx hZ Vu e1 (hb hby d1_12) rfl ?_
  refine Go.icmpYes X1 hx (hb hby d1_13) rfl 71 (flt (by decide : ¬ ((2 : Int32) < (2 : Int32)))).2.1 (by decide) (by decide) ?_
  refine Go.newO X1 hx hZ hown (wd 9 rfl) (wd 10 rfl) (wd 11 rfl) e1 (hb hby d1_71) rfl (Nat.le_of_ble_eq_true rfl) (Nat.le_of_ble_eq_true rfl) ?_
  intro T2 h2 b2 g2 X2 e2 E2 A2 D2
  have F3 : Fld Z h2 b2 "com/example/unika/unika/anonymize/RecodingMetric$Evaluation" "suppressedRows" "J" (.long (0 : Int64)) := D2 (Or.inr (wd 30 rfl)) (ty := .long) (by decide)
  have F4 : Fld Z h2 b2 "com/example/unika/unika/anonymize/RecodingMetric$Evaluation" "cost" "J" (.long (0 : Int64)) := D2 (Or.inr (wd 32 rfl)) (ty := .long) (by decide)
  have q2 : Z.heap.size ≤ b2 := Nat.le_trans O0.2.1 (Nat.le_of_eq g2.symm)
  have z2 : h0.size ≤ b2 := Nat.le_trans (Keep.refl h0 []).1 (Nat.le_of_eq g2.symm)
  have ne_u_b2 : u ≠ b2 := Nat.ne_of_lt (Nat.lt_of_lt_of_le Vu.lt (Nat.le_of_eq g2.symm))
  have ne_w_b2 : w ≠ b2 := Nat.ne_of_lt (Nat.lt_of_lt_of_le Vw.lt (Nat.le_of_eq g2.symm))
  have K5 := (Keep.refl h0 []).ext E2
  have O6 := O0.ext E2
  have V7 := Vu.ext E2
  have V8 := Vw.ext E2
  refine Go.dup X2 hx (hb hby d1_74) rfl rfl ?_
  refine Go.lload X2 hx (hb hby d1_75) rfl rfl  ?_
  refine Go.lload X2 hx (hb hby d1_77) rfl rfl  ?_
  refine Go.lload X2 hx (hb hby d1_79) rfl rfl  ?_
  refine Go.aloadN X2 hx (hb hby d1_81) rfl rfl rfl ?_
  refine Go.lloadN X2 hx (hb hby d1_82) rfl rfl  ?_
  refine Go.pureV X2 hx hZ hown (wd 12 rfl) (wd 13 rfl) (own_nf (args := #[]) (y' := (⟨"com/example/unika/unika/anonymize/RecodingMetric", "evaluate", "([I[IJI)Lcom/example/unika/unika/anonymize/RecodingMetric$Evaluation;"⟩ : MethodName)) rfl (mvT hZ (wd 7 rfl))) (wd 14 rfl) (wd 15 rfl) (wd 16 rfl) (wd 17 rfl) (by decide) [(.long rc)] [(.long ((0 : Int64) + ((s0).toInt64))), (.long ((0 : Int64) + (((s1).toInt64) * ((s1).toInt64)))), (.long ((0 : Int64) + ((s0).toInt64))), (.ref b2), (.ref b2)] (E_DM.ext O6.2) (rmV1 l Z a0 hw a_DM rc h2) e2 rfl (by rw [hml]; rfl) pd_1 rfl (hb hby d1_83) (Nat.le_of_ble_eq_true rfl) (Nat.le_of_ble_eq_true rfl) (Nat.le_of_ble_eq_true rfl) (Nat.le_of_ble_eq_true rfl) ?_
  intro T9 X9 e9
  refine Go.lmul X9 hx (hb hby d1_86) rfl ?_
  refine Go.ladd X9 hx (hb hby d1_87) rfl ?_
  refine Go.callI X9 hx hZ rfl hown (wd 18 rfl) (wd 19 rfl) (wd 11 rfl) (wd 20 rfl) (by decide) [(.long ((0 : Int64) + ((s0).toInt64))), (.long (((0 : Int64) + (((s1).toInt64) * ((s1).toInt64))) + (((0 : Int64) + ((s0).toInt64)) * rc)))] [(.ref b2)] (rmE l Z a0 hw b2 ((0 : Int64) + ((s0).toInt64)) (((0 : Int64) + (((s1).toInt64) * ((s1).toInt64))) + (((0 : Int64) + ((s0).toInt64)) * rc)) h2 O6 A2 q2 F3 F4) e9 rfl (by rw [hml]; rfl) pd_2 rfl (hb hby d1_88) (Nat.le_of_ble_eq_true rfl) (Nat.le_of_ble_eq_true rfl) (Nat.le_of_ble_eq_true rfl) (Nat.le_of_ble_eq_true rfl) ?_
  rintro vv10 T10 L10 X10 Q10
  obtain ⟨rfl, N10, K10, E10, Fs10, Fc10⟩ := Q10
  have M11 := Fr.app (Fr.nil _) N10
  have O12 := O6.keep K10 (allS q2 (all0))
  have K13 := Keep.trans K5 K10 (allS (Or.inr z2) (all0))
  have V14 := V7.keep K10 (ninS ne_u_b2 (nin0))
  have V15 := V8.keep K10 (ninS ne_w_b2 (nin0))
  have E16 := A2.keep K10
  exact Go.retA X10 hx hret hlk rfl rfl (hb hby d1_91) rfl ⟨b2, rfl, M11, K13, z2, E10, Fs10, Fc10⟩ (Nat.le_of_ble_eq_true rfl) (Nat.le_of_ble_eq_true rfl)
set_option maxRecDepth 65536 in
set_option maxHeartbeats 40000000 in
theorem rmEv002ft (l : Launch) (Z : State) (a0 : Array Value) (hw : ∀ d ∈ tables_1, d.before a0 Z = true) (u w : Addr) (ku kw : ClassId) (s0 s1 m0 m1 : Int32) (rc : Int64) (k : Int32) (a_DM : Addr) (a_CM : Addr) (h0 : Heap) (O0 : Old Z Z.heap.size h0) (FF : Facts Z a_DM a_CM) (Vu : Arv Z h0 u ku .int (2 : Int32) [(.int s0), (.int s1)] (.int (0 : Int32))) (Vw : Arv Z h0 w kw .int (2 : Int32) [(.int m0), (.int m1)] (.int (0 : Int32))) (t0 : ¬ s0 < k) (t1 : s1 < k) : Ctr l Z (⟨"com/example/unika/unika/anonymize/RecodingMetric", "evaluate", "([I[IJI)Lcom/example/unika/unika/anonymize/RecodingMetric$Evaluation;"⟩ : MethodName) prog_39_method_13_code 11 (some (.object "com/example/unika/unika/anonymize/RecodingMetric$Evaluation")) ({ frames := 3, cells := 1, slots := 2, locals := 41 } : Room) #[(.ref a_DM), (.ref u), (.ref w), (.long rc), (.int k)] h0 (fun v h L => ∃ b : Addr, v = some (.ref b) ∧ Fr Z.heap.size L ∧ Keep h0 h [] ∧ h0.size ≤ b ∧ Exa Z h b "com/example/unika/unika/anonymize/RecodingMetric$Evaluation" ∧ Fld Z h b "com/example/unika/unika/anonymize/RecodingMetric$Evaluation" "suppressedRows" "J" (.long ((0 : Int64) + ((s1).toInt64))) ∧ Fld Z h b "com/example/unika/unika/anonymize/RecodingMetric$Evaluation" "cost" "J" (.long (((0 : Int64) + (((s0).toInt64) * ((s0).toInt64))) + (((0 : Int64) + ((s1).toInt64)) * rc)))) := by
  refine Ctr.of (plainFor_of_name pn_1) ?_
  have wd : ∀ {d : Jvm.Cond} (i : Nat), tables_1[i]? = some d → d.before a0 Z = true := fun i q => hw _ (List.mem_of_getElem? q)
  intro p e s m below meth c s₁ hx hby hml hown hnm hret hlk hZ X0 e0
  have FF' := FF
  obtain ⟨S_DM, E_DM, S_CM, E_CM, ne_DM_CM⟩ := FF'
  refine Go.cast (ef_1 m a_DM u w rc k) ?_
  show Go p e below _ s₁ (mkF m 0 #[.val (.ref a_DM), .val (.ref u), .val (.ref w), .val (.long rc), .second, .val (.int k), .unset, .unset, .unset, .unset, .unset] [])
  refine Go.lconst X0 hx (hb hby d1_0) rfl (0 : Int64) rfl ?_
  refine Go.lstore X0 hx (hb hby d1_1) rfl  #[.val (.ref a_DM), .val (.ref u), .val (.ref w), .val (.long rc), .second, .val (.int k), .val (.long (0 : Int64)), .second, .unset, .unset, .unset] rfl ?_
  refine Go.lconst X0 hx (hb hby d1_3) rfl (0 : Int64) rfl ?_
  refine Go.lstore X0 hx (hb hby d1_4) rfl  #[.val (.ref a_DM), .val (.ref u), .val (.ref w), .val (.long rc), .second, .val (.int k), .val (.long (0 : Int64)), .second, .val (.long (0 : Int64)), .second, .unset] rfl ?_
  refine Go.iconst X0 hx (hb hby d1_6) rfl (0 : Int32) rfl ?_
  refine Go.istore X0 hx (hb hby d1_7) rfl  #[.val (.ref a_DM), .val (.ref u), .val (.ref w), .val (.long rc), .second, .val (.int k), .val (.long (0 : Int64)), .second, .val (.long (0 : Int64)), .second, .val (.int (0 : Int32))] rfl ?_
  refine Go.iload X0 hx (hb hby d1_9) rfl rfl  ?_
  refine Go.aloadN X0 hx (hb hby d1_11) rfl rfl rfl ?_
  refine Go.alen X0 hx hZ Vu e0 (hb hby d1_12) rfl ?_
  refine Go.icmpNo X0 hx (hb hby d1_13) rfl (tlt (by decide : (0 : Int32) < (2 : Int32))).2.1 ?_
  refine Go.aloadN X0 hx (hb hby d1_16) rfl rfl rfl ?_
  refine Go.iload X0 hx (hb hby d1_17) rfl rfl  ?_
  refine Go.iaload X0 hx hZ (.int s0) Vu e0  ⟨by decide, by decide⟩ rfl (hb hby d1_19) rfl ?_
  refine Go.iload X0 hx (hb hby d1_20) rfl rfl  ?_
  refine Go.icmpYes X0 hx (hb hby d1_22) rfl 38 (flt t0).2.1 (by decide) (by decide) ?_
  refine Go.lload X0 hx (hb hby d1_38) rfl rfl  ?_
  refine Go.aloadN X0 hx (hb hby d1_40) rfl rfl rfl ?_
  refine Go.aloadN X0 hx (hb hby d1_41) rfl rfl rfl ?_
  refine Go.iload X0 hx (hb hby d1_42) rfl rfl  ?_
  refine Go.iaload X0 hx hZ (.int s0) Vu e0  ⟨by decide, by decide⟩ rfl (hb hby d1_44) rfl ?_
  refine Go.i2l X0 hx (hb hby d1_45) rfl ?_
  refine Go.aloadN X0 hx (hb hby d1_46) rfl rfl rfl ?_
  refine Go.ifnonnullYes X0 hx (hb hby d1_47) rfl 54 (by decide) (by decide) ?_
  refine Go.aloadN X0 hx (hb hby d1_54) rfl rfl rfl ?_
  refine Go.iload X0 hx (hb hby d1_55) rfl rfl  ?_
  refine Go.iaload X0 hx hZ (.int m0) Vw e0  ⟨by decide, by decide⟩ rfl (hb hby d1_57) rfl ?_
  refine Go.i2l X0 hx (hb hby d1_58) rfl ?_
  refine Go.pureV X0 hx hZ hown (wd 47 rfl) (wd 48 rfl) (own_nf (args := #[]) (y' := (⟨"com/example/unika/unika/anonymize/RecodingMetric", "evaluate", "([I[IJI)Lcom/example/unika/unika/anonymize/RecodingMetric$Evaluation;"⟩ : MethodName)) rfl (mvT hZ (wd 7 rfl))) (wd 49 rfl) (wd 50 rfl) (wd 16 rfl) (wd 51 rfl) (by decide) [(.long ((s0).toInt64)), (.long ((m0).toInt64))] [(.long (0 : Int64))] (E_DM.ext O0.2) (rmK1 l Z a0 hw a_DM ((s0).toInt64) ((m0).toInt64) h0) e0 rfl (by rw [hml]; rfl) pd_6 rfl (hb hby d1_59) (Nat.le_of_ble_eq_true rfl) (Nat.le_of_ble_eq_true rfl) (Nat.le_of_ble_eq_true rfl) (Nat.le_of_ble_eq_true rfl) ?_
  intro T1 X1 e1
  refine Go.ladd X1 hx (hb hby d1_62) rfl ?_
  refine Go.lstore X1 hx (hb hby d1_63) rfl  #[.val (.ref a_DM), .val (.ref u), .val (.ref w), .val (.long rc), .second, .val (.int k), .val (.long (0 : Int64)), .second, .val (.long ((0 : Int64) + (((s0).toInt64) * ((s0).toInt64)))), .second, .val (.int (0 : Int32))] rfl ?_
  refine Go.iinc X1 hx (hb hby d1_65) rfl rfl #[.val (.ref a_DM), .val (.ref u), .val (.ref w), .val (.long rc), .second, .val (.int k), .val (.long (0 : Int64)), .second, .val (.long ((0 : Int64) + (((s0).toInt64) * ((s0).toInt64)))), .second, .val (.int ((0 : Int32) + (1 : Int32)))] rfl ?_
  show Go p e below _ T1 (mkF m 68 #[.val (.ref a_DM), .val (.ref u), .val (.ref w), .val (.long rc), .second, .val (.int k), .val (.long (0 : Int64)), .second, .val (.long ((0 : Int64) + (((s0).toInt64) * ((s0).toInt64)))), .second, .val (.int ((0 : Int32) + (1 : Int32)))] [])
  rw [show ((0 : Int32) + (1 : Int32)) = (1 : Int32) from by decide]
  show Go p e below _ T1 (mkF m 68 #[.val (.ref a_DM), .val (.ref u), .val (.ref w), .val (.long rc), .second, .val (.int k), .val (.long (0 : Int64)), .second, .val (.long ((0 : Int64) + (((s0).toInt64) * ((s0).toInt64)))), .second, .val (.int (1 : Int32))] [])
  refine Go.goto X1 hx (hb hby d1_68) rfl 9 (by decide) (by decide) ?_
  refine Go.iload X1 hx (hb hby d1_9) rfl rfl  ?_
  refine Go.aloadN X1 hx (hb hby d1_11) rfl rfl rfl ?_
  refine Go.alen X1 hx hZ Vu e1 (hb hby d1_12) rfl ?_
  refine Go.icmpNo X1 hx (hb hby d1_13) rfl (tlt (by decide : (1 : Int32) < (2 : Int32))).2.1 ?_
  refine Go.aloadN X1 hx (hb hby d1_16) rfl rfl rfl ?_
  refine Go.iload X1 hx (hb hby d1_17) rfl rfl  ?_
  refine Go.iaload X1 hx hZ (.int s1) Vu e1  ⟨by decide, by decide⟩ rfl (hb hby d1_19) rfl ?_
  refine Go.iload X1 hx (hb hby d1_20) rfl rfl  ?_
  refine Go.icmpNo X1 hx (hb hby d1_22) rfl (tlt t1).2.1 ?_
  refine Go.lload X1 hx (hb hby d1_25) rfl rfl  ?_
  refine Go.aloadN X1 hx (hb hby d1_27) rfl rfl rfl ?_
  refine Go.iload X1 hx (hb hby d1_28) rfl rfl  ?_
  refine Go.iaload X1 hx hZ (.int s1) Vu e1  ⟨by decide, by decide⟩ rfl (hb hby d1_30) rfl ?_
  refine Go.i2l X1 hx (hb hby d1_31) rfl ?_
  refine Go.ladd X1 hx (hb hby d1_32) rfl ?_
  refine Go.lstore X1 hx (hb hby d1_33) rfl  #[.val (.ref a_DM), .val (.ref u), .val (.ref w), .val (.long rc), .second, .val (.int k), .val (.long ((0 : Int64) + ((s1).toInt64))), .second, .val (.long ((0 : Int64) + (((s0).toInt64) * ((s0).toInt64)))), .second, .val (.int (1 : Int32))] rfl ?_
  refine Go.goto X1 hx (hb hby d1_35) rfl 65 (by decide) (by decide) ?_
  refine Go.iinc X1 hx (hb hby d1_65) rfl rfl #[.val (.ref a_DM), .val (.ref u), .val (.ref w), .val (.long rc), .second, .val (.int k), .val (.long ((0 : Int64) + ((s1).toInt64))), .second, .val (.long ((0 : Int64) + (((s0).toInt64) * ((s0).toInt64)))), .second, .val (.int ((1 : Int32) + (1 : Int32)))] rfl ?_
  show Go p e below _ T1 (mkF m 68 #[.val (.ref a_DM), .val (.ref u), .val (.ref w), .val (.long rc), .second, .val (.int k), .val (.long ((0 : Int64) + ((s1).toInt64))), .second, .val (.long ((0 : Int64) + (((s0).toInt64) * ((s0).toInt64)))), .second, .val (.int ((1 : Int32) + (1 : Int32)))] [])
  rw [show ((1 : Int32) + (1 : Int32)) = (2 : Int32) from by decide]
  show Go p e below _ T1 (mkF m 68 #[.val (.ref a_DM), .val (.ref u), .val (.ref w), .val (.long rc), .second, .val (.int k), .val (.long ((0 : Int64) + ((s1).toInt64))), .second, .val (.long ((0 : Int64) + (((s0).toInt64) * ((s0).toInt64)))), .second, .val (.int (2 : Int32))] [])
  refine Go.goto X1 hx (hb hby d1_68) rfl 9 (by decide) (by decide) ?_
  refine Go.iload X1 hx (hb hby d1_9) rfl rfl  ?_
  refine Go.aloadN X1 hx (hb hby d1_11) rfl rfl rfl ?_
  refine Go.alen X1 hx hZ Vu e1 (hb hby d1_12) rfl ?_
  refine Go.icmpYes X1 hx (hb hby d1_13) rfl 71 (flt (by decide : ¬ ((2 : Int32) < (2 : Int32)))).2.1 (by decide) (by decide) ?_
  refine Go.newO X1 hx hZ hown (wd 9 rfl) (wd 10 rfl) (wd 11 rfl) e1 (hb hby d1_71) rfl (Nat.le_of_ble_eq_true rfl) (Nat.le_of_ble_eq_true rfl) ?_
  intro T2 h2 b2 g2 X2 e2 E2 A2 D2
  have F3 : Fld Z h2 b2 "com/example/unika/unika/anonymize/RecodingMetric$Evaluation" "suppressedRows" "J" (.long (0 : Int64)) := D2 (Or.inr (wd 30 rfl)) (ty := .long) (by decide)
  have F4 : Fld Z h2 b2 "com/example/unika/unika/anonymize/RecodingMetric$Evaluation" "cost" "J" (.long (0 : Int64)) := D2 (Or.inr (wd 32 rfl)) (ty := .long) (by decide)
  have q2 : Z.heap.size ≤ b2 := Nat.le_trans O0.2.1 (Nat.le_of_eq g2.symm)
  have z2 : h0.size ≤ b2 := Nat.le_trans (Keep.refl h0 []).1 (Nat.le_of_eq g2.symm)
  have ne_u_b2 : u ≠ b2 := Nat.ne_of_lt (Nat.lt_of_lt_of_le Vu.lt (Nat.le_of_eq g2.symm))
  have ne_w_b2 : w ≠ b2 := Nat.ne_of_lt (Nat.lt_of_lt_of_le Vw.lt (Nat.le_of_eq g2.symm))
  have K5 := (Keep.refl h0 []).ext E2
  have O6 := O0.ext E2
  have V7 := Vu.ext E2
  have V8 := Vw.ext E2
  refine Go.dup X2 hx (hb hby d1_74) rfl rfl ?_
  refine Go.lload X2 hx (hb hby d1_75) rfl rfl  ?_
  refine Go.lload X2 hx (hb hby d1_77) rfl rfl  ?_
  refine Go.lload X2 hx (hb hby d1_79) rfl rfl  ?_
  refine Go.aloadN X2 hx (hb hby d1_81) rfl rfl rfl ?_
  refine Go.lloadN X2 hx (hb hby d1_82) rfl rfl  ?_
  refine Go.pureV X2 hx hZ hown (wd 12 rfl) (wd 13 rfl) (own_nf (args := #[]) (y' := (⟨"com/example/unika/unika/anonymize/RecodingMetric", "evaluate", "([I[IJI)Lcom/example/unika/unika/anonymize/RecodingMetric$Evaluation;"⟩ : MethodName)) rfl (mvT hZ (wd 7 rfl))) (wd 14 rfl) (wd 15 rfl) (wd 16 rfl) (wd 17 rfl) (by decide) [(.long rc)] [(.long ((0 : Int64) + ((s1).toInt64))), (.long ((0 : Int64) + (((s0).toInt64) * ((s0).toInt64)))), (.long ((0 : Int64) + ((s1).toInt64))), (.ref b2), (.ref b2)] (E_DM.ext O6.2) (rmV1 l Z a0 hw a_DM rc h2) e2 rfl (by rw [hml]; rfl) pd_1 rfl (hb hby d1_83) (Nat.le_of_ble_eq_true rfl) (Nat.le_of_ble_eq_true rfl) (Nat.le_of_ble_eq_true rfl) (Nat.le_of_ble_eq_true rfl) ?_
  intro T9 X9 e9
  refine Go.lmul X9 hx (hb hby d1_86) rfl ?_
  refine Go.ladd X9 hx (hb hby d1_87) rfl ?_
  refine Go.callI X9 hx hZ rfl hown (wd 18 rfl) (wd 19 rfl) (wd 11 rfl) (wd 20 rfl) (by decide) [(.long ((0 : Int64) + ((s1).toInt64))), (.long (((0 : Int64) + (((s0).toInt64) * ((s0).toInt64))) + (((0 : Int64) + ((s1).toInt64)) * rc)))] [(.ref b2)] (rmE l Z a0 hw b2 ((0 : Int64) + ((s1).toInt64)) (((0 : Int64) + (((s0).toInt64) * ((s0).toInt64))) + (((0 : Int64) + ((s1).toInt64)) * rc)) h2 O6 A2 q2 F3 F4) e9 rfl (by rw [hml]; rfl) pd_2 rfl (hb hby d1_88) (Nat.le_of_ble_eq_true rfl) (Nat.le_of_ble_eq_true rfl) (Nat.le_of_ble_eq_true rfl) (Nat.le_of_ble_eq_true rfl) ?_
  rintro vv10 T10 L10 X10 Q10
  obtain ⟨rfl, N10, K10, E10, Fs10, Fc10⟩ := Q10
  have M11 := Fr.app (Fr.nil _) N10
  have O12 := O6.keep K10 (allS q2 (all0))
  have K13 := Keep.trans K5 K10 (allS (Or.inr z2) (all0))
  have V14 := V7.keep K10 (ninS ne_u_b2 (nin0))
  have V15 := V8.keep K10 (ninS ne_w_b2 (nin0))
  have E16 := A2.keep K10
  exact Go.retA X10 hx hret hlk rfl rfl (hb hby d1_91) rfl ⟨b2, rfl, M11, K13, z2, E10, Fs10, Fc10⟩ (Nat.le_of_ble_eq_true rfl) (Nat.le_of_ble_eq_true rfl)
set_option maxRecDepth 65536 in
set_option maxHeartbeats 40000000 in
theorem rmEv002ff (l : Launch) (Z : State) (a0 : Array Value) (hw : ∀ d ∈ tables_1, d.before a0 Z = true) (u w : Addr) (ku kw : ClassId) (s0 s1 m0 m1 : Int32) (rc : Int64) (k : Int32) (a_DM : Addr) (a_CM : Addr) (h0 : Heap) (O0 : Old Z Z.heap.size h0) (FF : Facts Z a_DM a_CM) (Vu : Arv Z h0 u ku .int (2 : Int32) [(.int s0), (.int s1)] (.int (0 : Int32))) (Vw : Arv Z h0 w kw .int (2 : Int32) [(.int m0), (.int m1)] (.int (0 : Int32))) (t0 : ¬ s0 < k) (t1 : ¬ s1 < k) : Ctr l Z (⟨"com/example/unika/unika/anonymize/RecodingMetric", "evaluate", "([I[IJI)Lcom/example/unika/unika/anonymize/RecodingMetric$Evaluation;"⟩ : MethodName) prog_39_method_13_code 11 (some (.object "com/example/unika/unika/anonymize/RecodingMetric$Evaluation")) ({ frames := 3, cells := 1, slots := 2, locals := 41 } : Room) #[(.ref a_DM), (.ref u), (.ref w), (.long rc), (.int k)] h0 (fun v h L => ∃ b : Addr, v = some (.ref b) ∧ Fr Z.heap.size L ∧ Keep h0 h [] ∧ h0.size ≤ b ∧ Exa Z h b "com/example/unika/unika/anonymize/RecodingMetric$Evaluation" ∧ Fld Z h b "com/example/unika/unika/anonymize/RecodingMetric$Evaluation" "suppressedRows" "J" (.long (0 : Int64)) ∧ Fld Z h b "com/example/unika/unika/anonymize/RecodingMetric$Evaluation" "cost" "J" (.long ((((0 : Int64) + (((s0).toInt64) * ((s0).toInt64))) + (((s1).toInt64) * ((s1).toInt64))) + ((0 : Int64) * rc)))) := by
  refine Ctr.of (plainFor_of_name pn_1) ?_
  have wd : ∀ {d : Jvm.Cond} (i : Nat), tables_1[i]? = some d → d.before a0 Z = true := fun i q => hw _ (List.mem_of_getElem? q)
  intro p e s m below meth c s₁ hx hby hml hown hnm hret hlk hZ X0 e0
  have FF' := FF
  obtain ⟨S_DM, E_DM, S_CM, E_CM, ne_DM_CM⟩ := FF'
  refine Go.cast (ef_1 m a_DM u w rc k) ?_
  show Go p e below _ s₁ (mkF m 0 #[.val (.ref a_DM), .val (.ref u), .val (.ref w), .val (.long rc), .second, .val (.int k), .unset, .unset, .unset, .unset, .unset] [])
  refine Go.lconst X0 hx (hb hby d1_0) rfl (0 : Int64) rfl ?_
  refine Go.lstore X0 hx (hb hby d1_1) rfl  #[.val (.ref a_DM), .val (.ref u), .val (.ref w), .val (.long rc), .second, .val (.int k), .val (.long (0 : Int64)), .second, .unset, .unset, .unset] rfl ?_
  refine Go.lconst X0 hx (hb hby d1_3) rfl (0 : Int64) rfl ?_
  refine Go.lstore X0 hx (hb hby d1_4) rfl  #[.val (.ref a_DM), .val (.ref u), .val (.ref w), .val (.long rc), .second, .val (.int k), .val (.long (0 : Int64)), .second, .val (.long (0 : Int64)), .second, .unset] rfl ?_
  refine Go.iconst X0 hx (hb hby d1_6) rfl (0 : Int32) rfl ?_
  refine Go.istore X0 hx (hb hby d1_7) rfl  #[.val (.ref a_DM), .val (.ref u), .val (.ref w), .val (.long rc), .second, .val (.int k), .val (.long (0 : Int64)), .second, .val (.long (0 : Int64)), .second, .val (.int (0 : Int32))] rfl ?_
  refine Go.iload X0 hx (hb hby d1_9) rfl rfl  ?_
  refine Go.aloadN X0 hx (hb hby d1_11) rfl rfl rfl ?_
  refine Go.alen X0 hx hZ Vu e0 (hb hby d1_12) rfl ?_
  refine Go.icmpNo X0 hx (hb hby d1_13) rfl (tlt (by decide : (0 : Int32) < (2 : Int32))).2.1 ?_
  refine Go.aloadN X0 hx (hb hby d1_16) rfl rfl rfl ?_
  refine Go.iload X0 hx (hb hby d1_17) rfl rfl  ?_
  refine Go.iaload X0 hx hZ (.int s0) Vu e0  ⟨by decide, by decide⟩ rfl (hb hby d1_19) rfl ?_
  refine Go.iload X0 hx (hb hby d1_20) rfl rfl  ?_
  refine Go.icmpYes X0 hx (hb hby d1_22) rfl 38 (flt t0).2.1 (by decide) (by decide) ?_
  refine Go.lload X0 hx (hb hby d1_38) rfl rfl  ?_
  refine Go.aloadN X0 hx (hb hby d1_40) rfl rfl rfl ?_
  refine Go.aloadN X0 hx (hb hby d1_41) rfl rfl rfl ?_
  refine Go.iload X0 hx (hb hby d1_42) rfl rfl  ?_
  refine Go.iaload X0 hx hZ (.int s0) Vu e0  ⟨by decide, by decide⟩ rfl (hb hby d1_44) rfl ?_
  refine Go.i2l X0 hx (hb hby d1_45) rfl ?_
  refine Go.aloadN X0 hx (hb hby d1_46) rfl rfl rfl ?_
  refine Go.ifnonnullYes X0 hx (hb hby d1_47) rfl 54 (by decide) (by decide) ?_
  refine Go.aloadN X0 hx (hb hby d1_54) rfl rfl rfl ?_
  refine Go.iload X0 hx (hb hby d1_55) rfl rfl  ?_
  refine Go.iaload X0 hx hZ (.int m0) Vw e0  ⟨by decide, by decide⟩ rfl (hb hby d1_57) rfl ?_
  refine Go.i2l X0 hx (hb hby d1_58) rfl ?_
  refine Go.pureV X0 hx hZ hown (wd 47 rfl) (wd 48 rfl) (own_nf (args := #[]) (y' := (⟨"com/example/unika/unika/anonymize/RecodingMetric", "evaluate", "([I[IJI)Lcom/example/unika/unika/anonymize/RecodingMetric$Evaluation;"⟩ : MethodName)) rfl (mvT hZ (wd 7 rfl))) (wd 49 rfl) (wd 50 rfl) (wd 16 rfl) (wd 51 rfl) (by decide) [(.long ((s0).toInt64)), (.long ((m0).toInt64))] [(.long (0 : Int64))] (E_DM.ext O0.2) (rmK1 l Z a0 hw a_DM ((s0).toInt64) ((m0).toInt64) h0) e0 rfl (by rw [hml]; rfl) pd_6 rfl (hb hby d1_59) (Nat.le_of_ble_eq_true rfl) (Nat.le_of_ble_eq_true rfl) (Nat.le_of_ble_eq_true rfl) (Nat.le_of_ble_eq_true rfl) ?_
  intro T1 X1 e1
  refine Go.ladd X1 hx (hb hby d1_62) rfl ?_
  refine Go.lstore X1 hx (hb hby d1_63) rfl  #[.val (.ref a_DM), .val (.ref u), .val (.ref w), .val (.long rc), .second, .val (.int k), .val (.long (0 : Int64)), .second, .val (.long ((0 : Int64) + (((s0).toInt64) * ((s0).toInt64)))), .second, .val (.int (0 : Int32))] rfl ?_
  refine Go.iinc X1 hx (hb hby d1_65) rfl rfl #[.val (.ref a_DM), .val (.ref u), .val (.ref w), .val (.long rc), .second, .val (.int k), .val (.long (0 : Int64)), .second, .val (.long ((0 : Int64) + (((s0).toInt64) * ((s0).toInt64)))), .second, .val (.int ((0 : Int32) + (1 : Int32)))] rfl ?_
  show Go p e below _ T1 (mkF m 68 #[.val (.ref a_DM), .val (.ref u), .val (.ref w), .val (.long rc), .second, .val (.int k), .val (.long (0 : Int64)), .second, .val (.long ((0 : Int64) + (((s0).toInt64) * ((s0).toInt64)))), .second, .val (.int ((0 : Int32) + (1 : Int32)))] [])
  rw [show ((0 : Int32) + (1 : Int32)) = (1 : Int32) from by decide]
  show Go p e below _ T1 (mkF m 68 #[.val (.ref a_DM), .val (.ref u), .val (.ref w), .val (.long rc), .second, .val (.int k), .val (.long (0 : Int64)), .second, .val (.long ((0 : Int64) + (((s0).toInt64) * ((s0).toInt64)))), .second, .val (.int (1 : Int32))] [])
  refine Go.goto X1 hx (hb hby d1_68) rfl 9 (by decide) (by decide) ?_
  refine Go.iload X1 hx (hb hby d1_9) rfl rfl  ?_
  refine Go.aloadN X1 hx (hb hby d1_11) rfl rfl rfl ?_
  refine Go.alen X1 hx hZ Vu e1 (hb hby d1_12) rfl ?_
  refine Go.icmpNo X1 hx (hb hby d1_13) rfl (tlt (by decide : (1 : Int32) < (2 : Int32))).2.1 ?_
  refine Go.aloadN X1 hx (hb hby d1_16) rfl rfl rfl ?_
  refine Go.iload X1 hx (hb hby d1_17) rfl rfl  ?_
  refine Go.iaload X1 hx hZ (.int s1) Vu e1  ⟨by decide, by decide⟩ rfl (hb hby d1_19) rfl ?_
  refine Go.iload X1 hx (hb hby d1_20) rfl rfl  ?_
  refine Go.icmpYes X1 hx (hb hby d1_22) rfl 38 (flt t1).2.1 (by decide) (by decide) ?_
  refine Go.lload X1 hx (hb hby d1_38) rfl rfl  ?_
  refine Go.aloadN X1 hx (hb hby d1_40) rfl rfl rfl ?_
  refine Go.aloadN X1 hx (hb hby d1_41) rfl rfl rfl ?_
  refine Go.iload X1 hx (hb hby d1_42) rfl rfl  ?_
  refine Go.iaload X1 hx hZ (.int s1) Vu e1  ⟨by decide, by decide⟩ rfl (hb hby d1_44) rfl ?_
  refine Go.i2l X1 hx (hb hby d1_45) rfl ?_
  refine Go.aloadN X1 hx (hb hby d1_46) rfl rfl rfl ?_
  refine Go.ifnonnullYes X1 hx (hb hby d1_47) rfl 54 (by decide) (by decide) ?_
  refine Go.aloadN X1 hx (hb hby d1_54) rfl rfl rfl ?_
  refine Go.iload X1 hx (hb hby d1_55) rfl rfl  ?_
  refine Go.iaload X1 hx hZ (.int m1) Vw e1  ⟨by decide, by decide⟩ rfl (hb hby d1_57) rfl ?_
  refine Go.i2l X1 hx (hb hby d1_58) rfl ?_
  refine Go.pureV X1 hx hZ hown (wd 47 rfl) (wd 48 rfl) (own_nf (args := #[]) (y' := (⟨"com/example/unika/unika/anonymize/RecodingMetric", "evaluate", "([I[IJI)Lcom/example/unika/unika/anonymize/RecodingMetric$Evaluation;"⟩ : MethodName)) rfl (mvT hZ (wd 7 rfl))) (wd 49 rfl) (wd 50 rfl) (wd 16 rfl) (wd 51 rfl) (by decide) [(.long ((s1).toInt64)), (.long ((m1).toInt64))] [(.long ((0 : Int64) + (((s0).toInt64) * ((s0).toInt64))))] (E_DM.ext O0.2) (rmK1 l Z a0 hw a_DM ((s1).toInt64) ((m1).toInt64) h0) e1 rfl (by rw [hml]; rfl) pd_6 rfl (hb hby d1_59) (Nat.le_of_ble_eq_true rfl) (Nat.le_of_ble_eq_true rfl) (Nat.le_of_ble_eq_true rfl) (Nat.le_of_ble_eq_true rfl) ?_
  intro T2 X2 e2
  refine Go.ladd X2 hx (hb hby d1_62) rfl ?_
  refine Go.lstore X2 hx (hb hby d1_63) rfl  #[.val (.ref a_DM), .val (.ref u), .val (.ref w), .val (.long rc), .second, .val (.int k), .val (.long (0 : Int64)), .second, .val (.long (((0 : Int64) + (((s0).toInt64) * ((s0).toInt64))) + (((s1).toInt64) * ((s1).toInt64)))), .second, .val (.int (1 : Int32))] rfl ?_
  refine Go.iinc X2 hx (hb hby d1_65) rfl rfl #[.val (.ref a_DM), .val (.ref u), .val (.ref w), .val (.long rc), .second, .val (.int k), .val (.long (0 : Int64)), .second, .val (.long (((0 : Int64) + (((s0).toInt64) * ((s0).toInt64))) + (((s1).toInt64) * ((s1).toInt64)))), .second, .val (.int ((1 : Int32) + (1 : Int32)))] rfl ?_
  show Go p e below _ T2 (mkF m 68 #[.val (.ref a_DM), .val (.ref u), .val (.ref w), .val (.long rc), .second, .val (.int k), .val (.long (0 : Int64)), .second, .val (.long (((0 : Int64) + (((s0).toInt64) * ((s0).toInt64))) + (((s1).toInt64) * ((s1).toInt64)))), .second, .val (.int ((1 : Int32) + (1 : Int32)))] [])
  rw [show ((1 : Int32) + (1 : Int32)) = (2 : Int32) from by decide]
  show Go p e below _ T2 (mkF m 68 #[.val (.ref a_DM), .val (.ref u), .val (.ref w), .val (.long rc), .second, .val (.int k), .val (.long (0 : Int64)), .second, .val (.long (((0 : Int64) + (((s0).toInt64) * ((s0).toInt64))) + (((s1).toInt64) * ((s1).toInt64)))), .second, .val (.int (2 : Int32))] [])
  refine Go.goto X2 hx (hb hby d1_68) rfl 9 (by decide) (by decide) ?_
  refine Go.iload X2 hx (hb hby d1_9) rfl rfl  ?_
  refine Go.aloadN X2 hx (hb hby d1_11) rfl rfl rfl ?_
  refine Go.alen X2 hx hZ Vu e2 (hb hby d1_12) rfl ?_
  refine Go.icmpYes X2 hx (hb hby d1_13) rfl 71 (flt (by decide : ¬ ((2 : Int32) < (2 : Int32)))).2.1 (by decide) (by decide) ?_
  refine Go.newO X2 hx hZ hown (wd 9 rfl) (wd 10 rfl) (wd 11 rfl) e2 (hb hby d1_71) rfl (Nat.le_of_ble_eq_true rfl) (Nat.le_of_ble_eq_true rfl) ?_
  intro T3 h3 b3 g3 X3 e3 E3 A3 D3
  have F4 : Fld Z h3 b3 "com/example/unika/unika/anonymize/RecodingMetric$Evaluation" "suppressedRows" "J" (.long (0 : Int64)) := D3 (Or.inr (wd 30 rfl)) (ty := .long) (by decide)
  have F5 : Fld Z h3 b3 "com/example/unika/unika/anonymize/RecodingMetric$Evaluation" "cost" "J" (.long (0 : Int64)) := D3 (Or.inr (wd 32 rfl)) (ty := .long) (by decide)
  have q3 : Z.heap.size ≤ b3 := Nat.le_trans O0.2.1 (Nat.le_of_eq g3.symm)
  have z3 : h0.size ≤ b3 := Nat.le_trans (Keep.refl h0 []).1 (Nat.le_of_eq g3.symm)
  have ne_u_b3 : u ≠ b3 := Nat.ne_of_lt (Nat.lt_of_lt_of_le Vu.lt (Nat.le_of_eq g3.symm))
  have ne_w_b3 : w ≠ b3 := Nat.ne_of_lt (Nat.lt_of_lt_of_le Vw.lt (Nat.le_of_eq g3.symm))
  have K6 := (Keep.refl h0 []).ext E3
  have O7 := O0.ext E3
  have V8 := Vu.ext E3
  have V9 := Vw.ext E3
  refine Go.dup X3 hx (hb hby d1_74) rfl rfl ?_
  refine Go.lload X3 hx (hb hby d1_75) rfl rfl  ?_
  refine Go.lload X3 hx (hb hby d1_77) rfl rfl  ?_
  refine Go.lload X3 hx (hb hby d1_79) rfl rfl  ?_
  refine Go.aloadN X3 hx (hb hby d1_81) rfl rfl rfl ?_
  refine Go.lloadN X3 hx (hb hby d1_82) rfl rfl  ?_
  refine Go.pureV X3 hx hZ hown (wd 12 rfl) (wd 13 rfl) (own_nf (args := #[]) (y' := (⟨"com/example/unika/unika/anonymize/RecodingMetric", "evaluate", "([I[IJI)Lcom/example/unika/unika/anonymize/RecodingMetric$Evaluation;"⟩ : MethodName)) rfl (mvT hZ (wd 7 rfl))) (wd 14 rfl) (wd 15 rfl) (wd 16 rfl) (wd 17 rfl) (by decide) [(.long rc)] [(.long (0 : Int64)), (.long (((0 : Int64) + (((s0).toInt64) * ((s0).toInt64))) + (((s1).toInt64) * ((s1).toInt64)))), (.long (0 : Int64)), (.ref b3), (.ref b3)] (E_DM.ext O7.2) (rmV1 l Z a0 hw a_DM rc h3) e3 rfl (by rw [hml]; rfl) pd_1 rfl (hb hby d1_83) (Nat.le_of_ble_eq_true rfl) (Nat.le_of_ble_eq_true rfl) (Nat.le_of_ble_eq_true rfl) (Nat.le_of_ble_eq_true rfl) ?_
  intro T10 X10 e10
  refine Go.lmul X10 hx (hb hby d1_86) rfl ?_
  refine Go.ladd X10 hx (hb hby d1_87) rfl ?_
  refine Go.callI X10 hx hZ rfl hown (wd 18 rfl) (wd 19 rfl) (wd 11 rfl) (wd 20 rfl) (by decide) [(.long (0 : Int64)), (.long ((((0 : Int64) + (((s0).toInt64) * ((s0).toInt64))) + (((s1).toInt64) * ((s1).toInt64))) + ((0 : Int64) * rc)))] [(.ref b3)] (rmE l Z a0 hw b3 (0 : Int64) ((((0 : Int64) + (((s0).toInt64) * ((s0).toInt64))) + (((s1).toInt64) * ((s1).toInt64))) + ((0 : Int64) * rc)) h3 O7 A3 q3 F4 F5) e10 rfl (by rw [hml]; rfl) pd_2 rfl (hb hby d1_88) (Nat.le_of_ble_eq_true rfl) (Nat.le_of_ble_eq_true rfl) (Nat.le_of_ble_eq_true rfl) (Nat.le_of_ble_eq_true rfl) ?_
  rintro vv11 T11 L11 X11 Q11
  obtain ⟨rfl, N11, K11, E11, Fs11, Fc11⟩ := Q11
  have M12 := Fr.app (Fr.nil _) N11
  have O13 := O7.keep K11 (allS q3 (all0))
  have K14 := Keep.trans K6 K11 (allS (Or.inr z3) (all0))
  have V15 := V8.keep K11 (ninS ne_u_b3 (nin0))
  have V16 := V9.keep K11 (ninS ne_w_b3 (nin0))
  have E17 := A3.keep K11
  exact Go.retA X11 hx hret hlk rfl rfl (hb hby d1_91) rfl ⟨b3, rfl, M12, K14, z3, E11, Fs11, Fc11⟩ (Nat.le_of_ble_eq_true rfl) (Nat.le_of_ble_eq_true rfl)
theorem ef_1_2 (m : MethodId) (x0 : Addr) (x1 : Addr) (x3 : Int64) (x4 : Int32) : entryFrame m #[(.ref x0), (.ref x1), .null, (.long x3), (.int x4)] 11 = mkF m 0 #[.val (.ref x0), .val (.ref x1), .val .null, .val (.long x3), .second, .val (.int x4), .unset, .unset, .unset, .unset, .unset] [] := by first | (simp [entryFrame, mkF, argsToLocals, Value.category]; done) | rfl
set_option maxRecDepth 65536 in
set_option maxHeartbeats 40000000 in
theorem rmEv010 (l : Launch) (Z : State) (a0 : Array Value) (hw : ∀ d ∈ tables_1, d.before a0 Z = true) (u : Addr) (ku : ClassId) (rc : Int64) (k : Int32) (a_DM : Addr) (a_CM : Addr) (h0 : Heap) (O0 : Old Z Z.heap.size h0) (FF : Facts Z a_DM a_CM) (Vu : Arv Z h0 u ku .int (0 : Int32) [] (.int (0 : Int32))) : Ctr l Z (⟨"com/example/unika/unika/anonymize/RecodingMetric", "evaluate", "([I[IJI)Lcom/example/unika/unika/anonymize/RecodingMetric$Evaluation;"⟩ : MethodName) prog_39_method_13_code 11 (some (.object "com/example/unika/unika/anonymize/RecodingMetric$Evaluation")) ({ frames := 3, cells := 1, slots := 2, locals := 41 } : Room) #[(.ref a_DM), (.ref u), .null, (.long rc), (.int k)] h0 (fun v h L => ∃ b : Addr, v = some (.ref b) ∧ Fr Z.heap.size L ∧ Keep h0 h [] ∧ h0.size ≤ b ∧ Exa Z h b "com/example/unika/unika/anonymize/RecodingMetric$Evaluation" ∧ Fld Z h b "com/example/unika/unika/anonymize/RecodingMetric$Evaluation" "suppressedRows" "J" (.long (0 : Int64)) ∧ Fld Z h b "com/example/unika/unika/anonymize/RecodingMetric$Evaluation" "cost" "J" (.long ((0 : Int64) + ((0 : Int64) * rc)))) := by
  refine Ctr.of (plainFor_of_name pn_1) ?_
  have wd : ∀ {d : Jvm.Cond} (i : Nat), tables_1[i]? = some d → d.before a0 Z = true := fun i q => hw _ (List.mem_of_getElem? q)
  intro p e s m below meth c s₁ hx hby hml hown hnm hret hlk hZ X0 e0
  have FF' := FF
  obtain ⟨S_DM, E_DM, S_CM, E_CM, ne_DM_CM⟩ := FF'
  refine Go.cast (ef_1_2 m a_DM u rc k) ?_
  show Go p e below _ s₁ (mkF m 0 #[.val (.ref a_DM), .val (.ref u), .val .null, .val (.long rc), .second, .val (.int k), .unset, .unset, .unset, .unset, .unset] [])
  refine Go.lconst X0 hx (hb hby d1_0) rfl (0 : Int64) rfl ?_
  refine Go.lstore X0 hx (hb hby d1_1) rfl  #[.val (.ref a_DM), .val (.ref u), .val .null, .val (.long rc), .second, .val (.int k), .val (.long (0 : Int64)), .second, .unset, .unset, .unset] rfl ?_
  refine Go.lconst X0 hx (hb hby d1_3) rfl (0 : Int64) rfl ?_
  refine Go.lstore X0 hx (hb hby d1_4) rfl  #[.val (.ref a_DM), .val (.ref u), .val .null, .val (.long rc), .second, .val (.int k), .val (.long (0 : Int64)), .second, .val (.long (0 : Int64)), .second, .unset] rfl ?_
  refine Go.iconst X0 hx (hb hby d1_6) rfl (0 : Int32) rfl ?_
  refine Go.istore X0 hx (hb hby d1_7) rfl  #[.val (.ref a_DM), .val (.ref u), .val .null, .val (.long rc), .second, .val (.int k), .val (.long (0 : Int64)), .second, .val (.long (0 : Int64)), .second, .val (.int (0 : Int32))] rfl ?_
  refine Go.iload X0 hx (hb hby d1_9) rfl rfl  ?_
  refine Go.aloadN X0 hx (hb hby d1_11) rfl rfl rfl ?_
  refine Go.alen X0 hx hZ Vu e0 (hb hby d1_12) rfl ?_
  refine Go.icmpYes X0 hx (hb hby d1_13) rfl 71 (flt (by decide : ¬ ((0 : Int32) < (0 : Int32)))).2.1 (by decide) (by decide) ?_
  refine Go.newO X0 hx hZ hown (wd 9 rfl) (wd 10 rfl) (wd 11 rfl) e0 (hb hby d1_71) rfl (Nat.le_of_ble_eq_true rfl) (Nat.le_of_ble_eq_true rfl) ?_
  intro T1 h1 b1 g1 X1 e1 E1 A1 D1
  have F2 : Fld Z h1 b1 "com/example/unika/unika/anonymize/RecodingMetric$Evaluation" "suppressedRows" "J" (.long (0 : Int64)) := D1 (Or.inr (wd 30 rfl)) (ty := .long) (by decide)
  have F3 : Fld Z h1 b1 "com/example/unika/unika/anonymize/RecodingMetric$Evaluation" "cost" "J" (.long (0 : Int64)) := D1 (Or.inr (wd 32 rfl)) (ty := .long) (by decide)
  have q1 : Z.heap.size ≤ b1 := Nat.le_trans O0.2.1 (Nat.le_of_eq g1.symm)
  have z1 : h0.size ≤ b1 := Nat.le_trans (Keep.refl h0 []).1 (Nat.le_of_eq g1.symm)
  have ne_u_b1 : u ≠ b1 := Nat.ne_of_lt (Nat.lt_of_lt_of_le Vu.lt (Nat.le_of_eq g1.symm))
  have K4 := (Keep.refl h0 []).ext E1
  have O5 := O0.ext E1
  have V6 := Vu.ext E1
  refine Go.dup X1 hx (hb hby d1_74) rfl rfl ?_
  refine Go.lload X1 hx (hb hby d1_75) rfl rfl  ?_
  refine Go.lload X1 hx (hb hby d1_77) rfl rfl  ?_
  refine Go.lload X1 hx (hb hby d1_79) rfl rfl  ?_
  refine Go.aloadN X1 hx (hb hby d1_81) rfl rfl rfl ?_
  refine Go.lloadN X1 hx (hb hby d1_82) rfl rfl  ?_
  refine Go.pureV X1 hx hZ hown (wd 12 rfl) (wd 13 rfl) (own_nf (args := #[]) (y' := (⟨"com/example/unika/unika/anonymize/RecodingMetric", "evaluate", "([I[IJI)Lcom/example/unika/unika/anonymize/RecodingMetric$Evaluation;"⟩ : MethodName)) rfl (mvT hZ (wd 7 rfl))) (wd 14 rfl) (wd 15 rfl) (wd 16 rfl) (wd 17 rfl) (by decide) [(.long rc)] [(.long (0 : Int64)), (.long (0 : Int64)), (.long (0 : Int64)), (.ref b1), (.ref b1)] (E_DM.ext O5.2) (rmV1 l Z a0 hw a_DM rc h1) e1 rfl (by rw [hml]; rfl) pd_1 rfl (hb hby d1_83) (Nat.le_of_ble_eq_true rfl) (Nat.le_of_ble_eq_true rfl) (Nat.le_of_ble_eq_true rfl) (Nat.le_of_ble_eq_true rfl) ?_
  intro T7 X7 e7
  refine Go.lmul X7 hx (hb hby d1_86) rfl ?_
  refine Go.ladd X7 hx (hb hby d1_87) rfl ?_
  refine Go.callI X7 hx hZ rfl hown (wd 18 rfl) (wd 19 rfl) (wd 11 rfl) (wd 20 rfl) (by decide) [(.long (0 : Int64)), (.long ((0 : Int64) + ((0 : Int64) * rc)))] [(.ref b1)] (rmE l Z a0 hw b1 (0 : Int64) ((0 : Int64) + ((0 : Int64) * rc)) h1 O5 A1 q1 F2 F3) e7 rfl (by rw [hml]; rfl) pd_2 rfl (hb hby d1_88) (Nat.le_of_ble_eq_true rfl) (Nat.le_of_ble_eq_true rfl) (Nat.le_of_ble_eq_true rfl) (Nat.le_of_ble_eq_true rfl) ?_
  rintro vv8 T8 L8 X8 Q8
  obtain ⟨rfl, N8, K8, E8, Fs8, Fc8⟩ := Q8
  have M9 := Fr.app (Fr.nil _) N8
  have O10 := O5.keep K8 (allS q1 (all0))
  have K11 := Keep.trans K4 K8 (allS (Or.inr z1) (all0))
  have V12 := V6.keep K8 (ninS ne_u_b1 (nin0))
  have E13 := A1.keep K8
  exact Go.retA X8 hx hret hlk rfl rfl (hb hby d1_91) rfl ⟨b1, rfl, M9, K11, z1, E8, Fs8, Fc8⟩ (Nat.le_of_ble_eq_true rfl) (Nat.le_of_ble_eq_true rfl)
set_option maxRecDepth 65536 in
set_option maxHeartbeats 40000000 in
theorem rmEv011t (l : Launch) (Z : State) (a0 : Array Value) (hw : ∀ d ∈ tables_1, d.before a0 Z = true) (u : Addr) (ku : ClassId) (s0 : Int32) (rc : Int64) (k : Int32) (a_DM : Addr) (a_CM : Addr) (h0 : Heap) (O0 : Old Z Z.heap.size h0) (FF : Facts Z a_DM a_CM) (Vu : Arv Z h0 u ku .int (1 : Int32) [(.int s0)] (.int (0 : Int32))) (t0 : s0 < k) : Ctr l Z (⟨"com/example/unika/unika/anonymize/RecodingMetric", "evaluate", "([I[IJI)Lcom/example/unika/unika/anonymize/RecodingMetric$Evaluation;"⟩ : MethodName) prog_39_method_13_code 11 (some (.object "com/example/unika/unika/anonymize/RecodingMetric$Evaluation")) ({ frames := 3, cells := 1, slots := 2, locals := 41 } : Room) #[(.ref a_DM), (.ref u), .null, (.long rc), (.int k)] h0 (fun v h L => ∃ b : Addr, v = some (.ref b) ∧ Fr Z.heap.size L ∧ Keep h0 h [] ∧ h0.size ≤ b ∧ Exa Z h b "com/example/unika/unika/anonymize/RecodingMetric$Evaluation" ∧ Fld Z h b "com/example/unika/unika/anonymize/RecodingMetric$Evaluation" "suppressedRows" "J" (.long ((0 : Int64) + ((s0).toInt64))) ∧ Fld Z h b "com/example/unika/unika/anonymize/RecodingMetric$Evaluation" "cost" "J" (.long ((0 : Int64) + (((0 : Int64) + ((s0).toInt64)) * rc)))) := by
  refine Ctr.of (plainFor_of_name pn_1) ?_
  have wd : ∀ {d : Jvm.Cond} (i : Nat), tables_1[i]? = some d → d.before a0 Z = true := fun i q => hw _ (List.mem_of_getElem? q)
  intro p e s m below meth c s₁ hx hby hml hown hnm hret hlk hZ X0 e0
  have FF' := FF
  obtain ⟨S_DM, E_DM, S_CM, E_CM, ne_DM_CM⟩ := FF'
  refine Go.cast (ef_1_2 m a_DM u rc k) ?_
  show Go p e below _ s₁ (mkF m 0 #[.val (.ref a_DM), .val (.ref u), .val .null, .val (.long rc), .second, .val (.int k), .unset, .unset, .unset, .unset, .unset] [])
  refine Go.lconst X0 hx (hb hby d1_0) rfl (0 : Int64) rfl ?_
  refine Go.lstore X0 hx (hb hby d1_1) rfl  #[.val (.ref a_DM), .val (.ref u), .val .null, .val (.long rc), .second, .val (.int k), .val (.long (0 : Int64)), .second, .unset, .unset, .unset] rfl ?_
  refine Go.lconst X0 hx (hb hby d1_3) rfl (0 : Int64) rfl ?_
  refine Go.lstore X0 hx (hb hby d1_4) rfl  #[.val (.ref a_DM), .val (.ref u), .val .null, .val (.long rc), .second, .val (.int k), .val (.long (0 : Int64)), .second, .val (.long (0 : Int64)), .second, .unset] rfl ?_
  refine Go.iconst X0 hx (hb hby d1_6) rfl (0 : Int32) rfl ?_
  refine Go.istore X0 hx (hb hby d1_7) rfl  #[.val (.ref a_DM), .val (.ref u), .val .null, .val (.long rc), .second, .val (.int k), .val (.long (0 : Int64)), .second, .val (.long (0 : Int64)), .second, .val (.int (0 : Int32))] rfl ?_
  refine Go.iload X0 hx (hb hby d1_9) rfl rfl  ?_
  refine Go.aloadN X0 hx (hb hby d1_11) rfl rfl rfl ?_
  refine Go.alen X0 hx hZ Vu e0 (hb hby d1_12) rfl ?_
  refine Go.icmpNo X0 hx (hb hby d1_13) rfl (tlt (by decide : (0 : Int32) < (1 : Int32))).2.1 ?_
  refine Go.aloadN X0 hx (hb hby d1_16) rfl rfl rfl ?_
  refine Go.iload X0 hx (hb hby d1_17) rfl rfl  ?_
  refine Go.iaload X0 hx hZ (.int s0) Vu e0  ⟨by decide, by decide⟩ rfl (hb hby d1_19) rfl ?_
  refine Go.iload X0 hx (hb hby d1_20) rfl rfl  ?_
  refine Go.icmpNo X0 hx (hb hby d1_22) rfl (tlt t0).2.1 ?_
  refine Go.lload X0 hx (hb hby d1_25) rfl rfl  ?_
  refine Go.aloadN X0 hx (hb hby d1_27) rfl rfl rfl ?_
  refine Go.iload X0 hx (hb hby d1_28) rfl rfl  ?_
  refine Go.iaload X0 hx hZ (.int s0) Vu e0  ⟨by decide, by decide⟩ rfl (hb hby d1_30) rfl ?_
  refine Go.i2l X0 hx (hb hby d1_31) rfl ?_
  refine Go.ladd X0 hx (hb hby d1_32) rfl ?_
  refine Go.lstore X0 hx (hb hby d1_33) rfl  #[.val (.ref a_DM), .val (.ref u), .val .null, .val (.long rc), .second, .val (.int k), .val (.long ((0 : Int64) + ((s0).toInt64))), .second, .val (.long (0 : Int64)), .second, .val (.int (0 : Int32))] rfl ?_
  refine Go.goto X0 hx (hb hby d1_35) rfl 65 (by decide) (by decide) ?_
  refine Go.iinc X0 hx (hb hby d1_65) rfl rfl #[.val (.ref a_DM), .val (.ref u), .val .null, .val (.long rc), .second, .val (.int k), .val (.long ((0 : Int64) + ((s0).toInt64))), .second, .val (.long (0 : Int64)), .second, .val (.int ((0 : Int32) + (1 : Int32)))] rfl ?_
  show Go p e below _ s₁ (mkF m 68 #[.val (.ref a_DM), .val (.ref u), .val .null, .val (.long rc), .second, .val (.int k), .val (.long ((0 : Int64) + ((s0).toInt64))), .second, .val (.long (0 : Int64)), .second, .val (.int ((0 : Int32) + (1 : Int32)))] [])
  rw [show ((0 : Int32) + (1 : Int32)) = (1 : Int32) from by decide]
  show Go p e below _ s₁ (mkF m 68 #[.val (.ref a_DM), .val (.ref u), .val .null, .val (.long rc), .second, .val (.int k), .val (.long ((0 : Int64) + ((s0).toInt64))), .second, .val (.long (0 : Int64)), .second, .val (.int (1 : Int32))] [])
  refine Go.goto X0 hx (hb hby d1_68) rfl 9 (by decide) (by decide) ?_
  refine Go.iload X0 hx (hb hby d1_9) rfl rfl  ?_
  refine Go.aloadN X0 hx (hb hby d1_11) rfl rfl rfl ?_
  refine Go.alen X0 hx hZ Vu e0 (hb hby d1_12) rfl ?_
  refine Go.icmpYes X0 hx (hb hby d1_13) rfl 71 (flt (by decide : ¬ ((1 : Int32) < (1 : Int32)))).2.1 (by decide) (by decide) ?_
  refine Go.newO X0 hx hZ hown (wd 9 rfl) (wd 10 rfl) (wd 11 rfl) e0 (hb hby d1_71) rfl (Nat.le_of_ble_eq_true rfl) (Nat.le_of_ble_eq_true rfl) ?_
  intro T1 h1 b1 g1 X1 e1 E1 A1 D1
  have F2 : Fld Z h1 b1 "com/example/unika/unika/anonymize/RecodingMetric$Evaluation" "suppressedRows" "J" (.long (0 : Int64)) := D1 (Or.inr (wd 30 rfl)) (ty := .long) (by decide)
  have F3 : Fld Z h1 b1 "com/example/unika/unika/anonymize/RecodingMetric$Evaluation" "cost" "J" (.long (0 : Int64)) := D1 (Or.inr (wd 32 rfl)) (ty := .long) (by decide)
  have q1 : Z.heap.size ≤ b1 := Nat.le_trans O0.2.1 (Nat.le_of_eq g1.symm)
  have z1 : h0.size ≤ b1 := Nat.le_trans (Keep.refl h0 []).1 (Nat.le_of_eq g1.symm)
  have ne_u_b1 : u ≠ b1 := Nat.ne_of_lt (Nat.lt_of_lt_of_le Vu.lt (Nat.le_of_eq g1.symm))
  have K4 := (Keep.refl h0 []).ext E1
  have O5 := O0.ext E1
  have V6 := Vu.ext E1
  refine Go.dup X1 hx (hb hby d1_74) rfl rfl ?_
  refine Go.lload X1 hx (hb hby d1_75) rfl rfl  ?_
  refine Go.lload X1 hx (hb hby d1_77) rfl rfl  ?_
  refine Go.lload X1 hx (hb hby d1_79) rfl rfl  ?_
  refine Go.aloadN X1 hx (hb hby d1_81) rfl rfl rfl ?_
  refine Go.lloadN X1 hx (hb hby d1_82) rfl rfl  ?_
  refine Go.pureV X1 hx hZ hown (wd 12 rfl) (wd 13 rfl) (own_nf (args := #[]) (y' := (⟨"com/example/unika/unika/anonymize/RecodingMetric", "evaluate", "([I[IJI)Lcom/example/unika/unika/anonymize/RecodingMetric$Evaluation;"⟩ : MethodName)) rfl (mvT hZ (wd 7 rfl))) (wd 14 rfl) (wd 15 rfl) (wd 16 rfl) (wd 17 rfl) (by decide) [(.long rc)] [(.long ((0 : Int64) + ((s0).toInt64))), (.long (0 : Int64)), (.long ((0 : Int64) + ((s0).toInt64))), (.ref b1), (.ref b1)] (E_DM.ext O5.2) (rmV1 l Z a0 hw a_DM rc h1) e1 rfl (by rw [hml]; rfl) pd_1 rfl (hb hby d1_83) (Nat.le_of_ble_eq_true rfl) (Nat.le_of_ble_eq_true rfl) (Nat.le_of_ble_eq_true rfl) (Nat.le_of_ble_eq_true rfl) ?_
  intro T7 X7 e7
  refine Go.lmul X7 hx (hb hby d1_86) rfl ?_
  refine Go.ladd X7 hx (hb hby d1_87) rfl ?_
  refine Go.callI X7 hx hZ rfl hown (wd 18 rfl) (wd 19 rfl) (wd 11 rfl) (wd 20 rfl) (by decide) [(.long ((0 : Int64) + ((s0).toInt64))), (.long ((0 : Int64) + (((0 : Int64) + ((s0).toInt64)) * rc)))] [(.ref b1)] (rmE l Z a0 hw b1 ((0 : Int64) + ((s0).toInt64)) ((0 : Int64) + (((0 : Int64) + ((s0).toInt64)) * rc)) h1 O5 A1 q1 F2 F3) e7 rfl (by rw [hml]; rfl) pd_2 rfl (hb hby d1_88) (Nat.le_of_ble_eq_true rfl) (Nat.le_of_ble_eq_true rfl) (Nat.le_of_ble_eq_true rfl) (Nat.le_of_ble_eq_true rfl) ?_
  rintro vv8 T8 L8 X8 Q8
  obtain ⟨rfl, N8, K8, E8, Fs8, Fc8⟩ := Q8
  have M9 := Fr.app (Fr.nil _) N8
  have O10 := O5.keep K8 (allS q1 (all0))
  have K11 := Keep.trans K4 K8 (allS (Or.inr z1) (all0))
  have V12 := V6.keep K8 (ninS ne_u_b1 (nin0))
  have E13 := A1.keep K8
  exact Go.retA X8 hx hret hlk rfl rfl (hb hby d1_91) rfl ⟨b1, rfl, M9, K11, z1, E8, Fs8, Fc8⟩ (Nat.le_of_ble_eq_true rfl) (Nat.le_of_ble_eq_true rfl)
set_option maxRecDepth 65536 in
set_option maxHeartbeats 40000000 in
theorem rmEv011f (l : Launch) (Z : State) (a0 : Array Value) (hw : ∀ d ∈ tables_1, d.before a0 Z = true) (u : Addr) (ku : ClassId) (s0 : Int32) (rc : Int64) (k : Int32) (a_DM : Addr) (a_CM : Addr) (h0 : Heap) (O0 : Old Z Z.heap.size h0) (FF : Facts Z a_DM a_CM) (Vu : Arv Z h0 u ku .int (1 : Int32) [(.int s0)] (.int (0 : Int32))) (t0 : ¬ s0 < k) : Ctr l Z (⟨"com/example/unika/unika/anonymize/RecodingMetric", "evaluate", "([I[IJI)Lcom/example/unika/unika/anonymize/RecodingMetric$Evaluation;"⟩ : MethodName) prog_39_method_13_code 11 (some (.object "com/example/unika/unika/anonymize/RecodingMetric$Evaluation")) ({ frames := 3, cells := 1, slots := 2, locals := 41 } : Room) #[(.ref a_DM), (.ref u), .null, (.long rc), (.int k)] h0 (fun v h L => ∃ b : Addr, v = some (.ref b) ∧ Fr Z.heap.size L ∧ Keep h0 h [] ∧ h0.size ≤ b ∧ Exa Z h b "com/example/unika/unika/anonymize/RecodingMetric$Evaluation" ∧ Fld Z h b "com/example/unika/unika/anonymize/RecodingMetric$Evaluation" "suppressedRows" "J" (.long (0 : Int64)) ∧ Fld Z h b "com/example/unika/unika/anonymize/RecodingMetric$Evaluation" "cost" "J" (.long (((0 : Int64) + (((s0).toInt64) * ((s0).toInt64))) + ((0 : Int64) * rc)))) := by
  refine Ctr.of (plainFor_of_name pn_1) ?_
  have wd : ∀ {d : Jvm.Cond} (i : Nat), tables_1[i]? = some d → d.before a0 Z = true := fun i q => hw _ (List.mem_of_getElem? q)
  intro p e s m below meth c s₁ hx hby hml hown hnm hret hlk hZ X0 e0
  have FF' := FF
  obtain ⟨S_DM, E_DM, S_CM, E_CM, ne_DM_CM⟩ := FF'
  refine Go.cast (ef_1_2 m a_DM u rc k) ?_
  show Go p e below _ s₁ (mkF m 0 #[.val (.ref a_DM), .val (.ref u), .val .null, .val (.long rc), .second, .val (.int k), .unset, .unset, .unset, .unset, .unset] [])
  refine Go.lconst X0 hx (hb hby d1_0) rfl (0 : Int64) rfl ?_
  refine Go.lstore X0 hx (hb hby d1_1) rfl  #[.val (.ref a_DM), .val (.ref u), .val .null, .val (.long rc), .second, .val (.int k), .val (.long (0 : Int64)), .second, .unset, .unset, .unset] rfl ?_
  refine Go.lconst X0 hx (hb hby d1_3) rfl (0 : Int64) rfl ?_
  refine Go.lstore X0 hx (hb hby d1_4) rfl  #[.val (.ref a_DM), .val (.ref u), .val .null, .val (.long rc), .second, .val (.int k), .val (.long (0 : Int64)), .second, .val (.long (0 : Int64)), .second, .unset] rfl ?_
  refine Go.iconst X0 hx (hb hby d1_6) rfl (0 : Int32) rfl ?_
  refine Go.istore X0 hx (hb hby d1_7) rfl  #[.val (.ref a_DM), .val (.ref u), .val .null, .val (.long rc), .second, .val (.int k), .val (.long (0 : Int64)), .second, .val (.long (0 : Int64)), .second, .val (.int (0 : Int32))] rfl ?_
  refine Go.iload X0 hx (hb hby d1_9) rfl rfl  ?_
  refine Go.aloadN X0 hx (hb hby d1_11) rfl rfl rfl ?_
  refine Go.alen X0 hx hZ Vu e0 (hb hby d1_12) rfl ?_
  refine Go.icmpNo X0 hx (hb hby d1_13) rfl (tlt (by decide : (0 : Int32) < (1 : Int32))).2.1 ?_
  refine Go.aloadN X0 hx (hb hby d1_16) rfl rfl rfl ?_
  refine Go.iload X0 hx (hb hby d1_17) rfl rfl  ?_
  refine Go.iaload X0 hx hZ (.int s0) Vu e0  ⟨by decide, by decide⟩ rfl (hb hby d1_19) rfl ?_
  refine Go.iload X0 hx (hb hby d1_20) rfl rfl  ?_
  refine Go.icmpYes X0 hx (hb hby d1_22) rfl 38 (flt t0).2.1 (by decide) (by decide) ?_
  refine Go.lload X0 hx (hb hby d1_38) rfl rfl  ?_
  refine Go.aloadN X0 hx (hb hby d1_40) rfl rfl rfl ?_
  refine Go.aloadN X0 hx (hb hby d1_41) rfl rfl rfl ?_
  refine Go.iload X0 hx (hb hby d1_42) rfl rfl  ?_
  refine Go.iaload X0 hx hZ (.int s0) Vu e0  ⟨by decide, by decide⟩ rfl (hb hby d1_44) rfl ?_
  refine Go.i2l X0 hx (hb hby d1_45) rfl ?_
  refine Go.aloadN X0 hx (hb hby d1_46) rfl rfl rfl ?_
  refine Go.ifnonnullNo X0 hx (hb hby d1_47) rfl ?_
  refine Go.lconst X0 hx (hb hby d1_50) rfl (0 : Int64) rfl ?_
  refine Go.goto X0 hx (hb hby d1_51) rfl 59 (by decide) (by decide) ?_
  refine Go.pureV X0 hx hZ hown (wd 47 rfl) (wd 48 rfl) (own_nf (args := #[]) (y' := (⟨"com/example/unika/unika/anonymize/RecodingMetric", "evaluate", "([I[IJI)Lcom/example/unika/unika/anonymize/RecodingMetric$Evaluation;"⟩ : MethodName)) rfl (mvT hZ (wd 7 rfl))) (wd 49 rfl) (wd 50 rfl) (wd 16 rfl) (wd 51 rfl) (by decide) [(.long ((s0).toInt64)), (.long (0 : Int64))] [(.long (0 : Int64))] (E_DM.ext O0.2) (rmK1 l Z a0 hw a_DM ((s0).toInt64) (0 : Int64) h0) e0 rfl (by rw [hml]; rfl) pd_6 rfl (hb hby d1_59) (Nat.le_of_ble_eq_true rfl) (Nat.le_of_ble_eq_true rfl) (Nat.le_of_ble_eq_true rfl) (Nat.le_of_ble_eq_true rfl) ?_
  intro T1 X1 e1
  refine Go.ladd X1 hx (hb hby d1_62) rfl ?_
  refine Go.lstore X1 hx (hb hby d1_63) rfl  #[.val (.ref a_DM), .val (.ref u), .val .null, .val (.long rc), .second, .val (.int k), .val (.long (0 : Int64)), .second, .val (.long ((0 : Int64) + (((s0).toInt64) * ((s0).toInt64)))), .second, .val (.int (0 : Int32))] rfl ?_
  refine Go.iinc X1 hx (hb hby d1_65) rfl rfl #[.val (.ref a_DM), .val (.ref u), .val .null, .val (.long rc), .second, .val (.int k), .val (.long (0 : Int64)), .second, .val (.long ((0 : Int64) + (((s0).toInt64) * ((s0).toInt64)))), .second, .val (.int ((0 : Int32) + (1 : Int32)))] rfl ?_
  show Go p e below _ T1 (mkF m 68 #[.val (.ref a_DM), .val (.ref u), .val .null, .val (.long rc), .second, .val (.int k), .val (.long (0 : Int64)), .second, .val (.long ((0 : Int64) + (((s0).toInt64) * ((s0).toInt64)))), .second, .val (.int ((0 : Int32) + (1 : Int32)))] [])
  rw [show ((0 : Int32) + (1 : Int32)) = (1 : Int32) from by decide]
  show Go p e below _ T1 (mkF m 68 #[.val (.ref a_DM), .val (.ref u), .val .null, .val (.long rc), .second, .val (.int k), .val (.long (0 : Int64)), .second, .val (.long ((0 : Int64) + (((s0).toInt64) * ((s0).toInt64)))), .second, .val (.int (1 : Int32))] [])
  refine Go.goto X1 hx (hb hby d1_68) rfl 9 (by decide) (by decide) ?_
  refine Go.iload X1 hx (hb hby d1_9) rfl rfl  ?_
  refine Go.aloadN X1 hx (hb hby d1_11) rfl rfl rfl ?_
  refine Go.alen X1 hx hZ Vu e1 (hb hby d1_12) rfl ?_
  refine Go.icmpYes X1 hx (hb hby d1_13) rfl 71 (flt (by decide : ¬ ((1 : Int32) < (1 : Int32)))).2.1 (by decide) (by decide) ?_
  refine Go.newO X1 hx hZ hown (wd 9 rfl) (wd 10 rfl) (wd 11 rfl) e1 (hb hby d1_71) rfl (Nat.le_of_ble_eq_true rfl) (Nat.le_of_ble_eq_true rfl) ?_
  intro T2 h2 b2 g2 X2 e2 E2 A2 D2
  have F3 : Fld Z h2 b2 "com/example/unika/unika/anonymize/RecodingMetric$Evaluation" "suppressedRows" "J" (.long (0 : Int64)) := D2 (Or.inr (wd 30 rfl)) (ty := .long) (by decide)
  have F4 : Fld Z h2 b2 "com/example/unika/unika/anonymize/RecodingMetric$Evaluation" "cost" "J" (.long (0 : Int64)) := D2 (Or.inr (wd 32 rfl)) (ty := .long) (by decide)
  have q2 : Z.heap.size ≤ b2 := Nat.le_trans O0.2.1 (Nat.le_of_eq g2.symm)
  have z2 : h0.size ≤ b2 := Nat.le_trans (Keep.refl h0 []).1 (Nat.le_of_eq g2.symm)
  have ne_u_b2 : u ≠ b2 := Nat.ne_of_lt (Nat.lt_of_lt_of_le Vu.lt (Nat.le_of_eq g2.symm))
  have K5 := (Keep.refl h0 []).ext E2
  have O6 := O0.ext E2
  have V7 := Vu.ext E2
  refine Go.dup X2 hx (hb hby d1_74) rfl rfl ?_
  refine Go.lload X2 hx (hb hby d1_75) rfl rfl  ?_
  refine Go.lload X2 hx (hb hby d1_77) rfl rfl  ?_
  refine Go.lload X2 hx (hb hby d1_79) rfl rfl  ?_
  refine Go.aloadN X2 hx (hb hby d1_81) rfl rfl rfl ?_
  refine Go.lloadN X2 hx (hb hby d1_82) rfl rfl  ?_
  refine Go.pureV X2 hx hZ hown (wd 12 rfl) (wd 13 rfl) (own_nf (args := #[]) (y' := (⟨"com/example/unika/unika/anonymize/RecodingMetric", "evaluate", "([I[IJI)Lcom/example/unika/unika/anonymize/RecodingMetric$Evaluation;"⟩ : MethodName)) rfl (mvT hZ (wd 7 rfl))) (wd 14 rfl) (wd 15 rfl) (wd 16 rfl) (wd 17 rfl) (by decide) [(.long rc)] [(.long (0 : Int64)), (.long ((0 : Int64) + (((s0).toInt64) * ((s0).toInt64)))), (.long (0 : Int64)), (.ref b2), (.ref b2)] (E_DM.ext O6.2) (rmV1 l Z a0 hw a_DM rc h2) e2 rfl (by rw [hml]; rfl) pd_1 rfl (hb hby d1_83) (Nat.le_of_ble_eq_true rfl) (Nat.le_of_ble_eq_true rfl) (Nat.le_of_ble_eq_true rfl) (Nat.le_of_ble_eq_true rfl) ?_
  intro T8 X8 e8
  refine Go.lmul X8 hx (hb hby d1_86) rfl ?_
  refine Go.ladd X8 hx (hb hby d1_87) rfl ?_
  refine Go.callI X8 hx hZ rfl hown (wd 18 rfl) (wd 19 rfl) (wd 11 rfl) (wd 20 rfl) (by decide) [(.long (0 : Int64)), (.long (((0 : Int64) + (((s0).toInt64) * ((s0).toInt64))) + ((0 : Int64) * rc)))] [(.ref b2)] (rmE l Z a0 hw b2 (0 : Int64) (((0 : Int64) + (((s0).toInt64) * ((s0).toInt64))) + ((0 : Int64) * rc)) h2 O6 A2 q2 F3 F4) e8 rfl (by rw [hml]; rfl) pd_2 rfl (hb hby d1_88) (Nat.le_of_ble_eq_true rfl) (Nat.le_of_ble_eq_true rfl) (Nat.le_of_ble_eq_true rfl) (Nat.le_of_ble_eq_true rfl) ?_
  rintro vv9 T9 L9 X9 Q9
  obtain ⟨rfl, N9, K9, E9, Fs9, Fc9⟩ := Q9
  have M10 := Fr.app (Fr.nil _) N9
  have O11 := O6.keep K9 (allS q2 (all0))
  have K12 := Keep.trans K5 K9 (allS (Or.inr z2) (all0))
  have V13 := V7.keep K9 (ninS ne_u_b2 (nin0))
  have E14 := A2.keep K9
  exact Go.retA X9 hx hret hlk rfl rfl (hb hby d1_91) rfl ⟨b2, rfl, M10, K12, z2, E9, Fs9, Fc9⟩ (Nat.le_of_ble_eq_true rfl) (Nat.le_of_ble_eq_true rfl)
set_option maxRecDepth 65536 in
set_option maxHeartbeats 40000000 in
theorem rmEv012tt (l : Launch) (Z : State) (a0 : Array Value) (hw : ∀ d ∈ tables_1, d.before a0 Z = true) (u : Addr) (ku : ClassId) (s0 s1 : Int32) (rc : Int64) (k : Int32) (a_DM : Addr) (a_CM : Addr) (h0 : Heap) (O0 : Old Z Z.heap.size h0) (FF : Facts Z a_DM a_CM) (Vu : Arv Z h0 u ku .int (2 : Int32) [(.int s0), (.int s1)] (.int (0 : Int32))) (t0 : s0 < k) (t1 : s1 < k) : Ctr l Z (⟨"com/example/unika/unika/anonymize/RecodingMetric", "evaluate", "([I[IJI)Lcom/example/unika/unika/anonymize/RecodingMetric$Evaluation;"⟩ : MethodName) prog_39_method_13_code 11 (some (.object "com/example/unika/unika/anonymize/RecodingMetric$Evaluation")) ({ frames := 3, cells := 1, slots := 2, locals := 41 } : Room) #[(.ref a_DM), (.ref u), .null, (.long rc), (.int k)] h0 (fun v h L => ∃ b : Addr, v = some (.ref b) ∧ Fr Z.heap.size L ∧ Keep h0 h [] ∧ h0.size ≤ b ∧ Exa Z h b "com/example/unika/unika/anonymize/RecodingMetric$Evaluation" ∧ Fld Z h b "com/example/unika/unika/anonymize/RecodingMetric$Evaluation" "suppressedRows" "J" (.long (((0 : Int64) + ((s0).toInt64)) + ((s1).toInt64))) ∧ Fld Z h b "com/example/unika/unika/anonymize/RecodingMetric$Evaluation" "cost" "J" (.long ((0 : Int64) + ((((0 : Int64) + ((s0).toInt64)) + ((s1).toInt64)) * rc)))) := by
  refine Ctr.of (plainFor_of_name pn_1) ?_
  have wd : ∀ {d : Jvm.Cond} (i : Nat), tables_1[i]? = some d → d.before a0 Z = true := fun i q => hw _ (List.mem_of_getElem? q)
  intro p e s m below meth c s₁ hx hby hml hown hnm hret hlk hZ X0 e0
  have FF' := FF
  obtain ⟨S_DM, E_DM, S_CM, E_CM, ne_DM_CM⟩ := FF'
  refine Go.cast (ef_1_2 m a_DM u rc k) ?_
  show Go p e below _ s₁ (mkF m 0 #[.val (.ref a_DM), .val (.ref u), .val .null, .val (.long rc), .second, .val (.int k), .unset, .unset, .unset, .unset, .unset] [])
  refine Go.lconst X0 hx (hb hby d1_0) rfl (0 : Int64) rfl ?_
  refine Go.lstore X0 hx (hb hby d1_1) rfl  #[.val (.ref a_DM), .val (.ref u), .val .null, .val (.long rc), .second, .val (.int k), .val (.long (0 : Int64)), .second, .unset, .unset, .unset] rfl ?_
  refine Go.lconst X0 hx (hb hby d1_3) rfl (0 : Int64) rfl ?_
  refine Go.lstore X0 hx (hb hby d1_4) rfl  #[.val (.ref a_DM), .val (.ref u), .val .null, .val (.long rc), .second, .val (.int k), .val (.long (0 : Int64)), .second, .val (.long (0 : Int64)), .second, .unset] rfl ?_
  refine Go.iconst X0 hx (hb hby d1_6) rfl (0 : Int32) rfl ?_
  refine Go.istore X0 hx (hb hby d1_7) rfl  #[.val (.ref a_DM), .val (.ref u), .val .null, .val (.long rc), .second, .val (.int k), .val (.long (0 : Int64)), .second, .val (.long (0 : Int64)), .second, .val (.int (0 : Int32))] rfl ?_
  refine Go.iload X0 hx (hb hby d1_9) rfl rfl  ?_
  refine Go.aloadN X0 hx (hb hby d1_11) rfl rfl rfl ?_
  refine Go.alen X0 hx hZ Vu e0 (hb hby d1_12) rfl ?_
  refine Go.icmpNo X0 hx (hb hby d1_13) rfl (tlt (by decide : (0 : Int32) < (2 : Int32))).2.1 ?_
  refine Go.aloadN X0 hx (hb hby d1_16) rfl rfl rfl ?_
  refine Go.iload X0 hx (hb hby d1_17) rfl rfl  ?_
  refine Go.iaload X0 hx hZ (.int s0) Vu e0  ⟨by decide, by decide⟩ rfl (hb hby d1_19) rfl ?_
  refine Go.iload X0 hx (hb hby d1_20) rfl rfl  ?_
  refine Go.icmpNo X0 hx (hb hby d1_22) rfl (tlt t0).2.1 ?_
  refine Go.lload X0 hx (hb hby d1_25) rfl rfl  ?_
  refine Go.aloadN X0 hx (hb hby d1_27) rfl rfl rfl ?_
  refine Go.iload X0 hx (hb hby d1_28) rfl rfl  ?_
  refine Go.iaload X0 hx hZ (.int s0) Vu e0  ⟨by decide, by decide⟩ rfl (hb hby d1_30) rfl ?_
  refine Go.i2l X0 hx (hb hby d1_31) rfl ?_
  refine Go.ladd X0 hx (hb hby d1_32) rfl ?_
  refine Go.lstore X0 hx (hb hby d1_33) rfl  #[.val (.ref a_DM), .val (.ref u), .val .null, .val (.long rc), .second, .val (.int k), .val (.long ((0 : Int64) + ((s0).toInt64))), .second, .val (.long (0 : Int64)), .second, .val (.int (0 : Int32))] rfl ?_
  refine Go.goto X0 hx (hb hby d1_35) rfl 65 (by decide) (by decide) ?_
  refine Go.iinc X0 hx (hb hby d1_65) rfl rfl #[.val (.ref a_DM), .val (.ref u), .val .null, .val (.long rc), .second, .val (.int k), .val (.long ((0 : Int64) + ((s0).toInt64))), .second, .val (.long (0 : Int64)), .second, .val (.int ((0 : Int32) + (1 : Int32)))] rfl ?_
  show Go p e below _ s₁ (mkF m 68 #[.val (.ref a_DM), .val (.ref u), .val .null, .val (.long rc), .second, .val (.int k), .val (.long ((0 : Int64) + ((s0).toInt64))), .second, .val (.long (0 : Int64)), .second, .val (.int ((0 : Int32) + (1 : Int32)))] [])
  rw [show ((0 : Int32) + (1 : Int32)) = (1 : Int32) from by decide]
  show Go p e below _ s₁ (mkF m 68 #[.val (.ref a_DM), .val (.ref u), .val .null, .val (.long rc), .second, .val (.int k), .val (.long ((0 : Int64) + ((s0).toInt64))), .second, .val (.long (0 : Int64)), .second, .val (.int (1 : Int32))] [])
  refine Go.goto X0 hx (hb hby d1_68) rfl 9 (by decide) (by decide) ?_
  refine Go.iload X0 hx (hb hby d1_9) rfl rfl  ?_
  refine Go.aloadN X0 hx (hb hby d1_11) rfl rfl rfl ?_
  refine Go.alen X0 hx hZ Vu e0 (hb hby d1_12) rfl ?_
  refine Go.icmpNo X0 hx (hb hby d1_13) rfl (tlt (by decide : (1 : Int32) < (2 : Int32))).2.1 ?_
  refine Go.aloadN X0 hx (hb hby d1_16) rfl rfl rfl ?_
  refine Go.iload X0 hx (hb hby d1_17) rfl rfl  ?_
  refine Go.iaload X0 hx hZ (.int s1) Vu e0  ⟨by decide, by decide⟩ rfl (hb hby d1_19) rfl ?_
  refine Go.iload X0 hx (hb hby d1_20) rfl rfl  ?_
  refine Go.icmpNo X0 hx (hb hby d1_22) rfl (tlt t1).2.1 ?_
  refine Go.lload X0 hx (hb hby d1_25) rfl rfl  ?_
  refine Go.aloadN X0 hx (hb hby d1_27) rfl rfl rfl ?_
  refine Go.iload X0 hx (hb hby d1_28) rfl rfl  ?_
  refine Go.iaload X0 hx hZ (.int s1) Vu e0  ⟨by decide, by decide⟩ rfl (hb hby d1_30) rfl ?_
  refine Go.i2l X0 hx (hb hby d1_31) rfl ?_
  refine Go.ladd X0 hx (hb hby d1_32) rfl ?_
  refine Go.lstore X0 hx (hb hby d1_33) rfl  #[.val (.ref a_DM), .val (.ref u), .val .null, .val (.long rc), .second, .val (.int k), .val (.long (((0 : Int64) + ((s0).toInt64)) + ((s1).toInt64))), .second, .val (.long (0 : Int64)), .second, .val (.int (1 : Int32))] rfl ?_
  refine Go.goto X0 hx (hb hby d1_35) rfl 65 (by decide) (by decide) ?_
  refine Go.iinc X0 hx (hb hby d1_65) rfl rfl #[.val (.ref a_DM), .val (.ref u), .val .null, .val (.long rc), .second, .val (.int k), .val (.long (((0 : Int64) + ((s0).toInt64)) + ((s1).toInt64))), .second, .val (.long (0 : Int64)), .second, .val (.int ((1 : Int32) + (1 : Int32)))] rfl ?_
  show Go p e below _ s₁ (mkF m 68 #[.val (.ref a_DM), .val (.ref u), .val .null, .val (.long rc), .second, .val (.int k), .val (.long (((0 : Int64) + ((s0).toInt64)) + ((s1).toInt64))), .second, .val (.long (0 : Int64)), .second, .val (.int ((1 : Int32) + (1 : Int32)))] [])
  rw [show ((1 : Int32) + (1 : Int32)) = (2 : Int32) from by decide]
  show Go p e below _ s₁ (mkF m 68 #[.val (.ref a_DM), .val (.ref u), .val .null, .val (.long rc), .second, .val (.int k), .val (.long (((0 : Int64) + ((s0).toInt64)) + ((s1).toInt64))), .second, .val (.long (0 : Int64)), .second, .val (.int (2 : Int32))] [])
  refine Go.goto X0 hx (hb hby d1_68) rfl 9 (by decide) (by decide) ?_
  refine Go.iload X0 hx (hb hby d1_9) rfl rfl  ?_
  refine Go.aloadN X0 hx (hb hby d1_11) rfl rfl rfl ?_
  refine Go.alen X0 hx hZ Vu e0 (hb hby d1_12) rfl ?_
  refine Go.icmpYes X0 hx (hb hby d1_13) rfl 71 (flt (by decide : ¬ ((2 : Int32) < (2 : Int32)))).2.1 (by decide) (by decide) ?_
  refine Go.newO X0 hx hZ hown (wd 9 rfl) (wd 10 rfl) (wd 11 rfl) e0 (hb hby d1_71) rfl (Nat.le_of_ble_eq_true rfl) (Nat.le_of_ble_eq_true rfl) ?_
  intro T1 h1 b1 g1 X1 e1 E1 A1 D1
  have F2 : Fld Z h1 b1 "com/example/unika/unika/anonymize/RecodingMetric$Evaluation" "suppressedRows" "J" (.long (0 : Int64)) := D1 (Or.inr (wd 30 rfl)) (ty := .long) (by decide)
  have F3 : Fld Z h1 b1 "com/example/unika/unika/anonymize/RecodingMetric$Evaluation" "cost" "J" (.long (0 : Int64)) := D1 (Or.inr (wd 32 rfl)) (ty := .long) (by decide)
  have q1 : Z.heap.size ≤ b1 := Nat.le_trans O0.2.1 (Nat.le_of_eq g1.symm)
  have z1 : h0.size ≤ b1 := Nat.le_trans (Keep.refl h0 []).1 (Nat.le_of_eq g1.symm)
  have ne_u_b1 : u ≠ b1 := Nat.ne_of_lt (Nat.lt_of_lt_of_le Vu.lt (Nat.le_of_eq g1.symm))
  have K4 := (Keep.refl h0 []).ext E1
  have O5 := O0.ext E1
  have V6 := Vu.ext E1
  refine Go.dup X1 hx (hb hby d1_74) rfl rfl ?_
  refine Go.lload X1 hx (hb hby d1_75) rfl rfl  ?_
  refine Go.lload X1 hx (hb hby d1_77) rfl rfl  ?_
  refine Go.lload X1 hx (hb hby d1_79) rfl rfl  ?_
  refine Go.aloadN X1 hx (hb hby d1_81) rfl rfl rfl ?_
  refine Go.lloadN X1 hx (hb hby d1_82) rfl rfl  ?_
  refine Go.pureV X1 hx hZ hown (wd 12 rfl) (wd 13 rfl) (own_nf (args := #[]) (y' := (⟨"com/example/unika/unika/anonymize/RecodingMetric", "evaluate", "([I[IJI)Lcom/example/unika/unika/anonymize/RecodingMetric$Evaluation;"⟩ : MethodName)) rfl (mvT hZ (wd 7 rfl))) (wd 14 rfl) (wd 15 rfl) (wd 16 rfl) (wd 17 rfl) (by decide) [(.long rc)] [(.long (((0 : Int64) + ((s0).toInt64)) + ((s1).toInt64))), (.long (0 : Int64)), (.long (((0 : Int64) + ((s0).toInt64)) + ((s1).toInt64))), (.ref b1), (.ref b1)] (E_DM.ext O5.2) (rmV1 l Z a0 hw a_DM rc h1) e1 rfl (by rw [hml]; rfl) pd_1 rfl (hb hby d1_83) (Nat.le_of_ble_eq_true rfl) (Nat.le_of_ble_eq_true rfl) (Nat.le_of_ble_eq_true rfl) (Nat.le_of_ble_eq_true rfl) ?_
  intro T7 X7 e7
  refine Go.lmul X7 hx (hb hby d1_86) rfl ?_
  refine Go.ladd X7 hx (hb hby d1_87) rfl ?_
  refine Go.callI X7 hx hZ rfl hown (wd 18 rfl) (wd 19 rfl) (wd 11 rfl) (wd 20 rfl) (by decide) [(.long (((0 : Int64) + ((s0).toInt64)) + ((s1).toInt64))), (.long ((0 : Int64) + ((((0 : Int64) + ((s0).toInt64)) + ((s1).toInt64)) * rc)))] [(.ref b1)] (rmE l Z a0 hw b1 (((0 : Int64) + ((s0).toInt64)) + ((s1).toInt64)) ((0 : Int64) + ((((0 : Int64) + ((s0).toInt64)) + ((s1).toInt64)) * rc)) h1 O5 A1 q1 F2 F3) e7 rfl (by rw [hml]; rfl) pd_2 rfl (hb hby d1_88) (Nat.le_of_ble_eq_true rfl) (Nat.le_of_ble_eq_true rfl) (Nat.le_of_ble_eq_true rfl) (Nat.le_of_ble_eq_true rfl) ?_
  rintro vv8 T8 L8 X8 Q8
  obtain ⟨rfl, N8, K8, E8, Fs8, Fc8⟩ := Q8
  have M9 := Fr.app (Fr.nil _) N8
  have O10 := O5.keep K8 (allS q1 (all0))
  have K11 := Keep.trans K4 K8 (allS (Or.inr z1) (all0))
  have V12 := V6.keep K8 (ninS ne_u_b1 (nin0))
  have E13 := A1.keep K8
  exact Go.retA X8 hx hret hlk rfl rfl (hb hby d1_91) rfl ⟨b1, rfl, M9, K11, z1, E8, Fs8, Fc8⟩ (Nat.le_of_ble_eq_true rfl) (Nat.le_of_ble_eq_true rfl)
set_option maxRecDepth 65536 in
set_option maxHeartbeats 40000000 in
theorem rmEv012tf (l : Launch) (Z : State) (a0 : Array Value) (hw : ∀ d ∈ tables_1, d.before a0 Z = true) (u : Addr) (ku : ClassId) (s0 s1 : Int32) (rc : Int64) (k : Int32) (a_DM : Addr) (a_CM : Addr) (h0 : Heap) (O0 : Old Z Z.heap.size h0) (FF : Facts Z a_DM a_CM) (Vu : Arv Z h0 u ku .int (2 : Int32) [(.int s0), (.int s1)] (.int (0 : Int32))) (t0 : s0 < k) (t1 : ¬ s1 < k) : Ctr l Z (⟨"com/example/unika/unika/anonymize/RecodingMetric", "evaluate", "([I[IJI)Lcom/example/unika/unika/anonymize/RecodingMetric$Evaluation;"⟩ : MethodName) prog_39_method_13_code 11 (some (.object "com/example/unika/unika/anonymize/RecodingMetric$Evaluation")) ({ frames := 3, cells := 1, slots := 2, locals := 41 } : Room) #[(.ref a_DM), (.ref u), .null, (.long rc), (.int k)] h0 (fun v h L => ∃ b : Addr, v = some (.ref b) ∧ Fr Z.heap.size L ∧ Keep h0 h [] ∧ h0.size ≤ b ∧ Exa Z h b "com/example/unika/unika/anonymize/RecodingMetric$Evaluation" ∧ Fld Z h b "com/example/unika/unika/anonymize/RecodingMetric$Evaluation" "suppressedRows" "J" (.long ((0 : Int64) + ((s0).toInt64))) ∧ Fld Z h b "com/example/unika/unika/anonymize/RecodingMetric$Evaluation" "cost" "J" (.long (((0 : Int64) + (((s1).toInt64) * ((s1).toInt64))) + (((0 : Int64) + ((s0).toInt64)) * rc)))) := by
  refine Ctr.of (plainFor_of_name pn_1) ?_
  have wd : ∀ {d : Jvm.Cond} (i : Nat), tables_1[i]? = some d → d.before a0 Z = true := fun i q => hw _ (List.mem_of_getElem? q)
  intro p e s m below meth c s₁ hx hby hml hown hnm hret hlk hZ X0 e0
  have FF' := FF
  obtain ⟨S_DM, E_DM, S_CM, E_CM, ne_DM_CM⟩ := FF'
  refine Go.cast (ef_1_2 m a_DM u rc k) ?_
  show Go p e below _ s₁ (mkF m 0 #[.val (.ref a_DM), .val (.ref u), .val .null, .val (.long rc), .second, .val (.int k), .unset, .unset, .unset, .unset, .unset] [])
  refine Go.lconst X0 hx (hb hby d1_0) rfl (0 : Int64) rfl ?_
  refine Go.lstore X0 hx (hb hby d1_1) rfl  #[.val (.ref a_DM), .val (.ref u), .val .null, .val (.long rc), .second, .val (.int k), .val (.long (0 : Int64)), .second, .unset, .unset, .unset] rfl ?_
  refine Go.lconst X0 hx (hb hby d1_3) rfl (0 : Int64) rfl ?_
  refine Go.lstore X0 hx (hb hby d1_4) rfl  #[.val (.ref a_DM), .val (.ref u), .val .null, .val (.long rc), .second, .val (.int k), .val (.long (0 : Int64)), .second, .val (.long (0 : Int64)), .second, .unset] rfl ?_
  refine Go.iconst X0 hx (hb hby d1_6) rfl (0 : Int32) rfl ?_
  refine Go.istore X0 hx (hb hby d1_7) rfl  #[.val (.ref a_DM), .val (.ref u), .val .null, .val (.long rc), .second, .val (.int k), .val (.long (0 : Int64)), .second, .val (.long (0 : Int64)), .second, .val (.int (0 : Int32))] rfl ?_
  refine Go.iload X0 hx (hb hby d1_9) rfl rfl  ?_
  refine Go.aloadN X0 hx (hb hby d1_11) rfl rfl rfl ?_
  refine Go.alen X0 hx hZ Vu e0 (hb hby d1_12) rfl ?_
  refine Go.icmpNo X0 hx (hb hby d1_13) rfl (tlt (by decide : (0 : Int32) < (2 : Int32))).2.1 ?_
  refine Go.aloadN X0 hx (hb hby d1_16) rfl rfl rfl ?_
  refine Go.iload X0 hx (hb hby d1_17) rfl rfl  ?_
  refine Go.iaload X0 hx hZ (.int s0) Vu e0  ⟨by decide, by decide⟩ rfl (hb hby d1_19) rfl ?_
  refine Go.iload X0 hx (hb hby d1_20) rfl rfl  ?_
  refine Go.icmpNo X0 hx (hb hby d1_22) rfl (tlt t0).2.1 ?_
  refine Go.lload X0 hx (hb hby d1_25) rfl rfl  ?_
  refine Go.aloadN X0 hx (hb hby d1_27) rfl rfl rfl ?_
  refine Go.iload X0 hx (hb hby d1_28) rfl rfl  ?_
  refine Go.iaload X0 hx hZ (.int s0) Vu e0  ⟨by decide, by decide⟩ rfl (hb hby d1_30) rfl ?_
  refine Go.i2l X0 hx (hb hby d1_31) rfl ?_
  refine Go.ladd X0 hx (hb hby d1_32) rfl ?_
  refine Go.lstore X0 hx (hb hby d1_33) rfl  #[.val (.ref a_DM), .val (.ref u), .val .null, .val (.long rc), .second, .val (.int k), .val (.long ((0 : Int64) + ((s0).toInt64))), .second, .val (.long (0 : Int64)), .second, .val (.int (0 : Int32))] rfl ?_
  refine Go.goto X0 hx (hb hby d1_35) rfl 65 (by decide) (by decide) ?_
  refine Go.iinc X0 hx (hb hby d1_65) rfl rfl #[.val (.ref a_DM), .val (.ref u), .val .null, .val (.long rc), .second, .val (.int k), .val (.long ((0 : Int64) + ((s0).toInt64))), .second, .val (.long (0 : Int64)), .second, .val (.int ((0 : Int32) + (1 : Int32)))] rfl ?_
  show Go p e below _ s₁ (mkF m 68 #[.val (.ref a_DM), .val (.ref u), .val .null, .val (.long rc), .second, .val (.int k), .val (.long ((0 : Int64) + ((s0).toInt64))), .second, .val (.long (0 : Int64)), .second, .val (.int ((0 : Int32) + (1 : Int32)))] [])
  rw [show ((0 : Int32) + (1 : Int32)) = (1 : Int32) from by decide]
  show Go p e below _ s₁ (mkF m 68 #[.val (.ref a_DM), .val (.ref u), .val .null, .val (.long rc), .second, .val (.int k), .val (.long ((0 : Int64) + ((s0).toInt64))), .second, .val (.long (0 : Int64)), .second, .val (.int (1 : Int32))] [])
  refine Go.goto X0 hx (hb hby d1_68) rfl 9 (by decide) (by decide) ?_
  refine Go.iload X0 hx (hb hby d1_9) rfl rfl  ?_
  refine Go.aloadN X0 hx (hb hby d1_11) rfl rfl rfl ?_
  refine Go.alen X0 hx hZ Vu e0 (hb hby d1_12) rfl ?_
  refine Go.icmpNo X0 hx (hb hby d1_13) rfl (tlt (by decide : (1 : Int32) < (2 : Int32))).2.1 ?_
  refine Go.aloadN X0 hx (hb hby d1_16) rfl rfl rfl ?_
  refine Go.iload X0 hx (hb hby d1_17) rfl rfl  ?_
  refine Go.iaload X0 hx hZ (.int s1) Vu e0  ⟨by decide, by decide⟩ rfl (hb hby d1_19) rfl ?_
  refine Go.iload X0 hx (hb hby d1_20) rfl rfl  ?_
  refine Go.icmpYes X0 hx (hb hby d1_22) rfl 38 (flt t1).2.1 (by decide) (by decide) ?_
  refine Go.lload X0 hx (hb hby d1_38) rfl rfl  ?_
  refine Go.aloadN X0 hx (hb hby d1_40) rfl rfl rfl ?_
  refine Go.aloadN X0 hx (hb hby d1_41) rfl rfl rfl ?_
  refine Go.iload X0 hx (hb hby d1_42) rfl rfl  ?_
  refine Go.iaload X0 hx hZ (.int s1) Vu e0  ⟨by decide, by decide⟩ rfl (hb hby d1_44) rfl ?_
  refine Go.i2l X0 hx (hb hby d1_45) rfl ?_
  refine Go.aloadN X0 hx (hb hby d1_46) rfl rfl rfl ?_
  refine Go.ifnonnullNo X0 hx (hb hby d1_47) rfl ?_
  refine Go.lconst X0 hx (hb hby d1_50) rfl (0 : Int64) rfl ?_
  refine Go.goto X0 hx (hb hby d1_51) rfl 59 (by decide) (by decide) ?_
  refine Go.pureV X0 hx hZ hown (wd 47 rfl) (wd 48 rfl) (own_nf (args := #[]) (y' := (⟨"com/example/unika/unika/anonymize/RecodingMetric", "evaluate", "([I[IJI)Lcom/example/unika/unika/anonymize/RecodingMetric$Evaluation;"⟩ : MethodName)) rfl (mvT hZ (wd 7 rfl))) (wd 49 rfl) (wd 50 rfl) (wd 16 rfl) (wd 51 rfl) (by decide) [(.long ((s1).toInt64)), (.long (0 : Int64))] [(.long (0 : Int64))] (E_DM.ext O0.2) (rmK1 l Z a0 hw a_DM ((s1).toInt64) (0 : Int64) h0) e0 rfl (by rw [hml]; rfl) pd_6 rfl (hb hby d1_59) (Nat.le_of_ble_eq_true rfl) (Nat.le_of_ble_eq_true rfl) (Nat.le_of_ble_eq_true rfl) (Nat.le_of_ble_eq_true rfl) ?_
  intro T1 X1 e1
  refine Go.ladd X1 hx (hb hby d1_62) rfl ?_
  refine Go.lstore X1 hx (hb hby d1_63) rfl  #[.val (.ref a_DM), .val (.ref u), .val .null, .val (.long rc), .second, .val (.int k), .val (.long ((0 : Int64) + ((s0).toInt64))), .second, .val (.long ((0 : Int64) + (((s1).toInt64) * ((s1).toInt64)))), .second, .val (.int (1 : Int32))] rfl ?_
  refine Go.iinc X1 hx (hb hby d1_65) rfl rfl #[.val (.ref a_DM), .val (.ref u), .val .null, .val (.long rc), .second, .val (.int k), .val (.long ((0 : Int64) + ((s0).toInt64))), .second, .val (.long ((0 : Int64) + (((s1).toInt64) * ((s1).toInt64)))), .second, .val (.int ((1 : Int32) + (1 : Int32)))] rfl ?_
  show Go p e below _ T1 (mkF m 68 #[.val (.ref a_DM), .val (.ref u), .val .null, .val (.long rc), .second, .val (.int k), .val (.long ((0 : Int64) + ((s0).toInt64))), .second, .val (.long ((0 : Int64) + (((s1).toInt64) * ((s1).toInt64)))), .second, .val (.int ((1 : Int32) + (1 : Int32)))] [])
  rw [show ((1 : Int32) + (1 : Int32)) = (2 : Int32) from by decide]
  show Go p e below _ T1 (mkF m 68 #[.val (.ref a_DM), .val (.ref u), .val .null, .val (.long rc), .second, .val (.int k), .val (.long ((0 : Int64) + ((s0).toInt64))), .second, .val (.long ((0 : Int64) + (((s1).toInt64) * ((s1).toInt64)))), .second, .val (.int (2 : Int32))] [])
  refine Go.goto X1 hx (hb hby d1_68) rfl 9 (by decide) (by decide) ?_
  refine Go.iload X1 hx (hb hby d1_9) rfl rfl  ?_
  refine Go.aloadN X1 hx (hb hby d1_11) rfl rfl rfl ?_
  refine Go.alen X1 hx hZ Vu e1 (hb hby d1_12) rfl ?_
  refine Go.icmpYes X1 hx (hb hby d1_13) rfl 71 (flt (by decide : ¬ ((2 : Int32) < (2 : Int32)))).2.1 (by decide) (by decide) ?_
  refine Go.newO X1 hx hZ hown (wd 9 rfl) (wd 10 rfl) (wd 11 rfl) e1 (hb hby d1_71) rfl (Nat.le_of_ble_eq_true rfl) (Nat.le_of_ble_eq_true rfl) ?_
  intro T2 h2 b2 g2 X2 e2 E2 A2 D2
  have F3 : Fld Z h2 b2 "com/example/unika/unika/anonymize/RecodingMetric$Evaluation" "suppressedRows" "J" (.long (0 : Int64)) := D2 (Or.inr (wd 30 rfl)) (ty := .long) (by decide)
  have F4 : Fld Z h2 b2 "com/example/unika/unika/anonymize/RecodingMetric$Evaluation" "cost" "J" (.long (0 : Int64)) := D2 (Or.inr (wd 32 rfl)) (ty := .long) (by decide)
  have q2 : Z.heap.size ≤ b2 := Nat.le_trans O0.2.1 (Nat.le_of_eq g2.symm)
  have z2 : h0.size ≤ b2 := Nat.le_trans (Keep.refl h0 []).1 (Nat.le_of_eq g2.symm)
  have ne_u_b2 : u ≠ b2 := Nat.ne_of_lt (Nat.lt_of_lt_of_le Vu.lt (Nat.le_of_eq g2.symm))
  have K5 := (Keep.refl h0 []).ext E2
  have O6 := O0.ext E2
  have V7 := Vu.ext E2
  refine Go.dup X2 hx (hb hby d1_74) rfl rfl ?_
  refine Go.lload X2 hx (hb hby d1_75) rfl rfl  ?_
  refine Go.lload X2 hx (hb hby d1_77) rfl rfl  ?_
  refine Go.lload X2 hx (hb hby d1_79) rfl rfl  ?_
  refine Go.aloadN X2 hx (hb hby d1_81) rfl rfl rfl ?_
  refine Go.lloadN X2 hx (hb hby d1_82) rfl rfl  ?_
  refine Go.pureV X2 hx hZ hown (wd 12 rfl) (wd 13 rfl) (own_nf (args := #[]) (y' := (⟨"com/example/unika/unika/anonymize/RecodingMetric", "evaluate", "([I[IJI)Lcom/example/unika/unika/anonymize/RecodingMetric$Evaluation;"⟩ : MethodName)) rfl (mvT hZ (wd 7 rfl))) (wd 14 rfl) (wd 15 rfl) (wd 16 rfl) (wd 17 rfl) (by decide) [(.long rc)] [(.long ((0 : Int64) + ((s0).toInt64))), (.long ((0 : Int64) + (((s1).toInt64) * ((s1).toInt64)))), (.long ((0 : Int64) + ((s0).toInt64))), (.ref b2), (.ref b2)] (E_DM.ext O6.2) (rmV1 l Z a0 hw a_DM rc h2) e2 rfl (by rw [hml]; rfl) pd_1 rfl (hb hby d1_83) (Nat.le_of_ble_eq_true rfl) (Nat.le_of_ble_eq_true rfl) (Nat.le_of_ble_eq_true rfl) (Nat.le_of_ble_eq_true rfl) ?_
  intro T8 X8 e8
  refine Go.lmul X8 hx (hb hby d1_86) rfl ?_
  refine Go.ladd X8 hx (hb hby d1_87) rfl ?_
  refine Go.callI X8 hx hZ rfl hown (wd 18 rfl) (wd 19 rfl) (wd 11 rfl) (wd 20 rfl) (by decide) [(.long ((0 : Int64) + ((s0).toInt64))), (.long (((0 : Int64) + (((s1).toInt64) * ((s1).toInt64))) + (((0 : Int64) + ((s0).toInt64)) * rc)))] [(.ref b2)] (rmE l Z a0 hw b2 ((0 : Int64) + ((s0).toInt64)) (((0 : Int64) + (((s1).toInt64) * ((s1).toInt64))) + (((0 : Int64) + ((s0).toInt64)) * rc)) h2 O6 A2 q2 F3 F4) e8 rfl (by rw [hml]; rfl) pd_2 rfl (hb hby d1_88) (Nat.le_of_ble_eq_true rfl) (Nat.le_of_ble_eq_true rfl) (Nat.le_of_ble_eq_true rfl) (Nat.le_of_ble_eq_true rfl) ?_
  rintro vv9 T9 L9 X9 Q9
  obtain ⟨rfl, N9, K9, E9, Fs9, Fc9⟩ := Q9
  have M10 := Fr.app (Fr.nil _) N9
  have O11 := O6.keep K9 (allS q2 (all0))
  have K12 := Keep.trans K5 K9 (allS (Or.inr z2) (all0))
  have V13 := V7.keep K9 (ninS ne_u_b2 (nin0))
  have E14 := A2.keep K9
  exact Go.retA X9 hx hret hlk rfl rfl (hb hby d1_91) rfl ⟨b2, rfl, M10, K12, z2, E9, Fs9, Fc9⟩ (Nat.le_of_ble_eq_true rfl) (Nat.le_of_ble_eq_true rfl)
set_option maxRecDepth 65536 in
set_option maxHeartbeats 40000000 in
theorem rmEv012ft (l : Launch) (Z : State) (a0 : Array Value) (hw : ∀ d ∈ tables_1, d.before a0 Z = true) (u : Addr) (ku : ClassId) (s0 s1 : Int32) (rc : Int64) (k : Int32) (a_DM : Addr) (a_CM : Addr) (h0 : Heap) (O0 : Old Z Z.heap.size h0) (FF : Facts Z a_DM a_CM) (Vu : Arv Z h0 u ku .int (2 : Int32) [(.int s0), (.int s1)] (.int (0 : Int32))) (t0 : ¬ s0 < k) (t1 : s1 < k) : Ctr l Z (⟨"com/example/unika/unika/anonymize/RecodingMetric", "evaluate", "([I[IJI)Lcom/example/unika/unika/anonymize/RecodingMetric$Evaluation;"⟩ : MethodName) prog_39_method_13_code 11 (some (.object "com/example/unika/unika/anonymize/RecodingMetric$Evaluation")) ({ frames := 3, cells := 1, slots := 2, locals := 41 } : Room) #[(.ref a_DM), (.ref u), .null, (.long rc), (.int k)] h0 (fun v h L => ∃ b : Addr, v = some (.ref b) ∧ Fr Z.heap.size L ∧ Keep h0 h [] ∧ h0.size ≤ b ∧ Exa Z h b "com/example/unika/unika/anonymize/RecodingMetric$Evaluation" ∧ Fld Z h b "com/example/unika/unika/anonymize/RecodingMetric$Evaluation" "suppressedRows" "J" (.long ((0 : Int64) + ((s1).toInt64))) ∧ Fld Z h b "com/example/unika/unika/anonymize/RecodingMetric$Evaluation" "cost" "J" (.long (((0 : Int64) + (((s0).toInt64) * ((s0).toInt64))) + (((0 : Int64) + ((s1).toInt64)) * rc)))) := by
  refine Ctr.of (plainFor_of_name pn_1) ?_
  have wd : ∀ {d : Jvm.Cond} (i : Nat), tables_1[i]? = some d → d.before a0 Z = true := fun i q => hw _ (List.mem_of_getElem? q)
  intro p e s m below meth c s₁ hx hby hml hown hnm hret hlk hZ X0 e0
  have FF' := FF
  obtain ⟨S_DM, E_DM, S_CM, E_CM, ne_DM_CM⟩ := FF'
  refine Go.cast (ef_1_2 m a_DM u rc k) ?_
  show Go p e below _ s₁ (mkF m 0 #[.val (.ref a_DM), .val (.ref u), .val .null, .val (.long rc), .second, .val (.int k), .unset, .unset, .unset, .unset, .unset] [])
  refine Go.lconst X0 hx (hb hby d1_0) rfl (0 : Int64) rfl ?_
  refine Go.lstore X0 hx (hb hby d1_1) rfl  #[.val (.ref a_DM), .val (.ref u), .val .null, .val (.long rc), .second, .val (.int k), .val (.long (0 : Int64)), .second, .unset, .unset, .unset] rfl ?_
  refine Go.lconst X0 hx (hb hby d1_3) rfl (0 : Int64) rfl ?_
  refine Go.lstore X0 hx (hb hby d1_4) rfl  #[.val (.ref a_DM), .val (.ref u), .val .null, .val (.long rc), .second, .val (.int k), .val (.long (0 : Int64)), .second, .val (.long (0 : Int64)), .second, .unset] rfl ?_
  refine Go.iconst X0 hx (hb hby d1_6) rfl (0 : Int32) rfl ?_
  refine Go.istore X0 hx (hb hby d1_7) rfl  #[.val (.ref a_DM), .val (.ref u), .val .null, .val (.long rc), .second, .val (.int k), .val (.long (0 : Int64)), .second, .val (.long (0 : Int64)), .second, .val (.int (0 : Int32))] rfl ?_
  refine Go.iload X0 hx (hb hby d1_9) rfl rfl  ?_
  refine Go.aloadN X0 hx (hb hby d1_11) rfl rfl rfl ?_
  refine Go.alen X0 hx hZ Vu e0 (hb hby d1_12) rfl ?_
  refine Go.icmpNo X0 hx (hb hby d1_13) rfl (tlt (by decide : (0 : Int32) < (2 : Int32))).2.1 ?_
  refine Go.aloadN X0 hx (hb hby d1_16) rfl rfl rfl ?_
  refine Go.iload X0 hx (hb hby d1_17) rfl rfl  ?_
  refine Go.iaload X0 hx hZ (.int s0) Vu e0  ⟨by decide, by decide⟩ rfl (hb hby d1_19) rfl ?_
  refine Go.iload X0 hx (hb hby d1_20) rfl rfl  ?_
  refine Go.icmpYes X0 hx (hb hby d1_22) rfl 38 (flt t0).2.1 (by decide) (by decide) ?_
  refine Go.lload X0 hx (hb hby d1_38) rfl rfl  ?_
  refine Go.aloadN X0 hx (hb hby d1_40) rfl rfl rfl ?_
  refine Go.aloadN X0 hx (hb hby d1_41) rfl rfl rfl ?_
  refine Go.iload X0 hx (hb hby d1_42) rfl rfl  ?_
  refine Go.iaload X0 hx hZ (.int s0) Vu e0  ⟨by decide, by decide⟩ rfl (hb hby d1_44) rfl ?_
  refine Go.i2l X0 hx (hb hby d1_45) rfl ?_
  refine Go.aloadN X0 hx (hb hby d1_46) rfl rfl rfl ?_
  refine Go.ifnonnullNo X0 hx (hb hby d1_47) rfl ?_
  refine Go.lconst X0 hx (hb hby d1_50) rfl (0 : Int64) rfl ?_
  refine Go.goto X0 hx (hb hby d1_51) rfl 59 (by decide) (by decide) ?_
  refine Go.pureV X0 hx hZ hown (wd 47 rfl) (wd 48 rfl) (own_nf (args := #[]) (y' := (⟨"com/example/unika/unika/anonymize/RecodingMetric", "evaluate", "([I[IJI)Lcom/example/unika/unika/anonymize/RecodingMetric$Evaluation;"⟩ : MethodName)) rfl (mvT hZ (wd 7 rfl))) (wd 49 rfl) (wd 50 rfl) (wd 16 rfl) (wd 51 rfl) (by decide) [(.long ((s0).toInt64)), (.long (0 : Int64))] [(.long (0 : Int64))] (E_DM.ext O0.2) (rmK1 l Z a0 hw a_DM ((s0).toInt64) (0 : Int64) h0) e0 rfl (by rw [hml]; rfl) pd_6 rfl (hb hby d1_59) (Nat.le_of_ble_eq_true rfl) (Nat.le_of_ble_eq_true rfl) (Nat.le_of_ble_eq_true rfl) (Nat.le_of_ble_eq_true rfl) ?_
  intro T1 X1 e1
  refine Go.ladd X1 hx (hb hby d1_62) rfl ?_
  refine Go.lstore X1 hx (hb hby d1_63) rfl  #[.val (.ref a_DM), .val (.ref u), .val .null, .val (.long rc), .second, .val (.int k), .val (.long (0 : Int64)), .second, .val (.long ((0 : Int64) + (((s0).toInt64) * ((s0).toInt64)))), .second, .val (.int (0 : Int32))] rfl ?_
  refine Go.iinc X1 hx (hb hby d1_65) rfl rfl #[.val (.ref a_DM), .val (.ref u), .val .null, .val (.long rc), .second, .val (.int k), .val (.long (0 : Int64)), .second, .val (.long ((0 : Int64) + (((s0).toInt64) * ((s0).toInt64)))), .second, .val (.int ((0 : Int32) + (1 : Int32)))] rfl ?_
  show Go p e below _ T1 (mkF m 68 #[.val (.ref a_DM), .val (.ref u), .val .null, .val (.long rc), .second, .val (.int k), .val (.long (0 : Int64)), .second, .val (.long ((0 : Int64) + (((s0).toInt64) * ((s0).toInt64)))), .second, .val (.int ((0 : Int32) + (1 : Int32)))] [])
  rw [show ((0 : Int32) + (1 : Int32)) = (1 : Int32) from by decide]
  show Go p e below _ T1 (mkF m 68 #[.val (.ref a_DM), .val (.ref u), .val .null, .val (.long rc), .second, .val (.int k), .val (.long (0 : Int64)), .second, .val (.long ((0 : Int64) + (((s0).toInt64) * ((s0).toInt64)))), .second, .val (.int (1 : Int32))] [])
  refine Go.goto X1 hx (hb hby d1_68) rfl 9 (by decide) (by decide) ?_
  refine Go.iload X1 hx (hb hby d1_9) rfl rfl  ?_
  refine Go.aloadN X1 hx (hb hby d1_11) rfl rfl rfl ?_
  refine Go.alen X1 hx hZ Vu e1 (hb hby d1_12) rfl ?_
  refine Go.icmpNo X1 hx (hb hby d1_13) rfl (tlt (by decide : (1 : Int32) < (2 : Int32))).2.1 ?_
  refine Go.aloadN X1 hx (hb hby d1_16) rfl rfl rfl ?_
  refine Go.iload X1 hx (hb hby d1_17) rfl rfl  ?_
  refine Go.iaload X1 hx hZ (.int s1) Vu e1  ⟨by decide, by decide⟩ rfl (hb hby d1_19) rfl ?_
  refine Go.iload X1 hx (hb hby d1_20) rfl rfl  ?_
  refine Go.icmpNo X1 hx (hb hby d1_22) rfl (tlt t1).2.1 ?_
  refine Go.lload X1 hx (hb hby d1_25) rfl rfl  ?_
  refine Go.aloadN X1 hx (hb hby d1_27) rfl rfl rfl ?_
  refine Go.iload X1 hx (hb hby d1_28) rfl rfl  ?_
  refine Go.iaload X1 hx hZ (.int s1) Vu e1  ⟨by decide, by decide⟩ rfl (hb hby d1_30) rfl ?_
  refine Go.i2l X1 hx (hb hby d1_31) rfl ?_
  refine Go.ladd X1 hx (hb hby d1_32) rfl ?_
  refine Go.lstore X1 hx (hb hby d1_33) rfl  #[.val (.ref a_DM), .val (.ref u), .val .null, .val (.long rc), .second, .val (.int k), .val (.long ((0 : Int64) + ((s1).toInt64))), .second, .val (.long ((0 : Int64) + (((s0).toInt64) * ((s0).toInt64)))), .second, .val (.int (1 : Int32))] rfl ?_
  refine Go.goto X1 hx (hb hby d1_35) rfl 65 (by decide) (by decide) ?_
  refine Go.iinc X1 hx (hb hby d1_65) rfl rfl #[.val (.ref a_DM), .val (.ref u), .val .null, .val (.long rc), .second, .val (.int k), .val (.long ((0 : Int64) + ((s1).toInt64))), .second, .val (.long ((0 : Int64) + (((s0).toInt64) * ((s0).toInt64)))), .second, .val (.int ((1 : Int32) + (1 : Int32)))] rfl ?_
  show Go p e below _ T1 (mkF m 68 #[.val (.ref a_DM), .val (.ref u), .val .null, .val (.long rc), .second, .val (.int k), .val (.long ((0 : Int64) + ((s1).toInt64))), .second, .val (.long ((0 : Int64) + (((s0).toInt64) * ((s0).toInt64)))), .second, .val (.int ((1 : Int32) + (1 : Int32)))] [])
  rw [show ((1 : Int32) + (1 : Int32)) = (2 : Int32) from by decide]
  show Go p e below _ T1 (mkF m 68 #[.val (.ref a_DM), .val (.ref u), .val .null, .val (.long rc), .second, .val (.int k), .val (.long ((0 : Int64) + ((s1).toInt64))), .second, .val (.long ((0 : Int64) + (((s0).toInt64) * ((s0).toInt64)))), .second, .val (.int (2 : Int32))] [])
  refine Go.goto X1 hx (hb hby d1_68) rfl 9 (by decide) (by decide) ?_
  refine Go.iload X1 hx (hb hby d1_9) rfl rfl  ?_
  refine Go.aloadN X1 hx (hb hby d1_11) rfl rfl rfl ?_
  refine Go.alen X1 hx hZ Vu e1 (hb hby d1_12) rfl ?_
  refine Go.icmpYes X1 hx (hb hby d1_13) rfl 71 (flt (by decide : ¬ ((2 : Int32) < (2 : Int32)))).2.1 (by decide) (by decide) ?_
  refine Go.newO X1 hx hZ hown (wd 9 rfl) (wd 10 rfl) (wd 11 rfl) e1 (hb hby d1_71) rfl (Nat.le_of_ble_eq_true rfl) (Nat.le_of_ble_eq_true rfl) ?_
  intro T2 h2 b2 g2 X2 e2 E2 A2 D2
  have F3 : Fld Z h2 b2 "com/example/unika/unika/anonymize/RecodingMetric$Evaluation" "suppressedRows" "J" (.long (0 : Int64)) := D2 (Or.inr (wd 30 rfl)) (ty := .long) (by decide)
  have F4 : Fld Z h2 b2 "com/example/unika/unika/anonymize/RecodingMetric$Evaluation" "cost" "J" (.long (0 : Int64)) := D2 (Or.inr (wd 32 rfl)) (ty := .long) (by decide)
  have q2 : Z.heap.size ≤ b2 := Nat.le_trans O0.2.1 (Nat.le_of_eq g2.symm)
  have z2 : h0.size ≤ b2 := Nat.le_trans (Keep.refl h0 []).1 (Nat.le_of_eq g2.symm)
  have ne_u_b2 : u ≠ b2 := Nat.ne_of_lt (Nat.lt_of_lt_of_le Vu.lt (Nat.le_of_eq g2.symm))
  have K5 := (Keep.refl h0 []).ext E2
  have O6 := O0.ext E2
  have V7 := Vu.ext E2
  refine Go.dup X2 hx (hb hby d1_74) rfl rfl ?_
  refine Go.lload X2 hx (hb hby d1_75) rfl rfl  ?_
  refine Go.lload X2 hx (hb hby d1_77) rfl rfl  ?_
  refine Go.lload X2 hx (hb hby d1_79) rfl rfl  ?_
  refine Go.aloadN X2 hx (hb hby d1_81) rfl rfl rfl ?_
  refine Go.lloadN X2 hx (hb hby d1_82) rfl rfl  ?_
  refine Go.pureV X2 hx hZ hown (wd 12 rfl) (wd 13 rfl) (own_nf (args := #[]) (y' := (⟨"com/example/unika/unika/anonymize/RecodingMetric", "evaluate", "([I[IJI)Lcom/example/unika/unika/anonymize/RecodingMetric$Evaluation;"⟩ : MethodName)) rfl (mvT hZ (wd 7 rfl))) (wd 14 rfl) (wd 15 rfl) (wd 16 rfl) (wd 17 rfl) (by decide) [(.long rc)] [(.long ((0 : Int64) + ((s1).toInt64))), (.long ((0 : Int64) + (((s0).toInt64) * ((s0).toInt64)))), (.long ((0 : Int64) + ((s1).toInt64))), (.ref b2), (.ref b2)] (E_DM.ext O6.2) (rmV1 l Z a0 hw a_DM rc h2) e2 rfl (by rw [hml]; rfl) pd_1 rfl (hb hby d1_83) (Nat.le_of_ble_eq_true rfl) (Nat.le_of_ble_eq_true rfl) (Nat.le_of_ble_eq_true rfl) (Nat.le_of_ble_eq_true rfl) ?_
  intro T8 X8 e8
  refine Go.lmul X8 hx (hb hby d1_86) rfl ?_
  refine Go.ladd X8 hx (hb hby d1_87) rfl ?_
  refine Go.callI X8 hx hZ rfl hown (wd 18 rfl) (wd 19 rfl) (wd 11 rfl) (wd 20 rfl) (by decide) [(.long ((0 : Int64) + ((s1).toInt64))), (.long (((0 : Int64) + (((s0).toInt64) * ((s0).toInt64))) + (((0 : Int64) + ((s1).toInt64)) * rc)))] [(.ref b2)] (rmE l Z a0 hw b2 ((0 : Int64) + ((s1).toInt64)) (((0 : Int64) + (((s0).toInt64) * ((s0).toInt64))) + (((0 : Int64) + ((s1).toInt64)) * rc)) h2 O6 A2 q2 F3 F4) e8 rfl (by rw [hml]; rfl) pd_2 rfl (hb hby d1_88) (Nat.le_of_ble_eq_true rfl) (Nat.le_of_ble_eq_true rfl) (Nat.le_of_ble_eq_true rfl) (Nat.le_of_ble_eq_true rfl) ?_
  rintro vv9 T9 L9 X9 Q9
  obtain ⟨rfl, N9, K9, E9, Fs9, Fc9⟩ := Q9
  have M10 := Fr.app (Fr.nil _) N9
  have O11 := O6.keep K9 (allS q2 (all0))
  have K12 := Keep.trans K5 K9 (allS (Or.inr z2) (all0))
  have V13 := V7.keep K9 (ninS ne_u_b2 (nin0))
  have E14 := A2.keep K9
  exact Go.retA X9 hx hret hlk rfl rfl (hb hby d1_91) rfl ⟨b2, rfl, M10, K12, z2, E9, Fs9, Fc9⟩ (Nat.le_of_ble_eq_true rfl) (Nat.le_of_ble_eq_true rfl)
set_option maxRecDepth 65536 in
set_option maxHeartbeats 40000000 in
theorem rmEv012ff (l : Launch) (Z : State) (a0 : Array Value) (hw : ∀ d ∈ tables_1, d.before a0 Z = true) (u : Addr) (ku : ClassId) (s0 s1 : Int32) (rc : Int64) (k : Int32) (a_DM : Addr) (a_CM : Addr) (h0 : Heap) (O0 : Old Z Z.heap.size h0) (FF : Facts Z a_DM a_CM) (Vu : Arv Z h0 u ku .int (2 : Int32) [(.int s0), (.int s1)] (.int (0 : Int32))) (t0 : ¬ s0 < k) (t1 : ¬ s1 < k) : Ctr l Z (⟨"com/example/unika/unika/anonymize/RecodingMetric", "evaluate", "([I[IJI)Lcom/example/unika/unika/anonymize/RecodingMetric$Evaluation;"⟩ : MethodName) prog_39_method_13_code 11 (some (.object "com/example/unika/unika/anonymize/RecodingMetric$Evaluation")) ({ frames := 3, cells := 1, slots := 2, locals := 41 } : Room) #[(.ref a_DM), (.ref u), .null, (.long rc), (.int k)] h0 (fun v h L => ∃ b : Addr, v = some (.ref b) ∧ Fr Z.heap.size L ∧ Keep h0 h [] ∧ h0.size ≤ b ∧ Exa Z h b "com/example/unika/unika/anonymize/RecodingMetric$Evaluation" ∧ Fld Z h b "com/example/unika/unika/anonymize/RecodingMetric$Evaluation" "suppressedRows" "J" (.long (0 : Int64)) ∧ Fld Z h b "com/example/unika/unika/anonymize/RecodingMetric$Evaluation" "cost" "J" (.long ((((0 : Int64) + (((s0).toInt64) * ((s0).toInt64))) + (((s1).toInt64) * ((s1).toInt64))) + ((0 : Int64) * rc)))) := by
  refine Ctr.of (plainFor_of_name pn_1) ?_
  have wd : ∀ {d : Jvm.Cond} (i : Nat), tables_1[i]? = some d → d.before a0 Z = true := fun i q => hw _ (List.mem_of_getElem? q)
  intro p e s m below meth c s₁ hx hby hml hown hnm hret hlk hZ X0 e0
  have FF' := FF
  obtain ⟨S_DM, E_DM, S_CM, E_CM, ne_DM_CM⟩ := FF'
  refine Go.cast (ef_1_2 m a_DM u rc k) ?_
  show Go p e below _ s₁ (mkF m 0 #[.val (.ref a_DM), .val (.ref u), .val .null, .val (.long rc), .second, .val (.int k), .unset, .unset, .unset, .unset, .unset] [])
  refine Go.lconst X0 hx (hb hby d1_0) rfl (0 : Int64) rfl ?_
  refine Go.lstore X0 hx (hb hby d1_1) rfl  #[.val (.ref a_DM), .val (.ref u), .val .null, .val (.long rc), .second, .val (.int k), .val (.long (0 : Int64)), .second, .unset, .unset, .unset] rfl ?_
  refine Go.lconst X0 hx (hb hby d1_3) rfl (0 : Int64) rfl ?_
  refine Go.lstore X0 hx (hb hby d1_4) rfl  #[.val (.ref a_DM), .val (.ref u), .val .null, .val (.long rc), .second, .val (.int k), .val (.long (0 : Int64)), .second, .val (.long (0 : Int64)), .second, .unset] rfl ?_
  refine Go.iconst X0 hx (hb hby d1_6) rfl (0 : Int32) rfl ?_
  refine Go.istore X0 hx (hb hby d1_7) rfl  #[.val (.ref a_DM), .val (.ref u), .val .null, .val (.long rc), .second, .val (.int k), .val (.long (0 : Int64)), .second, .val (.long (0 : Int64)), .second, .val (.int (0 : Int32))] rfl ?_
  refine Go.iload X0 hx (hb hby d1_9) rfl rfl  ?_
  refine Go.aloadN X0 hx (hb hby d1_11) rfl rfl rfl ?_
  refine Go.alen X0 hx hZ Vu e0 (hb hby d1_12) rfl ?_
  refine Go.icmpNo X0 hx (hb hby d1_13) rfl (tlt (by decide : (0 : Int32) < (2 : Int32))).2.1 ?_
  refine Go.aloadN X0 hx (hb hby d1_16) rfl rfl rfl ?_
  refine Go.iload X0 hx (hb hby d1_17) rfl rfl  ?_
  refine Go.iaload X0 hx hZ (.int s0) Vu e0  ⟨by decide, by decide⟩ rfl (hb hby d1_19) rfl ?_
  refine Go.iload X0 hx (hb hby d1_20) rfl rfl  ?_
  refine Go.icmpYes X0 hx (hb hby d1_22) rfl 38 (flt t0).2.1 (by decide) (by decide) ?_
  refine Go.lload X0 hx (hb hby d1_38) rfl rfl  ?_
  refine Go.aloadN X0 hx (hb hby d1_40) rfl rfl rfl ?_
  refine Go.aloadN X0 hx (hb hby d1_41) rfl rfl rfl ?_
  refine Go.iload X0 hx (hb hby d1_42) rfl rfl  ?_
  refine Go.iaload X0 hx hZ (.int s0) Vu e0  ⟨by decide, by decide⟩ rfl (hb hby d1_44) rfl ?_
  refine Go.i2l X0 hx (hb hby d1_45) rfl ?_
  refine Go.aloadN X0 hx (hb hby d1_46) rfl rfl rfl ?_
  refine Go.ifnonnullNo X0 hx (hb hby d1_47) rfl ?_
  refine Go.lconst X0 hx (hb hby d1_50) rfl (0 : Int64) rfl ?_
  refine Go.goto X0 hx (hb hby d1_51) rfl 59 (by decide) (by decide) ?_
  refine Go.pureV X0 hx hZ hown (wd 47 rfl) (wd 48 rfl) (own_nf (args := #[]) (y' := (⟨"com/example/unika/unika/anonymize/RecodingMetric", "evaluate", "([I[IJI)Lcom/example/unika/unika/anonymize/RecodingMetric$Evaluation;"⟩ : MethodName)) rfl (mvT hZ (wd 7 rfl))) (wd 49 rfl) (wd 50 rfl) (wd 16 rfl) (wd 51 rfl) (by decide) [(.long ((s0).toInt64)), (.long (0 : Int64))] [(.long (0 : Int64))] (E_DM.ext O0.2) (rmK1 l Z a0 hw a_DM ((s0).toInt64) (0 : Int64) h0) e0 rfl (by rw [hml]; rfl) pd_6 rfl (hb hby d1_59) (Nat.le_of_ble_eq_true rfl) (Nat.le_of_ble_eq_true rfl) (Nat.le_of_ble_eq_true rfl) (Nat.le_of_ble_eq_true rfl) ?_
  intro T1 X1 e1
  refine Go.ladd X1 hx (hb hby d1_62) rfl ?_
  refine Go.lstore X1 hx (hb hby d1_63) rfl  #[.val (.ref a_DM), .val (.ref u), .val .null, .val (.long rc), .second, .val (.int k), .val (.long (0 : Int64)), .second, .val (.long ((0 : Int64) + (((s0).toInt64) * ((s0).toInt64)))), .second, .val (.int (0 : Int32))] rfl ?_
  refine Go.iinc X1 hx (hb hby d1_65) rfl rfl #[.val (.ref a_DM), .val (.ref u), .val .null, .val (.long rc), .second, .val (.int k), .val (.long (0 : Int64)), .second, .val (.long ((0 : Int64) + (((s0).toInt64) * ((s0).toInt64)))), .second, .val (.int ((0 : Int32) + (1 : Int32)))] rfl ?_
  show Go p e below _ T1 (mkF m 68 #[.val (.ref a_DM), .val (.ref u), .val .null, .val (.long rc), .second, .val (.int k), .val (.long (0 : Int64)), .second, .val (.long ((0 : Int64) + (((s0).toInt64) * ((s0).toInt64)))), .second, .val (.int ((0 : Int32) + (1 : Int32)))] [])
  rw [show ((0 : Int32) + (1 : Int32)) = (1 : Int32) from by decide]
  show Go p e below _ T1 (mkF m 68 #[.val (.ref a_DM), .val (.ref u), .val .null, .val (.long rc), .second, .val (.int k), .val (.long (0 : Int64)), .second, .val (.long ((0 : Int64) + (((s0).toInt64) * ((s0).toInt64)))), .second, .val (.int (1 : Int32))] [])
  refine Go.goto X1 hx (hb hby d1_68) rfl 9 (by decide) (by decide) ?_
  refine Go.iload X1 hx (hb hby d1_9) rfl rfl  ?_
  refine Go.aloadN X1 hx (hb hby d1_11) rfl rfl rfl ?_
  refine Go.alen X1 hx hZ Vu e1 (hb hby d1_12) rfl ?_
  refine Go.icmpNo X1 hx (hb hby d1_13) rfl (tlt (by decide : (1 : Int32) < (2 : Int32))).2.1 ?_
  refine Go.aloadN X1 hx (hb hby d1_16) rfl rfl rfl ?_
  refine Go.iload X1 hx (hb hby d1_17) rfl rfl  ?_
  refine Go.iaload X1 hx hZ (.int s1) Vu e1  ⟨by decide, by decide⟩ rfl (hb hby d1_19) rfl ?_
  refine Go.iload X1 hx (hb hby d1_20) rfl rfl  ?_
  refine Go.icmpYes X1 hx (hb hby d1_22) rfl 38 (flt t1).2.1 (by decide) (by decide) ?_
  refine Go.lload X1 hx (hb hby d1_38) rfl rfl  ?_
  refine Go.aloadN X1 hx (hb hby d1_40) rfl rfl rfl ?_
  refine Go.aloadN X1 hx (hb hby d1_41) rfl rfl rfl ?_
  refine Go.iload X1 hx (hb hby d1_42) rfl rfl  ?_
  refine Go.iaload X1 hx hZ (.int s1) Vu e1  ⟨by decide, by decide⟩ rfl (hb hby d1_44) rfl ?_
  refine Go.i2l X1 hx (hb hby d1_45) rfl ?_
  refine Go.aloadN X1 hx (hb hby d1_46) rfl rfl rfl ?_
  refine Go.ifnonnullNo X1 hx (hb hby d1_47) rfl ?_
  refine Go.lconst X1 hx (hb hby d1_50) rfl (0 : Int64) rfl ?_
  refine Go.goto X1 hx (hb hby d1_51) rfl 59 (by decide) (by decide) ?_
  refine Go.pureV X1 hx hZ hown (wd 47 rfl) (wd 48 rfl) (own_nf (args := #[]) (y' := (⟨"com/example/unika/unika/anonymize/RecodingMetric", "evaluate", "([I[IJI)Lcom/example/unika/unika/anonymize/RecodingMetric$Evaluation;"⟩ : MethodName)) rfl (mvT hZ (wd 7 rfl))) (wd 49 rfl) (wd 50 rfl) (wd 16 rfl) (wd 51 rfl) (by decide) [(.long ((s1).toInt64)), (.long (0 : Int64))] [(.long ((0 : Int64) + (((s0).toInt64) * ((s0).toInt64))))] (E_DM.ext O0.2) (rmK1 l Z a0 hw a_DM ((s1).toInt64) (0 : Int64) h0) e1 rfl (by rw [hml]; rfl) pd_6 rfl (hb hby d1_59) (Nat.le_of_ble_eq_true rfl) (Nat.le_of_ble_eq_true rfl) (Nat.le_of_ble_eq_true rfl) (Nat.le_of_ble_eq_true rfl) ?_
  intro T2 X2 e2
  refine Go.ladd X2 hx (hb hby d1_62) rfl ?_
  refine Go.lstore X2 hx (hb hby d1_63) rfl  #[.val (.ref a_DM), .val (.ref u), .val .null, .val (.long rc), .second, .val (.int k), .val (.long (0 : Int64)), .second, .val (.long (((0 : Int64) + (((s0).toInt64) * ((s0).toInt64))) + (((s1).toInt64) * ((s1).toInt64)))), .second, .val (.int (1 : Int32))] rfl ?_
  refine Go.iinc X2 hx (hb hby d1_65) rfl rfl #[.val (.ref a_DM), .val (.ref u), .val .null, .val (.long rc), .second, .val (.int k), .val (.long (0 : Int64)), .second, .val (.long (((0 : Int64) + (((s0).toInt64) * ((s0).toInt64))) + (((s1).toInt64) * ((s1).toInt64)))), .second, .val (.int ((1 : Int32) + (1 : Int32)))] rfl ?_
  show Go p e below _ T2 (mkF m 68 #[.val (.ref a_DM), .val (.ref u), .val .null, .val (.long rc), .second, .val (.int k), .val (.long (0 : Int64)), .second, .val (.long (((0 : Int64) + (((s0).toInt64) * ((s0).toInt64))) + (((s1).toInt64) * ((s1).toInt64)))), .second, .val (.int ((1 : Int32) + (1 : Int32)))] [])
  rw [show ((1 : Int32) + (1 : Int32)) = (2 : Int32) from by decide]
  show Go p e below _ T2 (mkF m 68 #[.val (.ref a_DM), .val (.ref u), .val .null, .val (.long rc), .second, .val (.int k), .val (.long (0 : Int64)), .second, .val (.long (((0 : Int64) + (((s0).toInt64) * ((s0).toInt64))) + (((s1).toInt64) * ((s1).toInt64)))), .second, .val (.int (2 : Int32))] [])
  refine Go.goto X2 hx (hb hby d1_68) rfl 9 (by decide) (by decide) ?_
  refine Go.iload X2 hx (hb hby d1_9) rfl rfl  ?_
  refine Go.aloadN X2 hx (hb hby d1_11) rfl rfl rfl ?_
  refine Go.alen X2 hx hZ Vu e2 (hb hby d1_12) rfl ?_
  refine Go.icmpYes X2 hx (hb hby d1_13) rfl 71 (flt (by decide : ¬ ((2 : Int32) < (2 : Int32)))).2.1 (by decide) (by decide) ?_
  refine Go.newO X2 hx hZ hown (wd 9 rfl) (wd 10 rfl) (wd 11 rfl) e2 (hb hby d1_71) rfl (Nat.le_of_ble_eq_true rfl) (Nat.le_of_ble_eq_true rfl) ?_
  intro T3 h3 b3 g3 X3 e3 E3 A3 D3
  have F4 : Fld Z h3 b3 "com/example/unika/unika/anonymize/RecodingMetric$Evaluation" "suppressedRows" "J" (.long (0 : Int64)) := D3 (Or.inr (wd 30 rfl)) (ty := .long) (by decide)
  have F5 : Fld Z h3 b3 "com/example/unika/unika/anonymize/RecodingMetric$Evaluation" "cost" "J" (.long (0 : Int64)) := D3 (Or.inr (wd 32 rfl)) (ty := .long) (by decide)
  have q3 : Z.heap.size ≤ b3 := Nat.le_trans O0.2.1 (Nat.le_of_eq g3.symm)
  have z3 : h0.size ≤ b3 := Nat.le_trans (Keep.refl h0 []).1 (Nat.le_of_eq g3.symm)
  have ne_u_b3 : u ≠ b3 := Nat.ne_of_lt (Nat.lt_of_lt_of_le Vu.lt (Nat.le_of_eq g3.symm))
  have K6 := (Keep.refl h0 []).ext E3
  have O7 := O0.ext E3
  have V8 := Vu.ext E3
  refine Go.dup X3 hx (hb hby d1_74) rfl rfl ?_
  refine Go.lload X3 hx (hb hby d1_75) rfl rfl  ?_
  refine Go.lload X3 hx (hb hby d1_77) rfl rfl  ?_
  refine Go.lload X3 hx (hb hby d1_79) rfl rfl  ?_
  refine Go.aloadN X3 hx (hb hby d1_81) rfl rfl rfl ?_
  refine Go.lloadN X3 hx (hb hby d1_82) rfl rfl  ?_
  refine Go.pureV X3 hx hZ hown (wd 12 rfl) (wd 13 rfl) (own_nf (args := #[]) (y' := (⟨"com/example/unika/unika/anonymize/RecodingMetric", "evaluate", "([I[IJI)Lcom/example/unika/unika/anonymize/RecodingMetric$Evaluation;"⟩ : MethodName)) rfl (mvT hZ (wd 7 rfl))) (wd 14 rfl) (wd 15 rfl) (wd 16 rfl) (wd 17 rfl) (by decide) [(.long rc)] [(.long (0 : Int64)), (.long (((0 : Int64) + (((s0).toInt64) * ((s0).toInt64))) + (((s1).toInt64) * ((s1).toInt64)))), (.long (0 : Int64)), (.ref b3), (.ref b3)] (E_DM.ext O7.2) (rmV1 l Z a0 hw a_DM rc h3) e3 rfl (by rw [hml]; rfl) pd_1 rfl (hb hby d1_83) (Nat.le_of_ble_eq_true rfl) (Nat.le_of_ble_eq_true rfl) (Nat.le_of_ble_eq_true rfl) (Nat.le_of_ble_eq_true rfl) ?_
  intro T9 X9 e9
  refine Go.lmul X9 hx (hb hby d1_86) rfl ?_
  refine Go.ladd X9 hx (hb hby d1_87) rfl ?_
  refine Go.callI X9 hx hZ rfl hown (wd 18 rfl) (wd 19 rfl) (wd 11 rfl) (wd 20 rfl) (by decide) [(.long (0 : Int64)), (.long ((((0 : Int64) + (((s0).toInt64) * ((s0).toInt64))) + (((s1).toInt64) * ((s1).toInt64))) + ((0 : Int64) * rc)))] [(.ref b3)] (rmE l Z a0 hw b3 (0 : Int64) ((((0 : Int64) + (((s0).toInt64) * ((s0).toInt64))) + (((s1).toInt64) * ((s1).toInt64))) + ((0 : Int64) * rc)) h3 O7 A3 q3 F4 F5) e9 rfl (by rw [hml]; rfl) pd_2 rfl (hb hby d1_88) (Nat.le_of_ble_eq_true rfl) (Nat.le_of_ble_eq_true rfl) (Nat.le_of_ble_eq_true rfl) (Nat.le_of_ble_eq_true rfl) ?_
  rintro vv10 T10 L10 X10 Q10
  obtain ⟨rfl, N10, K10, E10, Fs10, Fc10⟩ := Q10
  have M11 := Fr.app (Fr.nil _) N10
  have O12 := O7.keep K10 (allS q3 (all0))
  have K13 := Keep.trans K6 K10 (allS (Or.inr z3) (all0))
  have V14 := V8.keep K10 (ninS ne_u_b3 (nin0))
  have E15 := A3.keep K10
  exact Go.retA X10 hx hret hlk rfl rfl (hb hby d1_91) rfl ⟨b3, rfl, M11, K13, z3, E10, Fs10, Fc10⟩ (Nat.le_of_ble_eq_true rfl) (Nat.le_of_ble_eq_true rfl)
set_option maxRecDepth 65536 in
set_option maxHeartbeats 40000000 in
theorem rmEv100 (l : Launch) (Z : State) (a0 : Array Value) (hw : ∀ d ∈ tables_1, d.before a0 Z = true) (u w : Addr) (ku kw : ClassId) (rc : Int64) (k : Int32) (a_DM : Addr) (a_CM : Addr) (h0 : Heap) (O0 : Old Z Z.heap.size h0) (FF : Facts Z a_DM a_CM) (Vu : Arv Z h0 u ku .int (0 : Int32) [] (.int (0 : Int32))) (Vw : Arv Z h0 w kw .int (0 : Int32) [] (.int (0 : Int32))) : Ctr l Z (⟨"com/example/unika/unika/anonymize/RecodingMetric", "evaluate", "([I[IJI)Lcom/example/unika/unika/anonymize/RecodingMetric$Evaluation;"⟩ : MethodName) prog_39_method_13_code 11 (some (.object "com/example/unika/unika/anonymize/RecodingMetric$Evaluation")) ({ frames := 3, cells := 1, slots := 2, locals := 41 } : Room) #[(.ref a_CM), (.ref u), (.ref w), (.long rc), (.int k)] h0 (fun v h L => ∃ b : Addr, v = some (.ref b) ∧ Fr Z.heap.size L ∧ Keep h0 h [] ∧ h0.size ≤ b ∧ Exa Z h b "com/example/unika/unika/anonymize/RecodingMetric$Evaluation" ∧ Fld Z h b "com/example/unika/unika/anonymize/RecodingMetric$Evaluation" "suppressedRows" "J" (.long (0 : Int64)) ∧ Fld Z h b "com/example/unika/unika/anonymize/RecodingMetric$Evaluation" "cost" "J" (.long (0 : Int64))) := by
  refine Ctr.of (plainFor_of_name pn_1) ?_
  have wd : ∀ {d : Jvm.Cond} (i : Nat), tables_1[i]? = some d → d.before a0 Z = true := fun i q => hw _ (List.mem_of_getElem? q)
  intro p e s m below meth c s₁ hx hby hml hown hnm hret hlk hZ X0 e0
  have FF' := FF
  obtain ⟨S_DM, E_DM, S_CM, E_CM, ne_DM_CM⟩ := FF'
  refine Go.cast (ef_1 m a_CM u w rc k) ?_
  show Go p e below _ s₁ (mkF m 0 #[.val (.ref a_CM), .val (.ref u), .val (.ref w), .val (.long rc), .second, .val (.int k), .unset, .unset, .unset, .unset, .unset] [])
  refine Go.lconst X0 hx (hb hby d1_0) rfl (0 : Int64) rfl ?_
  refine Go.lstore X0 hx (hb hby d1_1) rfl  #[.val (.ref a_CM), .val (.ref u), .val (.ref w), .val (.long rc), .second, .val (.int k), .val (.long (0 : Int64)), .second, .unset, .unset, .unset] rfl ?_
  refine Go.lconst X0 hx (hb hby d1_3) rfl (0 : Int64) rfl ?_
  refine Go.lstore X0 hx (hb hby d1_4) rfl  #[.val (.ref a_CM), .val (.ref u), .val (.ref w), .val (.long rc), .second, .val (.int k), .val (.long (0 : Int64)), .second, .val (.long (0 : Int64)), .second, .unset] rfl ?_
  refine Go.iconst X0 hx (hb hby d1_6) rfl (0 : Int32) rfl ?_
  refine Go.istore X0 hx (hb hby d1_7) rfl  #[.val (.ref a_CM), .val (.ref u), .val (.ref w), .val (.long rc), .second, .val (.int k), .val (.long (0 : Int64)), .second, .val (.long (0 : Int64)), .second, .val (.int (0 : Int32))] rfl ?_
  refine Go.iload X0 hx (hb hby d1_9) rfl rfl  ?_
  refine Go.aloadN X0 hx (hb hby d1_11) rfl rfl rfl ?_
  refine Go.alen X0 hx hZ Vu e0 (hb hby d1_12) rfl ?_
  refine Go.icmpYes X0 hx (hb hby d1_13) rfl 71 (flt (by decide : ¬ ((0 : Int32) < (0 : Int32)))).2.1 (by decide) (by decide) ?_
  refine Go.newO X0 hx hZ hown (wd 9 rfl) (wd 10 rfl) (wd 11 rfl) e0 (hb hby d1_71) rfl (Nat.le_of_ble_eq_true rfl) (Nat.le_of_ble_eq_true rfl) ?_
  intro T1 h1 b1 g1 X1 e1 E1 A1 D1
  have F2 : Fld Z h1 b1 "com/example/unika/unika/anonymize/RecodingMetric$Evaluation" "suppressedRows" "J" (.long (0 : Int64)) := D1 (Or.inr (wd 30 rfl)) (ty := .long) (by decide)
  have F3 : Fld Z h1 b1 "com/example/unika/unika/anonymize/RecodingMetric$Evaluation" "cost" "J" (.long (0 : Int64)) := D1 (Or.inr (wd 32 rfl)) (ty := .long) (by decide)
  have q1 : Z.heap.size ≤ b1 := Nat.le_trans O0.2.1 (Nat.le_of_eq g1.symm)
  have z1 : h0.size ≤ b1 := Nat.le_trans (Keep.refl h0 []).1 (Nat.le_of_eq g1.symm)
  have ne_u_b1 : u ≠ b1 := Nat.ne_of_lt (Nat.lt_of_lt_of_le Vu.lt (Nat.le_of_eq g1.symm))
  have ne_w_b1 : w ≠ b1 := Nat.ne_of_lt (Nat.lt_of_lt_of_le Vw.lt (Nat.le_of_eq g1.symm))
  have K4 := (Keep.refl h0 []).ext E1
  have O5 := O0.ext E1
  have V6 := Vu.ext E1
  have V7 := Vw.ext E1
  refine Go.dup X1 hx (hb hby d1_74) rfl rfl ?_
  refine Go.lload X1 hx (hb hby d1_75) rfl rfl  ?_
  refine Go.lload X1 hx (hb hby d1_77) rfl rfl  ?_
  refine Go.lload X1 hx (hb hby d1_79) rfl rfl  ?_
  refine Go.aloadN X1 hx (hb hby d1_81) rfl rfl rfl ?_
  refine Go.lloadN X1 hx (hb hby d1_82) rfl rfl  ?_
  refine Go.pureV X1 hx hZ hown (wd 12 rfl) (wd 13 rfl) (own_nf (args := #[]) (y' := (⟨"com/example/unika/unika/anonymize/RecodingMetric", "evaluate", "([I[IJI)Lcom/example/unika/unika/anonymize/RecodingMetric$Evaluation;"⟩ : MethodName)) rfl (mvT hZ (wd 7 rfl))) (wd 59 rfl) (wd 60 rfl) (wd 57 rfl) (wd 61 rfl) (by decide) [(.long rc)] [(.long (0 : Int64)), (.long (0 : Int64)), (.long (0 : Int64)), (.ref b1), (.ref b1)] (E_CM.ext O5.2) (rmV2 l Z a0 hw a_CM rc h1) e1 rfl (by rw [hml]; rfl) pd_1 rfl (hb hby d1_83) (Nat.le_of_ble_eq_true rfl) (Nat.le_of_ble_eq_true rfl) (Nat.le_of_ble_eq_true rfl) (Nat.le_of_ble_eq_true rfl) ?_
  intro T8 X8 e8
  refine Go.lmul X8 hx (hb hby d1_86) rfl ?_
  show Go p e below _ T8 (mkF m 87 #[.val (.ref a_CM), .val (.ref u), .val (.ref w), .val (.long rc), .second, .val (.int k), .val (.long (0 : Int64)), .second, .val (.long (0 : Int64)), .second, .val (.int (0 : Int32))] [(.long ((0 : Int64) * (1 : Int64))), (.long (0 : Int64)), (.long (0 : Int64)), (.ref b1), (.ref b1)])
  rw [show ((0 : Int64) * (1 : Int64)) = (0 : Int64) from by decide]
  refine Go.ladd X8 hx (hb hby d1_87) rfl ?_
  show Go p e below _ T8 (mkF m 88 #[.val (.ref a_CM), .val (.ref u), .val (.ref w), .val (.long rc), .second, .val (.int k), .val (.long (0 : Int64)), .second, .val (.long (0 : Int64)), .second, .val (.int (0 : Int32))] [(.long ((0 : Int64) + (0 : Int64))), (.long (0 : Int64)), (.ref b1), (.ref b1)])
  rw [show ((0 : Int64) + (0 : Int64)) = (0 : Int64) from by decide]
  refine Go.callI X8 hx hZ rfl hown (wd 18 rfl) (wd 19 rfl) (wd 11 rfl) (wd 20 rfl) (by decide) [(.long (0 : Int64)), (.long (0 : Int64))] [(.ref b1)] (rmE l Z a0 hw b1 (0 : Int64) (0 : Int64) h1 O5 A1 q1 F2 F3) e8 rfl (by rw [hml]; rfl) pd_2 rfl (hb hby d1_88) (Nat.le_of_ble_eq_true rfl) (Nat.le_of_ble_eq_true rfl) (Nat.le_of_ble_eq_true rfl) (Nat.le_of_ble_eq_true rfl) ?_
  rintro vv9 T9 L9 X9 Q9
  obtain ⟨rfl, N9, K9, E9, Fs9, Fc9⟩ := Q9
  have M10 := Fr.app (Fr.nil _) N9
  have O11 := O5.keep K9 (allS q1 (all0))
  have K12 := Keep.trans K4 K9 (allS (Or.inr z1) (all0))
  have V13 := V6.keep K9 (ninS ne_u_b1 (nin0))
  have V14 := V7.keep K9 (ninS ne_w_b1 (nin0))
  have E15 := A1.keep K9
  exact Go.retA X9 hx hret hlk rfl rfl (hb hby d1_91) rfl ⟨b1, rfl, M10, K12, z1, E9, Fs9, Fc9⟩ (Nat.le_of_ble_eq_true rfl) (Nat.le_of_ble_eq_true rfl)
set_option maxRecDepth 65536 in
set_option maxHeartbeats 40000000 in
theorem rmEv101t (l : Launch) (Z : State) (a0 : Array Value) (hw : ∀ d ∈ tables_1, d.before a0 Z = true) (u w : Addr) (ku kw : ClassId) (s0 m0 : Int32) (rc : Int64) (k : Int32) (a_DM : Addr) (a_CM : Addr) (h0 : Heap) (O0 : Old Z Z.heap.size h0) (FF : Facts Z a_DM a_CM) (Vu : Arv Z h0 u ku .int (1 : Int32) [(.int s0)] (.int (0 : Int32))) (Vw : Arv Z h0 w kw .int (1 : Int32) [(.int m0)] (.int (0 : Int32))) (t0 : s0 < k) : Ctr l Z (⟨"com/example/unika/unika/anonymize/RecodingMetric", "evaluate", "([I[IJI)Lcom/example/unika/unika/anonymize/RecodingMetric$Evaluation;"⟩ : MethodName) prog_39_method_13_code 11 (some (.object "com/example/unika/unika/anonymize/RecodingMetric$Evaluation")) ({ frames := 3, cells := 1, slots := 2, locals := 41 } : Room) #[(.ref a_CM), (.ref u), (.ref w), (.long rc), (.int k)] h0 (fun v h L => ∃ b : Addr, v = some (.ref b) ∧ Fr Z.heap.size L ∧ Keep h0 h [] ∧ h0.size ≤ b ∧ Exa Z h b "com/example/unika/unika/anonymize/RecodingMetric$Evaluation" ∧ Fld Z h b "com/example/unika/unika/anonymize/RecodingMetric$Evaluation" "suppressedRows" "J" (.long ((0 : Int64) + ((s0).toInt64))) ∧ Fld Z h b "com/example/unika/unika/anonymize/RecodingMetric$Evaluation" "cost" "J" (.long ((0 : Int64) + (((0 : Int64) + ((s0).toInt64)) * (1 : Int64))))) := by
  refine Ctr.of (plainFor_of_name pn_1) ?_
  have wd : ∀ {d : Jvm.Cond} (i : Nat), tables_1[i]? = some d → d.before a0 Z = true := fun i q => hw _ (List.mem_of_getElem? q)
  intro p e s m below meth c s₁ hx hby hml hown hnm hret hlk hZ X0 e0
  have FF' := FF
  obtain ⟨S_DM, E_DM, S_CM, E_CM, ne_DM_CM⟩ := FF'
  refine Go.cast (ef_1 m a_CM u w rc k) ?_
  show Go p e below _ s₁ (mkF m 0 #[.val (.ref a_CM), .val (.ref u), .val (.ref w), .val (.long rc), .second, .val (.int k), .unset, .unset, .unset, .unset, .unset] [])
  refine Go.lconst X0 hx (hb hby d1_0) rfl (0 : Int64) rfl ?_
  refine Go.lstore X0 hx (hb hby d1_1) rfl  #[.val (.ref a_CM), .val (.ref u), .val (.ref w), .val (.long rc), .second, .val (.int k), .val (.long (0 : Int64)), .second, .unset, .unset, .unset] rfl ?_
  refine Go.lconst X0 hx (hb hby d1_3) rfl (0 : Int64) rfl ?_
  refine Go.lstore X0 hx (hb hby d1_4) rfl  #[.val (.ref a_CM), .val (.ref u), .val (.ref w), .val (.long rc), .second, .val (.int k), .val (.long (0 : Int64)), .second, .val (.long (0 : Int64)), .second, .unset] rfl ?_
  refine Go.iconst X0 hx (hb hby d1_6) rfl (0 : Int32) rfl ?_
  refine Go.istore X0 hx (hb hby d1_7) rfl  #[.val (.ref a_CM), .val (.ref u), .val (.ref w), .val (.long rc), .second, .val (.int k), .val (.long (0 : Int64)), .second, .val (.long (0 : Int64)), .second, .val (.int (0 : Int32))] rfl ?_
  refine Go.iload X0 hx (hb hby d1_9) rfl rfl  ?_
  refine Go.aloadN X0 hx (hb hby d1_11) rfl rfl rfl ?_
  refine Go.alen X0 hx hZ Vu e0 (hb hby d1_12) rfl ?_
  refine Go.icmpNo X0 hx (hb hby d1_13) rfl (tlt (by decide : (0 : Int32) < (1 : Int32))).2.1 ?_
  refine Go.aloadN X0 hx (hb hby d1_16) rfl rfl rfl ?_
  refine Go.iload X0 hx (hb hby d1_17) rfl rfl  ?_
  refine Go.iaload X0 hx hZ (.int s0) Vu e0  ⟨by decide, by decide⟩ rfl (hb hby d1_19) rfl ?_
  refine Go.iload X0 hx (hb hby d1_20) rfl rfl  ?_
  refine Go.icmpNo X0 hx (hb hby d1_22) rfl (tlt t0).2.1 ?_
  refine Go.lload X0 hx (hb hby d1_25) rfl rfl  ?_
  refine Go.aloadN X0 hx (hb hby d1_27) rfl rfl rfl ?_
  refine Go.iload X0 hx (hb hby d1_28) rfl rfl  ?_
  refine Go.iaload X0 hx hZ (.int s0) Vu e0  ⟨by decide, by decide⟩ rfl (hb hby d1_30) rfl ?_
  refine Go.i2l X0 hx (hb hby d1_31) rfl ?_
  refine Go.ladd X0 hx (hb hby d1_32) rfl ?_
  refine Go.lstore X0 hx (hb hby d1_33) rfl  #[.val (.ref a_CM), .val (.ref u), .val (.ref w), .val (.long rc), .second, .val (.int k), .val (.long ((0 : Int64) + ((s0).toInt64))), .second, .val (.long (0 : Int64)), .second, .val (.int (0 : Int32))] rfl ?_
  refine Go.goto X0 hx (hb hby d1_35) rfl 65 (by decide) (by decide) ?_
  refine Go.iinc X0 hx (hb hby d1_65) rfl rfl #[.val (.ref a_CM), .val (.ref u), .val (.ref w), .val (.long rc), .second, .val (.int k), .val (.long ((0 : Int64) + ((s0).toInt64))), .second, .val (.long (0 : Int64)), .second, .val (.int ((0 : Int32) + (1 : Int32)))] rfl ?_
  show Go p e below _ s₁ (mkF m 68 #[.val (.ref a_CM), .val (.ref u), .val (.ref w), .val (.long rc), .second, .val (.int k), .val (.long ((0 : Int64) + ((s0).toInt64))), .second, .val (.long (0 : Int64)), .second, .val (.int ((0 : Int32) + (1 : Int32)))] [])
  rw [show ((0 : Int32) + (1 : Int32)) = (1 : Int32) from by decide]
  show Go p e below _ s₁ (mkF m 68 #[.val (.ref a_CM), .val (.ref u), .val (.ref w), .val (.long rc), .second, .val (.int k), .val (.long ((0 : Int64) + ((s0).toInt64))), .second, .val (.long (0 : Int64)), .second, .val (.int (1 : Int32))] [])
  refine Go.goto X0 hx (hb hby d1_68) rfl 9 (by decide) (by decide) ?_
  refine Go.iload X0 hx (hb hby d1_9) rfl rfl  ?_
  refine Go.aloadN X0 hx (hb hby d1_11) rfl rfl rfl ?_
  refine Go.alen X0 hx hZ Vu e0 (hb hby d1_12) rfl ?_
  refine Go.icmpYes X0 hx (hb hby d1_13) rfl 71 (flt (by decide : ¬ ((1 : Int32) < (1 : Int32)))).2.1 (by decide) (by decide) ?_
  refine Go.newO X0 hx hZ hown (wd 9 rfl) (wd 10 rfl) (wd 11 rfl) e0 (hb hby d1_71) rfl (Nat.le_of_ble_eq_true rfl) (Nat.le_of_ble_eq_true rfl) ?_
  intro T1 h1 b1 g1 X1 e1 E1 A1 D1
  have F2 : Fld Z h1 b1 "com/example/unika/unika/anonymize/RecodingMetric$Evaluation" "suppressedRows" "J" (.long (0 : Int64)) := D1 (Or.inr (wd 30 rfl)) (ty := .long) (by decide)
  have F3 : Fld Z h1 b1 "com/example/unika/unika/anonymize/RecodingMetric$Evaluation" "cost" "J" (.long (0 : Int64)) := D1 (Or.inr (wd 32 rfl)) (ty := .long) (by decide)
  have q1 : Z.heap.size ≤ b1 := Nat.le_trans O0.2.1 (Nat.le_of_eq g1.symm)
  have z1 : h0.size ≤ b1 := Nat.le_trans (Keep.refl h0 []).1 (Nat.le_of_eq g1.symm)
  have ne_u_b1 : u ≠ b1 := Nat.ne_of_lt (Nat.lt_of_lt_of_le Vu.lt (Nat.le_of_eq g1.symm))
  have ne_w_b1 : w ≠ b1 := Nat.ne_of_lt (Nat.lt_of_lt_of_le Vw.lt (Nat.le_of_eq g1.symm))
  have K4 := (Keep.refl h0 []).ext E1
  have O5 := O0.ext E1
  have V6 := Vu.ext E1
  have V7 := Vw.ext E1
  refine Go.dup X1 hx (hb hby d1_74) rfl rfl ?_
  refine Go.lload X1 hx (hb hby d1_75) rfl rfl  ?_
  refine Go.lload X1 hx (hb hby d1_77) rfl rfl  ?_
  refine Go.lload X1 hx (hb hby d1_79) rfl rfl  ?_
  refine Go.aloadN X1 hx (hb hby d1_81) rfl rfl rfl ?_
  refine Go.lloadN X1 hx (hb hby d1_82) rfl rfl  ?_
  refine Go.pureV X1 hx hZ hown (wd 12 rfl) (wd 13 rfl) (own_nf (args := #[]) (y' := (⟨"com/example/unika/unika/anonymize/RecodingMetric", "evaluate", "([I[IJI)Lcom/example/unika/unika/anonymize/RecodingMetric$Evaluation;"⟩ : MethodName)) rfl (mvT hZ (wd 7 rfl))) (wd 59 rfl) (wd 60 rfl) (wd 57 rfl) (wd 61 rfl) (by decide) [(.long rc)] [(.long ((0 : Int64) + ((s0).toInt64))), (.long (0 : Int64)), (.long ((0 : Int64) + ((s0).toInt64))), (.ref b1), (.ref b1)] (E_CM.ext O5.2) (rmV2 l Z a0 hw a_CM rc h1) e1 rfl (by rw [hml]; rfl) pd_1 rfl (hb hby d1_83) (Nat.le_of_ble_eq_true rfl) (Nat.le_of_ble_eq_true rfl) (Nat.le_of_ble_eq_true rfl) (Nat.le_of_ble_eq_true rfl) ?_
  intro T8 X8 e8
  refine Go.lmul X8 hx (hb hby d1_86) rfl ?_
  refine Go.ladd X8 hx (hb hby d1_87) rfl ?_
  refine Go.callI X8 hx hZ rfl hown (wd 18 rfl) (wd 19 rfl) (wd 11 rfl) (wd 20 rfl) (by decide) [(.long ((0 : Int64) + ((s0).toInt64))), (.long ((0 : Int64) + (((0 : Int64) + ((s0).toInt64)) * (1 : Int64))))] [(.ref b1)] (rmE l Z a0 hw b1 ((0 : Int64) + ((s0).toInt64)) ((0 : Int64) + (((0 : Int64) + ((s0).toInt64)) * (1 : Int64))) h1 O5 A1 q1 F2 F3) e8 rfl (by rw [hml]; rfl) pd_2 rfl (hb hby d1_88) (Nat.le_of_ble_eq_true rfl) (Nat.le_of_ble_eq_true rfl) (Nat.le_of_ble_eq_true rfl) (Nat.le_of_ble_eq_true rfl) ?_
  rintro vv9 T9 L9 X9 Q9
  obtain ⟨rfl, N9, K9, E9, Fs9, Fc9⟩ := Q9
  have M10 := Fr.app (Fr.nil _) N9
  have O11 := O5.keep K9 (allS q1 (all0))
  have K12 := Keep.trans K4 K9 (allS (Or.inr z1) (all0))
  have V13 := V6.keep K9 (ninS ne_u_b1 (nin0))
  have V14 := V7.keep K9 (ninS ne_w_b1 (nin0))
  have E15 := A1.keep K9
  exact Go.retA X9 hx hret hlk rfl rfl (hb hby d1_91) rfl ⟨b1, rfl, M10, K12, z1, E9, Fs9, Fc9⟩ (Nat.le_of_ble_eq_true rfl) (Nat.le_of_ble_eq_true rfl)
set_option maxRecDepth 65536 in
set_option maxHeartbeats 40000000 in
theorem rmEv101f (l : Launch) (Z : State) (a0 : Array Value) (hw : ∀ d ∈ tables_1, d.before a0 Z = true) (u w : Addr) (ku kw : ClassId) (s0 m0 : Int32) (rc : Int64) (k : Int32) (a_DM : Addr) (a_CM : Addr) (h0 : Heap) (O0 : Old Z Z.heap.size h0) (FF : Facts Z a_DM a_CM) (Vu : Arv Z h0 u ku .int (1 : Int32) [(.int s0)] (.int (0 : Int32))) (Vw : Arv Z h0 w kw .int (1 : Int32) [(.int m0)] (.int (0 : Int32))) (t0 : ¬ s0 < k) : Ctr l Z (⟨"com/example/unika/unika/anonymize/RecodingMetric", "evaluate", "([I[IJI)Lcom/example/unika/unika/anonymize/RecodingMetric$Evaluation;"⟩ : MethodName) prog_39_method_13_code 11 (some (.object "com/example/unika/unika/anonymize/RecodingMetric$Evaluation")) ({ frames := 3, cells := 1, slots := 2, locals := 41 } : Room) #[(.ref a_CM), (.ref u), (.ref w), (.long rc), (.int k)] h0 (fun v h L => ∃ b : Addr, v = some (.ref b) ∧ Fr Z.heap.size L ∧ Keep h0 h [] ∧ h0.size ≤ b ∧ Exa Z h b "com/example/unika/unika/anonymize/RecodingMetric$Evaluation" ∧ Fld Z h b "com/example/unika/unika/anonymize/RecodingMetric$Evaluation" "suppressedRows" "J" (.long (0 : Int64)) ∧ Fld Z h b "com/example/unika/unika/anonymize/RecodingMetric$Evaluation" "cost" "J" (.long (((0 : Int64) + (((s0).toInt64) - ((m0).toInt64))) + (0 : Int64)))) := by
  refine Ctr.of (plainFor_of_name pn_1) ?_
  have wd : ∀ {d : Jvm.Cond} (i : Nat), tables_1[i]? = some d → d.before a0 Z = true := fun i q => hw _ (List.mem_of_getElem? q)
  intro p e s m below meth c s₁ hx hby hml hown hnm hret hlk hZ X0 e0
  have FF' := FF
  obtain ⟨S_DM, E_DM, S_CM, E_CM, ne_DM_CM⟩ := FF'
  refine Go.cast (ef_1 m a_CM u w rc k) ?_
  show Go p e below _ s₁ (mkF m 0 #[.val (.ref a_CM), .val (.ref u), .val (.ref w), .val (.long rc), .second, .val (.int k), .unset, .unset, .unset, .unset, .unset] [])
  refine Go.lconst X0 hx (hb hby d1_0) rfl (0 : Int64) rfl ?_
  refine Go.lstore X0 hx (hb hby d1_1) rfl  #[.val (.ref a_CM), .val (.ref u), .val (.ref w), .val (.long rc), .second, .val (.int k), .val (.long (0 : Int64)), .second, .unset, .unset, .unset] rfl ?_
  refine Go.lconst X0 hx (hb hby d1_3) rfl (0 : Int64) rfl ?_
  refine Go.lstore X0 hx (hb hby d1_4) rfl  #[.val (.ref a_CM), .val (.ref u), .val (.ref w), .val (.long rc), .second, .val (.int k), .val (.long (0 : Int64)), .second, .val (.long (0 : Int64)), .second, .unset] rfl ?_
  refine Go.iconst X0 hx (hb hby d1_6) rfl (0 : Int32) rfl ?_
  refine Go.istore X0 hx (hb hby d1_7) rfl  #[.val (.ref a_CM), .val (.ref u), .val (.ref w), .val (.long rc), .second, .val (.int k), .val (.long (0 : Int64)), .second, .val (.long (0 : Int64)), .second, .val (.int (0 : Int32))] rfl ?_
  refine Go.iload X0 hx (hb hby d1_9) rfl rfl  ?_
  refine Go.aloadN X0 hx (hb hby d1_11) rfl rfl rfl ?_
  refine Go.alen X0 hx hZ Vu e0 (hb hby d1_12) rfl ?_
  refine Go.icmpNo X0 hx (hb hby d1_13) rfl (tlt (by decide : (0 : Int32) < (1 : Int32))).2.1 ?_
  refine Go.aloadN X0 hx (hb hby d1_16) rfl rfl rfl ?_
  refine Go.iload X0 hx (hb hby d1_17) rfl rfl  ?_
  refine Go.iaload X0 hx hZ (.int s0) Vu e0  ⟨by decide, by decide⟩ rfl (hb hby d1_19) rfl ?_
  refine Go.iload X0 hx (hb hby d1_20) rfl rfl  ?_
  refine Go.icmpYes X0 hx (hb hby d1_22) rfl 38 (flt t0).2.1 (by decide) (by decide) ?_
  refine Go.lload X0 hx (hb hby d1_38) rfl rfl  ?_
  refine Go.aloadN X0 hx (hb hby d1_40) rfl rfl rfl ?_
  refine Go.aloadN X0 hx (hb hby d1_41) rfl rfl rfl ?_
  refine Go.iload X0 hx (hb hby d1_42) rfl rfl  ?_
  refine Go.iaload X0 hx hZ (.int s0) Vu e0  ⟨by decide, by decide⟩ rfl (hb hby d1_44) rfl ?_
  refine Go.i2l X0 hx (hb hby d1_45) rfl ?_
  refine Go.aloadN X0 hx (hb hby d1_46) rfl rfl rfl ?_
  refine Go.ifnonnullYes X0 hx (hb hby d1_47) rfl 54 (by decide) (by decide) ?_
  refine Go.aloadN X0 hx (hb hby d1_54) rfl rfl rfl ?_
  refine Go.iload X0 hx (hb hby d1_55) rfl rfl  ?_
  refine Go.iaload X0 hx hZ (.int m0) Vw e0  ⟨by decide, by decide⟩ rfl (hb hby d1_57) rfl ?_
  refine Go.i2l X0 hx (hb hby d1_58) rfl ?_
  refine Go.pureV X0 hx hZ hown (wd 47 rfl) (wd 48 rfl) (own_nf (args := #[]) (y' := (⟨"com/example/unika/unika/anonymize/RecodingMetric", "evaluate", "([I[IJI)Lcom/example/unika/unika/anonymize/RecodingMetric$Evaluation;"⟩ : MethodName)) rfl (mvT hZ (wd 7 rfl))) (wd 55 rfl) (wd 56 rfl) (wd 57 rfl) (wd 58 rfl) (by decide) [(.long ((s0).toInt64)), (.long ((m0).toInt64))] [(.long (0 : Int64))] (E_CM.ext O0.2) (rmK2 l Z a0 hw a_CM ((s0).toInt64) ((m0).toInt64) h0) e0 rfl (by rw [hml]; rfl) pd_6 rfl (hb hby d1_59) (Nat.le_of_ble_eq_true rfl) (Nat.le_of_ble_eq_true rfl) (Nat.le_of_ble_eq_true rfl) (Nat.le_of_ble_eq_true rfl) ?_
  intro T1 X1 e1
  refine Go.ladd X1 hx (hb hby d1_62) rfl ?_
  refine Go.lstore X1 hx (hb hby d1_63) rfl  #[.val (.ref a_CM), .val (.ref u), .val (.ref w), .val (.long rc), .second, .val (.int k), .val (.long (0 : Int64)), .second, .val (.long ((0 : Int64) + (((s0).toInt64) - ((m0).toInt64)))), .second, .val (.int (0 : Int32))] rfl ?_
  refine Go.iinc X1 hx (hb hby d1_65) rfl rfl #[.val (.ref a_CM), .val (.ref u), .val (.ref w), .val (.long rc), .second, .val (.int k), .val (.long (0 : Int64)), .second, .val (.long ((0 : Int64) + (((s0).toInt64) - ((m0).toInt64)))), .second, .val (.int ((0 : Int32) + (1 : Int32)))] rfl ?_
  show Go p e below _ T1 (mkF m 68 #[.val (.ref a_CM), .val (.ref u), .val (.ref w), .val (.long rc), .second, .val (.int k), .val (.long (0 : Int64)), .second, .val (.long ((0 : Int64) + (((s0).toInt64) - ((m0).toInt64)))), .second, .val (.int ((0 : Int32) + (1 : Int32)))] [])
  rw [show ((0 : Int32) + (1 : Int32)) = (1 : Int32) from by decide]
  show Go p e below _ T1 (mkF m 68 #[.val (.ref a_CM), .val (.ref u), .val (.ref w), .val (.long rc), .second, .val (.int k), .val (.long (0 : Int64)), .second, .val (.long ((0 : Int64) + (((s0).toInt64) - ((m0).toInt64)))), .second, .val (.int (1 : Int32))] [])
  refine Go.goto X1 hx (hb hby d1_68) rfl 9 (by decide) (by decide) ?_
  refine Go.iload X1 hx (hb hby d1_9) rfl rfl  ?_
  refine Go.aloadN X1 hx (hb hby d1_11) rfl rfl rfl ?_
  refine Go.alen X1 hx hZ Vu e1 (hb hby d1_12) rfl ?_
  refine Go.icmpYes X1 hx (hb hby d1_13) rfl 71 (flt (by decide : ¬ ((1 : Int32) < (1 : Int32)))).2.1 (by decide) (by decide) ?_
  refine Go.newO X1 hx hZ hown (wd 9 rfl) (wd 10 rfl) (wd 11 rfl) e1 (hb hby d1_71) rfl (Nat.le_of_ble_eq_true rfl) (Nat.le_of_ble_eq_true rfl) ?_
  intro T2 h2 b2 g2 X2 e2 E2 A2 D2
  have F3 : Fld Z h2 b2 "com/example/unika/unika/anonymize/RecodingMetric$Evaluation" "suppressedRows" "J" (.long (0 : Int64)) := D2 (Or.inr (wd 30 rfl)) (ty := .long) (by decide)
  have F4 : Fld Z h2 b2 "com/example/unika/unika/anonymize/RecodingMetric$Evaluation" "cost" "J" (.long (0 : Int64)) := D2 (Or.inr (wd 32 rfl)) (ty := .long) (by decide)
  have q2 : Z.heap.size ≤ b2 := Nat.le_trans O0.2.1 (Nat.le_of_eq g2.symm)
  have z2 : h0.size ≤ b2 := Nat.le_trans (Keep.refl h0 []).1 (Nat.le_of_eq g2.symm)
  have ne_u_b2 : u ≠ b2 := Nat.ne_of_lt (Nat.lt_of_lt_of_le Vu.lt (Nat.le_of_eq g2.symm))
  have ne_w_b2 : w ≠ b2 := Nat.ne_of_lt (Nat.lt_of_lt_of_le Vw.lt (Nat.le_of_eq g2.symm))
  have K5 := (Keep.refl h0 []).ext E2
  have O6 := O0.ext E2
  have V7 := Vu.ext E2
  have V8 := Vw.ext E2
  refine Go.dup X2 hx (hb hby d1_74) rfl rfl ?_
  refine Go.lload X2 hx (hb hby d1_75) rfl rfl  ?_
  refine Go.lload X2 hx (hb hby d1_77) rfl rfl  ?_
  refine Go.lload X2 hx (hb hby d1_79) rfl rfl  ?_
  refine Go.aloadN X2 hx (hb hby d1_81) rfl rfl rfl ?_
  refine Go.lloadN X2 hx (hb hby d1_82) rfl rfl  ?_
  refine Go.pureV X2 hx hZ hown (wd 12 rfl) (wd 13 rfl) (own_nf (args := #[]) (y' := (⟨"com/example/unika/unika/anonymize/RecodingMetric", "evaluate", "([I[IJI)Lcom/example/unika/unika/anonymize/RecodingMetric$Evaluation;"⟩ : MethodName)) rfl (mvT hZ (wd 7 rfl))) (wd 59 rfl) (wd 60 rfl) (wd 57 rfl) (wd 61 rfl) (by decide) [(.long rc)] [(.long (0 : Int64)), (.long ((0 : Int64) + (((s0).toInt64) - ((m0).toInt64)))), (.long (0 : Int64)), (.ref b2), (.ref b2)] (E_CM.ext O6.2) (rmV2 l Z a0 hw a_CM rc h2) e2 rfl (by rw [hml]; rfl) pd_1 rfl (hb hby d1_83) (Nat.le_of_ble_eq_true rfl) (Nat.le_of_ble_eq_true rfl) (Nat.le_of_ble_eq_true rfl) (Nat.le_of_ble_eq_true rfl) ?_
  intro T9 X9 e9
  refine Go.lmul X9 hx (hb hby d1_86) rfl ?_
  show Go p e below _ T9 (mkF m 87 #[.val (.ref a_CM), .val (.ref u), .val (.ref w), .val (.long rc), .second, .val (.int k), .val (.long (0 : Int64)), .second, .val (.long ((0 : Int64) + (((s0).toInt64) - ((m0).toInt64)))), .second, .val (.int (1 : Int32))] [(.long ((0 : Int64) * (1 : Int64))), (.long ((0 : Int64) + (((s0).toInt64) - ((m0).toInt64)))), (.long (0 : Int64)), (.ref b2), (.ref b2)])
  rw [show ((0 : Int64) * (1 : Int64)) = (0 : Int64) from by decide]
  refine Go.ladd X9 hx (hb hby d1_87) rfl ?_
  refine Go.callI X9 hx hZ rfl hown (wd 18 rfl) (wd 19 rfl) (wd 11 rfl) (wd 20 rfl) (by decide) [(.long (0 : Int64)), (.long (((0 : Int64) + (((s0).toInt64) - ((m0).toInt64))) + (0 : Int64)))] [(.ref b2)] (rmE l Z a0 hw b2 (0 : Int64) (((0 : Int64) + (((s0).toInt64) - ((m0).toInt64))) + (0 : Int64)) h2 O6 A2 q2 F3 F4) e9 rfl (by rw [hml]; rfl) pd_2 rfl (hb hby d1_88) (Nat.le_of_ble_eq_true rfl) (Nat.le_of_ble_eq_true rfl) (Nat.le_of_ble_eq_true rfl) (Nat.le_of_ble_eq_true rfl) ?_
  rintro vv10 T10 L10 X10 Q10
  obtain ⟨rfl, N10, K10, E10, Fs10, Fc10⟩ := Q10
  have M11 := Fr.app (Fr.nil _) N10
  have O12 := O6.keep K10 (allS q2 (all0))
  have K13 := Keep.trans K5 K10 (allS (Or.inr z2) (all0))
  have V14 := V7.keep K10 (ninS ne_u_b2 (nin0))
  have V15 := V8.keep K10 (ninS ne_w_b2 (nin0))
  have E16 := A2.keep K10
  exact Go.retA X10 hx hret hlk rfl rfl (hb hby d1_91) rfl ⟨b2, rfl, M11, K13, z2, E10, Fs10, Fc10⟩ (Nat.le_of_ble_eq_true rfl) (Nat.le_of_ble_eq_true rfl)
set_option maxRecDepth 65536 in
set_option maxHeartbeats 40000000 in
theorem rmEv102tt (l : Launch) (Z : State) (a0 : Array Value) (hw : ∀ d ∈ tables_1, d.before a0 Z = true) (u w : Addr) (ku kw : ClassId) (s0 s1 m0 m1 : Int32) (rc : Int64) (k : Int32) (a_DM : Addr) (a_CM : Addr) (h0 : Heap) (O0 : Old Z Z.heap.size h0) (FF : Facts Z a_DM a_CM) (Vu : Arv Z h0 u ku .int (2 : Int32) [(.int s0), (.int s1)] (.int (0 : Int32))) (Vw : Arv Z h0 w kw .int (2 : Int32) [(.int m0), (.int m1)] (.int (0 : Int32))) (t0 : s0 < k) (t1 : s1 < k) : Ctr l Z (⟨"com/example/unika/unika/anonymize/RecodingMetric", "evaluate", "([I[IJI)Lcom/example/unika/unika/anonymize/RecodingMetric$Evaluation;"⟩ : MethodName) prog_39_method_13_code 11 (some (.object "com/example/unika/unika/anonymize/RecodingMetric$Evaluation")) ({ frames := 3, cells := 1, slots := 2, locals := 41 } : Room) #[(.ref a_CM), (.ref u), (.ref w), (.long rc), (.int k)] h0 (fun v h L => ∃ b : Addr, v = some (.ref b) ∧ Fr Z.heap.size L ∧ Keep h0 h [] ∧ h0.size ≤ b ∧ Exa Z h b "com/example/unika/unika/anonymize/RecodingMetric$Evaluation" ∧ Fld Z h b "com/example/unika/unika/anonymize/RecodingMetric$Evaluation" "suppressedRows" "J" (.long (((0 : Int64) + ((s0).toInt64)) + ((s1).toInt64))) ∧ Fld Z h b "com/example/unika/unika/anonymize/RecodingMetric$Evaluation" "cost" "J" (.long ((0 : Int64) + ((((0 : Int64) + ((s0).toInt64)) + ((s1).toInt64)) * (1 : Int64))))) := by
  refine Ctr.of (plainFor_of_name pn_1) ?_
  have wd : ∀ {d : Jvm.Cond} (i : Nat), tables_1[i]? = some d → d.before a0 Z = true := fun i q => hw _ (List.mem_of_getElem? q)
  intro p e s m below meth c s₁ hx hby hml hown hnm hret hlk hZ X0 e0
  have FF' := FF
  obtain ⟨S_DM, E_DM, S_CM, E_CM, ne_DM_CM⟩ := FF'
  refine Go.cast (ef_1 m a_CM u w rc k) ?_
  show Go p e below _ s₁ (mkF m 0 #[.val (.ref a_CM), .val (.ref u), .val (.ref w), .val (.long rc), .second, .val (.int k), .unset, .unset, .unset, .unset, .unset] [])
  refine Go.lconst X0 hx (hb hby d1_0) rfl (0 : Int64) rfl ?_
  refine Go.lstore X0 hx (hb hby d1_1) rfl  #[.val (.ref a_CM), .val (.ref u), .val (.ref w), .val (.long rc), .second, .val (.int k), .val (.long (0 : Int64)), .second, .unset, .unset, .unset] rfl ?_
  refine Go.lconst X0 hx (hb hby d1_3) rfl (0 : Int64) rfl ?_
  refine Go.lstore X0 hx (hb hby d1_4) rfl  #[.val (.ref a_CM), .val (.ref u), .val (.ref w), .val (.long rc), .second, .val (.int k), .val (.long (0 : Int64)), .second, .val (.long (0 : Int64)), .second, .unset] rfl ?_
  refine Go.iconst X0 hx (hb hby d1_6) rfl (0 : Int32) rfl ?_
  refine Go.istore X0 hx (hb hby d1_7) rfl  #[.val (.ref a_CM), .val (.ref u), .val (.ref w), .val (.long rc), .second, .val (.int k), .val (.long (0 : Int64)), .second, .val (.long (0 : Int64)), .second, .val (.int (0 : Int32))] rfl ?_
  refine Go.iload X0 hx (hb hby d1_9) rfl rfl  ?_
  refine Go.aloadN X0 hx (hb hby d1_11) rfl rfl rfl ?_
  refine Go.alen X0 hx hZ Vu e0 (hb hby d1_12) rfl ?_
  refine Go.icmpNo X0 hx (hb hby d1_13) rfl (tlt (by decide : (0 : Int32) < (2 : Int32))).2.1 ?_
  refine Go.aloadN X0 hx (hb hby d1_16) rfl rfl rfl ?_
  refine Go.iload X0 hx (hb hby d1_17) rfl rfl  ?_
  refine Go.iaload X0 hx hZ (.int s0) Vu e0  ⟨by decide, by decide⟩ rfl (hb hby d1_19) rfl ?_
  refine Go.iload X0 hx (hb hby d1_20) rfl rfl  ?_
  refine Go.icmpNo X0 hx (hb hby d1_22) rfl (tlt t0).2.1 ?_
  refine Go.lload X0 hx (hb hby d1_25) rfl rfl  ?_
  refine Go.aloadN X0 hx (hb hby d1_27) rfl rfl rfl ?_
  refine Go.iload X0 hx (hb hby d1_28) rfl rfl  ?_
  refine Go.iaload X0 hx hZ (.int s0) Vu e0  ⟨by decide, by decide⟩ rfl (hb hby d1_30) rfl ?_
  refine Go.i2l X0 hx (hb hby d1_31) rfl ?_
  refine Go.ladd X0 hx (hb hby d1_32) rfl ?_
  refine Go.lstore X0 hx (hb hby d1_33) rfl  #[.val (.ref a_CM), .val (.ref u), .val (.ref w), .val (.long rc), .second, .val (.int k), .val (.long ((0 : Int64) + ((s0).toInt64))), .second, .val (.long (0 : Int64)), .second, .val (.int (0 : Int32))] rfl ?_
  refine Go.goto X0 hx (hb hby d1_35) rfl 65 (by decide) (by decide) ?_
  refine Go.iinc X0 hx (hb hby d1_65) rfl rfl #[.val (.ref a_CM), .val (.ref u), .val (.ref w), .val (.long rc), .second, .val (.int k), .val (.long ((0 : Int64) + ((s0).toInt64))), .second, .val (.long (0 : Int64)), .second, .val (.int ((0 : Int32) + (1 : Int32)))] rfl ?_
  show Go p e below _ s₁ (mkF m 68 #[.val (.ref a_CM), .val (.ref u), .val (.ref w), .val (.long rc), .second, .val (.int k), .val (.long ((0 : Int64) + ((s0).toInt64))), .second, .val (.long (0 : Int64)), .second, .val (.int ((0 : Int32) + (1 : Int32)))] [])
  rw [show ((0 : Int32) + (1 : Int32)) = (1 : Int32) from by decide]
  show Go p e below _ s₁ (mkF m 68 #[.val (.ref a_CM), .val (.ref u), .val (.ref w), .val (.long rc), .second, .val (.int k), .val (.long ((0 : Int64) + ((s0).toInt64))), .second, .val (.long (0 : Int64)), .second, .val (.int (1 : Int32))] [])
  refine Go.goto X0 hx (hb hby d1_68) rfl 9 (by decide) (by decide) ?_
  refine Go.iload X0 hx (hb hby d1_9) rfl rfl  ?_
  refine Go.aloadN X0 hx (hb hby d1_11) rfl rfl rfl ?_
  refine Go.alen X0 hx hZ Vu e0 (hb hby d1_12) rfl ?_
  refine Go.icmpNo X0 hx (hb hby d1_13) rfl (tlt (by decide : (1 : Int32) < (2 : Int32))).2.1 ?_
  refine Go.aloadN X0 hx (hb hby d1_16) rfl rfl rfl ?_
  refine Go.iload X0 hx (hb hby d1_17) rfl rfl  ?_
  refine Go.iaload X0 hx hZ (.int s1) Vu e0  ⟨by decide, by decide⟩ rfl (hb hby d1_19) rfl ?_
  refine Go.iload X0 hx (hb hby d1_20) rfl rfl  ?_
  refine Go.icmpNo X0 hx (hb hby d1_22) rfl (tlt t1).2.1 ?_
  refine Go.lload X0 hx (hb hby d1_25) rfl rfl  ?_
  refine Go.aloadN X0 hx (hb hby d1_27) rfl rfl rfl ?_
  refine Go.iload X0 hx (hb hby d1_28) rfl rfl  ?_
  refine Go.iaload X0 hx hZ (.int s1) Vu e0  ⟨by decide, by decide⟩ rfl (hb hby d1_30) rfl ?_
  refine Go.i2l X0 hx (hb hby d1_31) rfl ?_
  refine Go.ladd X0 hx (hb hby d1_32) rfl ?_
  refine Go.lstore X0 hx (hb hby d1_33) rfl  #[.val (.ref a_CM), .val (.ref u), .val (.ref w), .val (.long rc), .second, .val (.int k), .val (.long (((0 : Int64) + ((s0).toInt64)) + ((s1).toInt64))), .second, .val (.long (0 : Int64)), .second, .val (.int (1 : Int32))] rfl ?_
  refine Go.goto X0 hx (hb hby d1_35) rfl 65 (by decide) (by decide) ?_
  refine Go.iinc X0 hx (hb hby d1_65) rfl rfl #[.val (.ref a_CM), .val (.ref u), .val (.ref w), .val (.long rc), .second, .val (.int k), .val (.long (((0 : Int64) + ((s0).toInt64)) + ((s1).toInt64))), .second, .val (.long (0 : Int64)), .second, .val (.int ((1 : Int32) + (1 : Int32)))] rfl ?_
  show Go p e below _ s₁ (mkF m 68 #[.val (.ref a_CM), .val (.ref u), .val (.ref w), .val (.long rc), .second, .val (.int k), .val (.long (((0 : Int64) + ((s0).toInt64)) + ((s1).toInt64))), .second, .val (.long (0 : Int64)), .second, .val (.int ((1 : Int32) + (1 : Int32)))] [])
  rw [show ((1 : Int32) + (1 : Int32)) = (2 : Int32) from by decide]
  show Go p e below _ s₁ (mkF m 68 #[.val (.ref a_CM), .val (.ref u), .val (.ref w), .val (.long rc), .second, .val (.int k), .val (.long (((0 : Int64) + ((s0).toInt64)) + ((s1).toInt64))), .second, .val (.long (0 : Int64)), .second, .val (.int (2 : Int32))] [])
  refine Go.goto X0 hx (hb hby d1_68) rfl 9 (by decide) (by decide) ?_
  refine Go.iload X0 hx (hb hby d1_9) rfl rfl  ?_
  refine Go.aloadN X0 hx (hb hby d1_11) rfl rfl rfl ?_
  refine Go.alen X0 hx hZ Vu e0 (hb hby d1_12) rfl ?_
  refine Go.icmpYes X0 hx (hb hby d1_13) rfl 71 (flt (by decide : ¬ ((2 : Int32) < (2 : Int32)))).2.1 (by decide) (by decide) ?_
  refine Go.newO X0 hx hZ hown (wd 9 rfl) (wd 10 rfl) (wd 11 rfl) e0 (hb hby d1_71) rfl (Nat.le_of_ble_eq_true rfl) (Nat.le_of_ble_eq_true rfl) ?_
  intro T1 h1 b1 g1 X1 e1 E1 A1 D1
  have F2 : Fld Z h1 b1 "com/example/unika/unika/anonymize/RecodingMetric$Evaluation" "suppressedRows" "J" (.long (0 : Int64)) := D1 (Or.inr (wd 30 rfl)) (ty := .long) (by decide)
  have F3 : Fld Z h1 b1 "com/example/unika/unika/anonymize/RecodingMetric$Evaluation" "cost" "J" (.long (0 : Int64)) := D1 (Or.inr (wd 32 rfl)) (ty := .long) (by decide)
  have q1 : Z.heap.size ≤ b1 := Nat.le_trans O0.2.1 (Nat.le_of_eq g1.symm)
  have z1 : h0.size ≤ b1 := Nat.le_trans (Keep.refl h0 []).1 (Nat.le_of_eq g1.symm)
  have ne_u_b1 : u ≠ b1 := Nat.ne_of_lt (Nat.lt_of_lt_of_le Vu.lt (Nat.le_of_eq g1.symm))
  have ne_w_b1 : w ≠ b1 := Nat.ne_of_lt (Nat.lt_of_lt_of_le Vw.lt (Nat.le_of_eq g1.symm))
  have K4 := (Keep.refl h0 []).ext E1
  have O5 := O0.ext E1
  have V6 := Vu.ext E1
  have V7 := Vw.ext E1
  refine Go.dup X1 hx (hb hby d1_74) rfl rfl ?_
  refine Go.lload X1 hx (hb hby d1_75) rfl rfl  ?_
  refine Go.lload X1 hx (hb hby d1_77) rfl rfl  ?_
  refine Go.lload X1 hx (hb hby d1_79) rfl rfl  ?_
  refine Go.aloadN X1 hx (hb hby d1_81) rfl rfl rfl ?_
  refine Go.lloadN X1 hx (hb hby d1_82) rfl rfl  ?_
  refine Go.pureV X1 hx hZ hown (wd 12 rfl) (wd 13 rfl) (own_nf (args := #[]) (y' := (⟨"com/example/unika/unika/anonymize/RecodingMetric", "evaluate", "([I[IJI)Lcom/example/unika/unika/anonymize/RecodingMetric$Evaluation;"⟩ : MethodName)) rfl (mvT hZ (wd 7 rfl))) (wd 59 rfl) (wd 60 rfl) (wd 57 rfl) (wd 61 rfl) (by decide) [(.long rc)] [(.long (((0 : Int64) + ((s0).toInt64)) + ((s1).toInt64))), (.long (0 : Int64)), (.long (((0 : Int64) + ((s0).toInt64)) + ((s1).toInt64))), (.ref b1), (.ref b1)] (E_CM.ext O5.2) (rmV2 l Z a0 hw a_CM rc h1) e1 rfl (by rw [hml]; rfl) pd_1 rfl (hb hby d1_83) (Nat.le_of_ble_eq_true rfl) (Nat.le_of_ble_eq_true rfl) (Nat.le_of_ble_eq_true rfl) (Nat.le_of_ble_eq_true rfl) ?_
  intro T8 X8 e8
  refine Go.lmul X8 hx (hb hby d1_86) rfl ?_
  refine Go.ladd X8 hx (hb hby d1_87) rfl ?_
  refine Go.callI X8 hx hZ rfl hown (wd 18 rfl) (wd 19 rfl) (wd 11 rfl) (wd 20 rfl) (by decide) [(.long (((0 : Int64) + ((s0).toInt64)) + ((s1).toInt64))), (.long ((0 : Int64) + ((((0 : Int64) + ((s0).toInt64)) + ((s1).toInt64)) * (1 : Int64))))] [(.ref b1)] (rmE l Z a0 hw b1 (((0 : Int64) + ((s0).toInt64)) + ((s1).toInt64)) ((0 : Int64) + ((((0 : Int64) + ((s0).toInt64)) + ((s1).toInt64)) * (1 : Int64))) h1 O5 A1 q1 F2 F3) e8 rfl (by rw [hml]; rfl) pd_2 rfl (hb hby d1_88) (Nat.le_of_ble_eq_true rfl) (Nat.le_of_ble_eq_true rfl) (Nat.le_of_ble_eq_true rfl) (Nat.le_of_ble_eq_true rfl) ?_
  rintro vv9 T9 L9 X9 Q9
  obtain ⟨rfl, N9, K9, E9, Fs9, Fc9⟩ := Q9
  have M10 := Fr.app (Fr.nil _) N9
  have O11 := O5.keep K9 (allS q1 (all0))
  have K12 := Keep.trans K4 K9 (allS (Or.inr z1) (all0))
  have V13 := V6.keep K9 (ninS ne_u_b1 (nin0))
  have V14 := V7.keep K9 (ninS ne_w_b1 (nin0))
  have E15 := A1.keep K9
  exact Go.retA X9 hx hret hlk rfl rfl (hb hby d1_91) rfl ⟨b1, rfl, M10, K12, z1, E9, Fs9, Fc9⟩ (Nat.le_of_ble_eq_true rfl) (Nat.le_of_ble_eq_true rfl)
set_option maxRecDepth 65536 in
set_option maxHeartbeats 40000000 in
theorem rmEv102tf (l : Launch) (Z : State) (a0 : Array Value) (hw : ∀ d ∈ tables_1, d.before a0 Z = true) (u w : Addr) (ku kw : ClassId) (s0 s1 m0 m1 : Int32) (rc : Int64) (k : Int32) (a_DM : Addr) (a_CM : Addr) (h0 : Heap) (O0 : Old Z Z.heap.size h0) (FF : Facts Z a_DM a_CM) (Vu : Arv Z h0 u ku .int (2 : Int32) [(.int s0), (.int s1)] (.int (0 : Int32))) (Vw : Arv Z h0 w kw .int (2 : Int32) [(.int m0), (.int m1)] (.int (0 : Int32))) (t0 : s0 < k) (t1 : ¬ s1 < k) : Ctr l Z (⟨"com/example/unika/unika/anonymize/RecodingMetric", "evaluate", "([I[IJI)Lcom/example/unika/unika/anonymize/RecodingMetric$Evaluation;"⟩ : MethodName) prog_39_method_13_code 11 (some (.object "com/example/unika/unika/anonymize/RecodingMetric$Evaluation")) ({ frames := 3, cells := 1, slots := 2, locals := 41 } : Room) #[(.ref a_CM), (.ref u), (.ref w), (.long rc), (.int k)] h0 (fun v h L => ∃ b : Addr, v = some (.ref b) ∧ Fr Z.heap.size L ∧ Keep h0 h [] ∧ h0.size ≤ b ∧ Exa Z h b "com/example/unika/unika/anonymize/RecodingMetric$Evaluation" ∧ Fld Z h b "com/example/unika/unika/anonymize/RecodingMetric$Evaluation" "suppressedRows" "J" (.long ((0 : Int64) + ((s0).toInt64))) ∧ Fld Z h b "com/example/unika/unika/anonymize/RecodingMetric$Evaluation" "cost" "J" (.long (((0 : Int64) + (((s1).toInt64) - ((m1).toInt64))) + (((0 : Int64) + ((s0).toInt64)) * (1 : Int64))))) := by
  refine Ctr.of (plainFor_of_name pn_1) ?_
  have wd : ∀ {d : Jvm.Cond} (i : Nat), tables_1[i]? = some d → d.before a0 Z = true := fun i q => hw _ (List.mem_of_getElem? q)
  intro p e s m below meth c s₁ hx hby hml hown hnm hret hlk hZ X0 e0
  have FF' := FF
  obtain ⟨S_DM, E_DM, S_CM, E_CM, ne_DM_CM⟩ := FF'
  refine Go.cast (ef_1 m a_CM u w rc k) ?_
  show Go p e below _ s₁ (mkF m 0 #[.val (.ref a_CM), .val (.ref u), .val (.ref w), .val (.long rc), .second, .val (.int k), .unset, .unset, .unset, .unset, .unset] [])
  refine Go.lconst X0 hx (hb hby d1_0) rfl (0 : Int64) rfl ?_
  refine Go.lstore X0 hx (hb hby d1_1) rfl  #[.val (.ref a_CM), .val (.ref u), .val (.ref w), .val (.long rc), .second, .val (.int k), .val (.long (0 : Int64)), .second, .unset, .unset, .unset] rfl ?_
  refine Go.lconst X0 hx (hb hby d1_3) rfl (0 : Int64) rfl ?_
  refine Go.lstore X0 hx (hb hby d1_4) rfl  #[.val (.ref a_CM), .val (.ref u), .val (.ref w), .val (.long rc), .second, .val (.int k), .val (.long (0 : Int64)), .second, .val (.long (0 : Int64)), .second, .unset] rfl ?_
  refine Go.iconst X0 hx (hb hby d1_6) rfl (0 : Int32) rfl ?_
  refine Go.istore X0 hx (hb hby d1_7) rfl  #[.val (.ref a_CM), .val (.ref u), .val (.ref w), .val (.long rc), .second, .val (.int k), .val (.long (0 : Int64)), .second, .val (.long (0 : Int64)), .second, .val (.int (0 : Int32))] rfl ?_
  refine Go.iload X0 hx (hb hby d1_9) rfl rfl  ?_
  refine Go.aloadN X0 hx (hb hby d1_11) rfl rfl rfl ?_
  refine Go.alen X0 hx hZ Vu e0 (hb hby d1_12) rfl ?_
  refine Go.icmpNo X0 hx (hb hby d1_13) rfl (tlt (by decide : (0 : Int32) < (2 : Int32))).2.1 ?_
  refine Go.aloadN X0 hx (hb hby d1_16) rfl rfl rfl ?_
  refine Go.iload X0 hx (hb hby d1_17) rfl rfl  ?_
  refine Go.iaload X0 hx hZ (.int s0) Vu e0  ⟨by decide, by decide⟩ rfl (hb hby d1_19) rfl ?_
  refine Go.iload X0 hx (hb hby d1_20) rfl rfl  ?_
  refine Go.icmpNo X0 hx (hb hby d1_22) rfl (tlt t0).2.1 ?_
  refine Go.lload X0 hx (hb hby d1_25) rfl rfl  ?_
  refine Go.aloadN X0 hx (hb hby d1_27) rfl rfl rfl ?_
  refine Go.iload X0 hx (hb hby d1_28) rfl rfl  ?_
  refine Go.iaload X0 hx hZ (.int s0) Vu e0  ⟨by decide, by decide⟩ rfl (hb hby d1_30) rfl ?_
  refine Go.i2l X0 hx (hb hby d1_31) rfl ?_
  refine Go.ladd X0 hx (hb hby d1_32) rfl ?_
  refine Go.lstore X0 hx (hb hby d1_33) rfl  #[.val (.ref a_CM), .val (.ref u), .val (.ref w), .val (.long rc), .second, .val (.int k), .val (.long ((0 : Int64) + ((s0).toInt64))), .second, .val (.long (0 : Int64)), .second, .val (.int (0 : Int32))] rfl ?_
  refine Go.goto X0 hx (hb hby d1_35) rfl 65 (by decide) (by decide) ?_
  refine Go.iinc X0 hx (hb hby d1_65) rfl rfl #[.val (.ref a_CM), .val (.ref u), .val (.ref w), .val (.long rc), .second, .val (.int k), .val (.long ((0 : Int64) + ((s0).toInt64))), .second, .val (.long (0 : Int64)), .second, .val (.int ((0 : Int32) + (1 : Int32)))] rfl ?_
  show Go p e below _ s₁ (mkF m 68 #[.val (.ref a_CM), .val (.ref u), .val (.ref w), .val (.long rc), .second, .val (.int k), .val (.long ((0 : Int64) + ((s0).toInt64))), .second, .val (.long (0 : Int64)), .second, .val (.int ((0 : Int32) + (1 : Int32)))] [])
  rw [show ((0 : Int32) + (1 : Int32)) = (1 : Int32) from by decide]
  show Go p e below _ s₁ (mkF m 68 #[.val (.ref a_CM), .val (.ref u), .val (.ref w), .val (.long rc), .second, .val (.int k), .val (.long ((0 : Int64) + ((s0).toInt64))), .second, .val (.long (0 : Int64)), .second, .val (.int (1 : Int32))] [])
  refine Go.goto X0 hx (hb hby d1_68) rfl 9 (by decide) (by decide) ?_
  refine Go.iload X0 hx (hb hby d1_9) rfl rfl  ?_
  refine Go.aloadN X0 hx (hb hby d1_11) rfl rfl rfl ?_
  refine Go.alen X0 hx hZ Vu e0 (hb hby d1_12) rfl ?_
  refine Go.icmpNo X0 hx (hb hby d1_13) rfl (tlt (by decide : (1 : Int32) < (2 : Int32))).2.1 ?_
  refine Go.aloadN X0 hx (hb hby d1_16) rfl rfl rfl ?_
  refine Go.iload X0 hx (hb hby d1_17) rfl rfl  ?_
  refine Go.iaload X0 hx hZ (.int s1) Vu e0  ⟨by decide, by decide⟩ rfl (hb hby d1_19) rfl ?_
  refine Go.iload X0 hx (hb hby d1_20) rfl rfl  ?_
  refine Go.icmpYes X0 hx (hb hby d1_22) rfl 38 (flt t1).2.1 (by decide) (by decide) ?_
  refine Go.lload X0 hx (hb hby d1_38) rfl rfl  ?_
  refine Go.aloadN X0 hx (hb hby d1_40) rfl rfl rfl ?_
  refine Go.aloadN X0 hx (hb hby d1_41) rfl rfl rfl ?_
  refine Go.iload X0 hx (hb hby d1_42) rfl rfl  ?_
  refine Go.iaload X0 hx hZ (.int s1) Vu e0  ⟨by decide, by decide⟩ rfl (hb hby d1_44) rfl ?_
  refine Go.i2l X0 hx (hb hby d1_45) rfl ?_
  refine Go.aloadN X0 hx (hb hby d1_46) rfl rfl rfl ?_
  refine Go.ifnonnullYes X0 hx (hb hby d1_47) rfl 54 (by decide) (by decide) ?_
  refine Go.aloadN X0 hx (hb hby d1_54) rfl rfl rfl ?_
  refine Go.iload X0 hx (hb hby d1_55) rfl rfl  ?_
  refine Go.iaload X0 hx hZ (.int m1) Vw e0  ⟨by decide, by decide⟩ rfl (hb hby d1_57) rfl ?_
  refine Go.i2l X0 hx (hb hby d1_58) rfl ?_
  refine Go.pureV X0 hx hZ hown (wd 47 rfl) (wd 48 rfl) (own_nf (args := #[]) (y' := (⟨"com/example/unika/unika/anonymize/RecodingMetric", "evaluate", "([I[IJI)Lcom/example/unika/unika/anonymize/RecodingMetric$Evaluation;"⟩ : MethodName)) rfl (mvT hZ (wd 7 rfl))) (wd 55 rfl) (wd 56 rfl) (wd 57 rfl) (wd 58 rfl) (by decide) [(.long ((s1).toInt64)), (.long ((m1).toInt64))] [(.long (0 : Int64))] (E_CM.ext O0.2) (rmK2 l Z a0 hw a_CM ((s1).toInt64) ((m1).toInt64) h0) e0 rfl (by rw [hml]; rfl) pd_6 rfl (hb hby d1_59) (Nat.le_of_ble_eq_true rfl) (Nat.le_of_ble_eq_true rfl) (Nat.le_of_ble_eq_true rfl) (Nat.le_of_ble_eq_true rfl) ?_
  intro T1 X1 e1
  refine Go.ladd X1 hx (hb hby d1_62) rfl ?_
  refine Go.lstore X1 hx (hb hby d1_63) rfl  #[.val (.ref a_CM), .val (.ref u), .val (.ref w), .val (.long rc), .second, .val (.int k), .val (.long ((0 : Int64) + ((s0).toInt64))), .second, .val (.long ((0 : Int64) + (((s1).toInt64) - ((m1).toInt64)))), .second, .val (.int (1 : Int32))] rfl ?_
  refine Go.iinc X1 hx (hb hby d1_65) rfl rfl #[.val (.ref a_CM), .val (.ref u), .val (.ref w), .val (.long rc), .second, .val (.int k), .val (.long ((0 : Int64) + ((s0).toInt64))), .second, .val (.long ((0 : Int64) + (((s1).toInt64) - ((m1).toInt64)))), .second, .val (.int ((1 : Int32) + (1 : Int32)))] rfl ?_
  show Go p e below _ T1 (mkF m 68 #[.val (.ref a_CM), .val (.ref u), .val (.ref w), .val (.long rc), .second, .val (.int k), .val (.long ((0 : Int64) + ((s0).toInt64))), .second, .val (.long ((0 : Int64) + (((s1).toInt64) - ((m1).toInt64)))), .second, .val (.int ((1 : Int32) + (1 : Int32)))] [])
  rw [show ((1 : Int32) + (1 : Int32)) = (2 : Int32) from by decide]
  show Go p e below _ T1 (mkF m 68 #[.val (.ref a_CM), .val (.ref u), .val (.ref w), .val (.long rc), .second, .val (.int k), .val (.long ((0 : Int64) + ((s0).toInt64))), .second, .val (.long ((0 : Int64) + (((s1).toInt64) - ((m1).toInt64)))), .second, .val (.int (2 : Int32))] [])
  refine Go.goto X1 hx (hb hby d1_68) rfl 9 (by decide) (by decide) ?_
  refine Go.iload X1 hx (hb hby d1_9) rfl rfl  ?_
  refine Go.aloadN X1 hx (hb hby d1_11) rfl rfl rfl ?_
  refine Go.alen X1 hx hZ Vu e1 (hb hby d1_12) rfl ?_
  refine Go.icmpYes X1 hx (hb hby d1_13) rfl 71 (flt (by decide : ¬ ((2 : Int32) < (2 : Int32)))).2.1 (by decide) (by decide) ?_
  refine Go.newO X1 hx hZ hown (wd 9 rfl) (wd 10 rfl) (wd 11 rfl) e1 (hb hby d1_71) rfl (Nat.le_of_ble_eq_true rfl) (Nat.le_of_ble_eq_true rfl) ?_
  intro T2 h2 b2 g2 X2 e2 E2 A2 D2
  have F3 : Fld Z h2 b2 "com/example/unika/unika/anonymize/RecodingMetric$Evaluation" "suppressedRows" "J" (.long (0 : Int64)) := D2 (Or.inr (wd 30 rfl)) (ty := .long) (by decide)
  have F4 : Fld Z h2 b2 "com/example/unika/unika/anonymize/RecodingMetric$Evaluation" "cost" "J" (.long (0 : Int64)) := D2 (Or.inr (wd 32 rfl)) (ty := .long) (by decide)
  have q2 : Z.heap.size ≤ b2 := Nat.le_trans O0.2.1 (Nat.le_of_eq g2.symm)
  have z2 : h0.size ≤ b2 := Nat.le_trans (Keep.refl h0 []).1 (Nat.le_of_eq g2.symm)
  have ne_u_b2 : u ≠ b2 := Nat.ne_of_lt (Nat.lt_of_lt_of_le Vu.lt (Nat.le_of_eq g2.symm))
  have ne_w_b2 : w ≠ b2 := Nat.ne_of_lt (Nat.lt_of_lt_of_le Vw.lt (Nat.le_of_eq g2.symm))
  have K5 := (Keep.refl h0 []).ext E2
  have O6 := O0.ext E2
  have V7 := Vu.ext E2
  have V8 := Vw.ext E2
  refine Go.dup X2 hx (hb hby d1_74) rfl rfl ?_
  refine Go.lload X2 hx (hb hby d1_75) rfl rfl  ?_
  refine Go.lload X2 hx (hb hby d1_77) rfl rfl  ?_
  refine Go.lload X2 hx (hb hby d1_79) rfl rfl  ?_
  refine Go.aloadN X2 hx (hb hby d1_81) rfl rfl rfl ?_
  refine Go.lloadN X2 hx (hb hby d1_82) rfl rfl  ?_
  refine Go.pureV X2 hx hZ hown (wd 12 rfl) (wd 13 rfl) (own_nf (args := #[]) (y' := (⟨"com/example/unika/unika/anonymize/RecodingMetric", "evaluate", "([I[IJI)Lcom/example/unika/unika/anonymize/RecodingMetric$Evaluation;"⟩ : MethodName)) rfl (mvT hZ (wd 7 rfl))) (wd 59 rfl) (wd 60 rfl) (wd 57 rfl) (wd 61 rfl) (by decide) [(.long rc)] [(.long ((0 : Int64) + ((s0).toInt64))), (.long ((0 : Int64) + (((s1).toInt64) - ((m1).toInt64)))), (.long ((0 : Int64) + ((s0).toInt64))), (.ref b2), (.ref b2)] (E_CM.ext O6.2) (rmV2 l Z a0 hw a_CM rc h2) e2 rfl (by rw [hml]; rfl) pd_1 rfl (hb hby d1_83) (Nat.le_of_ble_eq_true rfl) (Nat.le_of_ble_eq_true rfl) (Nat.le_of_ble_eq_true rfl) (Nat.le_of_ble_eq_true rfl) ?_
  intro T9 X9 e9
  refine Go.lmul X9 hx (hb hby d1_86) rfl ?_
  refine Go.ladd X9 hx (hb hby d1_87) rfl ?_
  refine Go.callI X9 hx hZ rfl hown (wd 18 rfl) (wd 19 rfl) (wd 11 rfl) (wd 20 rfl) (by decide) [(.long ((0 : Int64) + ((s0).toInt64))), (.long (((0 : Int64) + (((s1).toInt64) - ((m1).toInt64))) + (((0 : Int64) + ((s0).toInt64)) * (1 : Int64))))] [(.ref b2)] (rmE l Z a0 hw b2 ((0 : Int64) + ((s0).toInt64)) (((0 : Int64) + (((s1).toInt64) - ((m1).toInt64))) + (((0 : Int64) + ((s0).toInt64)) * (1 : Int64))) h2 O6 A2 q2 F3 F4) e9 rfl (by rw [hml]; rfl) pd_2 rfl (hb hby d1_88) (Nat.le_of_ble_eq_true rfl) (Nat.le_of_ble_eq_true rfl) (Nat.le_of_ble_eq_true rfl) (Nat.le_of_ble_eq_true rfl) ?_
  rintro vv10 T10 L10 X10 Q10
  obtain ⟨rfl, N10, K10, E10, Fs10, Fc10⟩ := Q10
  have M11 := Fr.app (Fr.nil _) N10
  have O12 := O6.keep K10 (allS q2 (all0))
  have K13 := Keep.trans K5 K10 (allS (Or.inr z2) (all0))
  have V14 := V7.keep K10 (ninS ne_u_b2 (nin0))
  have V15 := V8.keep K10 (ninS ne_w_b2 (nin0))
  have E16 := A2.keep K10
  exact Go.retA X10 hx hret hlk rfl rfl (hb hby d1_91) rfl ⟨b2, rfl, M11, K13, z2, E10, Fs10, Fc10⟩ (Nat.le_of_ble_eq_true rfl) (Nat.le_of_ble_eq_true rfl)
set_option maxRecDepth 65536 in
set_option maxHeartbeats 40000000 in
theorem rmEv102ft (l : Launch) (Z : State) (a0 : Array Value) (hw : ∀ d ∈ tables_1, d.before a0 Z = true) (u w : Addr) (ku kw : ClassId) (s0 s1 m0 m1 : Int32) (rc : Int64) (k : Int32) (a_DM : Addr) (a_CM : Addr) (h0 : Heap) (O0 : Old Z Z.heap.size h0) (FF : Facts Z a_DM a_CM) (Vu : Arv Z h0 u ku .int (2 : Int32) [(.int s0), (.int s1)] (.int (0 : Int32))) (Vw : Arv Z h0 w kw .int (2 : Int32) [(.int m0), (.int m1)] (.int (0 : Int32))) (t0 : ¬ s0 < k) (t1 : s1 < k) : Ctr l Z (⟨"com/example/unika/unika/anonymize/RecodingMetric", "evaluate", "([I[IJI)Lcom/example/unika/unika/anonymize/RecodingMetric$Evaluation;"⟩ : MethodName) prog_39_method_13_code 11 (some (.object "com/example/unika/unika/anonymize/RecodingMetric$Evaluation")) ({ frames := 3, cells := 1, slots := 2, locals := 41 } : Room) #[(.ref a_CM), (.ref u), (.ref w), (.long rc), (.int k)] h0 (fun v h L => ∃ b : Addr, v = some (.ref b) ∧ Fr Z.heap.size L ∧ Keep h0 h [] ∧ h0.size ≤ b ∧ Exa Z h b "com/example/unika/unika/anonymize/RecodingMetric$Evaluation" ∧ Fld Z h b "com/example/unika/unika/anonymize/RecodingMetric$Evaluation" "suppressedRows" "J" (.long ((0 : Int64) + ((s1).toInt64))) ∧ Fld Z h b "com/example/unika/unika/anonymize/RecodingMetric$Evaluation" "cost" "J" (.long (((0 : Int64) + (((s0).toInt64) - ((m0).toInt64))) + (((0 : Int64) + ((s1).toInt64)) * (1 : Int64))))) := by
  refine Ctr.of (plainFor_of_name pn_1) ?_
  have wd : ∀ {d : Jvm.Cond} (i : Nat), tables_1[i]? = some d → d.before a0 Z = true := fun i q => hw _ (List.mem_of_getElem? q)
  intro p e s m below meth c s₁ hx hby hml hown hnm hret hlk hZ X0 e0
  have FF' := FF
  obtain ⟨S_DM, E_DM, S_CM, E_CM, ne_DM_CM⟩ := FF'
  refine Go.cast (ef_1 m a_CM u w rc k) ?_
  show Go p e below _ s₁ (mkF m 0 #[.val (.ref a_CM), .val (.ref u), .val (.ref w), .val (.long rc), .second, .val (.int k), .unset, .unset, .unset, .unset, .unset] [])
  refine Go.lconst X0 hx (hb hby d1_0) rfl (0 : Int64) rfl ?_
  refine Go.lstore X0 hx (hb hby d1_1) rfl  #[.val (.ref a_CM), .val (.ref u), .val (.ref w), .val (.long rc), .second, .val (.int k), .val (.long (0 : Int64)), .second, .unset, .unset, .unset] rfl ?_
  refine Go.lconst X0 hx (hb hby d1_3) rfl (0 : Int64) rfl ?_
  refine Go.lstore X0 hx (hb hby d1_4) rfl  #[.val (.ref a_CM), .val (.ref u), .val (.ref w), .val (.long rc), .second, .val (.int k), .val (.long (0 : Int64)), .second, .val (.long (0 : Int64)), .second, .unset] rfl ?_
  refine Go.iconst X0 hx (hb hby d1_6) rfl (0 : Int32) rfl ?_
  refine Go.istore X0 hx (hb hby d1_7) rfl  #[.val (.ref a_CM), .val (.ref u), .val (.ref w), .val (.long rc), .second, .val (.int k), .val (.long (0 : Int64)), .second, .val (.long (0 : Int64)), .second, .val (.int (0 : Int32))] rfl ?_
  refine Go.iload X0 hx (hb hby d1_9) rfl rfl  ?_
  refine Go.aloadN X0 hx (hb hby d1_11) rfl rfl rfl ?_
  refine Go.alen X0 hx hZ Vu e0 (hb hby d1_12) rfl ?_
  refine Go.icmpNo X0 hx (hb hby d1_13) rfl (tlt (by decide : (0 : Int32) < (2 : Int32))).2.1 ?_
  refine Go.aloadN X0 hx (hb hby d1_16) rfl rfl rfl ?_
  refine Go.iload X0 hx (hb hby d1_17) rfl rfl  ?_
  refine Go.iaload X0 hx hZ (.int s0) Vu e0  ⟨by decide, by decide⟩ rfl (hb hby d1_19) rfl ?_
  refine Go.iload X0 hx (hb hby d1_20) rfl rfl  ?_
  refine Go.icmpYes X0 hx (hb hby d1_22) rfl 38 (flt t0).2.1 (by decide) (by decide) ?_
  refine Go.lload X0 hx (hb hby d1_38) rfl rfl  ?_
  refine Go.aloadN X0 hx (hb hby d1_40) rfl rfl rfl ?_
  refine Go.aloadN X0 hx (hb hby d1_41) rfl rfl rfl ?_
  refine Go.iload X0 hx (hb hby d1_42) rfl rfl  ?_
  refine Go.iaload X0 hx hZ (.int s0) Vu e0  ⟨by decide, by decide⟩ rfl (hb hby d1_44) rfl ?_
  refine Go.i2l X0 hx (hb hby d1_45) rfl ?_
  refine Go.aloadN X0 hx (hb hby d1_46) rfl rfl rfl ?_
  refine Go.ifnonnullYes X0 hx (hb hby d1_47) rfl 54 (by decide) (by decide) ?_
  refine Go.aloadN X0 hx (hb hby d1_54) rfl rfl rfl ?_
  refine Go.iload X0 hx (hb hby d1_55) rfl rfl  ?_
  refine Go.iaload X0 hx hZ (.int m0) Vw e0  ⟨by decide, by decide⟩ rfl (hb hby d1_57) rfl ?_
  refine Go.i2l X0 hx (hb hby d1_58) rfl ?_
  refine Go.pureV X0 hx hZ hown (wd 47 rfl) (wd 48 rfl) (own_nf (args := #[]) (y' := (⟨"com/example/unika/unika/anonymize/RecodingMetric", "evaluate", "([I[IJI)Lcom/example/unika/unika/anonymize/RecodingMetric$Evaluation;"⟩ : MethodName)) rfl (mvT hZ (wd 7 rfl))) (wd 55 rfl) (wd 56 rfl) (wd 57 rfl) (wd 58 rfl) (by decide) [(.long ((s0).toInt64)), (.long ((m0).toInt64))] [(.long (0 : Int64))] (E_CM.ext O0.2) (rmK2 l Z a0 hw a_CM ((s0).toInt64) ((m0).toInt64) h0) e0 rfl (by rw [hml]; rfl) pd_6 rfl (hb hby d1_59) (Nat.le_of_ble_eq_true rfl) (Nat.le_of_ble_eq_true rfl) (Nat.le_of_ble_eq_true rfl) (Nat.le_of_ble_eq_true rfl) ?_
  intro T1 X1 e1
  refine Go.ladd X1 hx (hb hby d1_62) rfl ?_
  refine Go.lstore X1 hx (hb hby d1_63) rfl  #[.val (.ref a_CM), .val (.ref u), .val (.ref w), .val (.long rc), .second, .val (.int k), .val (.long (0 : Int64)), .second, .val (.long ((0 : Int64) + (((s0).toInt64) - ((m0).toInt64)))), .second, .val (.int (0 : Int32))] rfl ?_
  refine Go.iinc X1 hx (hb hby d1_65) rfl rfl #[.val (.ref a_CM), .val (.ref u), .val (.ref w), .val (.long rc), .second, .val (.int k), .val (.long (0 : Int64)), .second, .val (.long ((0 : Int64) + (((s0).toInt64) - ((m0).toInt64)))), .second, .val (.int ((0 : Int32) + (1 : Int32)))] rfl ?_
  show Go p e below _ T1 (mkF m 68 #[.val (.ref a_CM), .val (.ref u), .val (.ref w), .val (.long rc), .second, .val (.int k), .val (.long (0 : Int64)), .second, .val (.long ((0 : Int64) + (((s0).toInt64) - ((m0).toInt64)))), .second, .val (.int ((0 : Int32) + (1 : Int32)))] [])
  rw [show ((0 : Int32) + (1 : Int32)) = (1 : Int32) from by decide]
  show Go p e below _ T1 (mkF m 68 #[.val (.ref a_CM), .val (.ref u), .val (.ref w), .val (.long rc), .second, .val (.int k), .val (.long (0 : Int64)), .second, .val (.long ((0 : Int64) + (((s0).toInt64) - ((m0).toInt64)))), .second, .val (.int (1 : Int32))] [])
  refine Go.goto X1 hx (hb hby d1_68) rfl 9 (by decide) (by decide) ?_
  refine Go.iload X1 hx (hb hby d1_9) rfl rfl  ?_
  refine Go.aloadN X1 hx (hb hby d1_11) rfl rfl rfl ?_
  refine Go.alen X1 hx hZ Vu e1 (hb hby d1_12) rfl ?_
  refine Go.icmpNo X1 hx (hb hby d1_13) rfl (tlt (by decide : (1 : Int32) < (2 : Int32))).2.1 ?_
  refine Go.aloadN X1 hx (hb hby d1_16) rfl rfl rfl ?_
  refine Go.iload X1 hx (hb hby d1_17) rfl rfl  ?_
  refine Go.iaload X1 hx hZ (.int s1) Vu e1  ⟨by decide, by decide⟩ rfl (hb hby d1_19) rfl ?_
  refine Go.iload X1 hx (hb hby d1_20) rfl rfl  ?_
  refine Go.icmpNo X1 hx (hb hby d1_22) rfl (tlt t1).2.1 ?_
  refine Go.lload X1 hx (hb hby d1_25) rfl rfl  ?_
  refine Go.aloadN X1 hx (hb hby d1_27) rfl rfl rfl ?_
  refine Go.iload X1 hx (hb hby d1_28) rfl rfl  ?_
  refine Go.iaload X1 hx hZ (.int s1) Vu e1  ⟨by decide, by decide⟩ rfl (hb hby d1_30) rfl ?_
  refine Go.i2l X1 hx (hb hby d1_31) rfl ?_
  refine Go.ladd X1 hx (hb hby d1_32) rfl ?_
  refine Go.lstore X1 hx (hb hby d1_33) rfl  #[.val (.ref a_CM), .val (.ref u), .val (.ref w), .val (.long rc), .second, .val (.int k), .val (.long ((0 : Int64) + ((s1).toInt64))), .second, .val (.long ((0 : Int64) + (((s0).toInt64) - ((m0).toInt64)))), .second, .val (.int (1 : Int32))] rfl ?_
  refine Go.goto X1 hx (hb hby d1_35) rfl 65 (by decide) (by decide) ?_
  refine Go.iinc X1 hx (hb hby d1_65) rfl rfl #[.val (.ref a_CM), .val (.ref u), .val (.ref w), .val (.long rc), .second, .val (.int k), .val (.long ((0 : Int64) + ((s1).toInt64))), .second, .val (.long ((0 : Int64) + (((s0).toInt64) - ((m0).toInt64)))), .second, .val (.int ((1 : Int32) + (1 : Int32)))] rfl ?_
  show Go p e below _ T1 (mkF m 68 #[.val (.ref a_CM), .val (.ref u), .val (.ref w), .val (.long rc), .second, .val (.int k), .val (.long ((0 : Int64) + ((s1).toInt64))), .second, .val (.long ((0 : Int64) + (((s0).toInt64) - ((m0).toInt64)))), .second, .val (.int ((1 : Int32) + (1 : Int32)))] [])
  rw [show ((1 : Int32) + (1 : Int32)) = (2 : Int32) from by decide]
  show Go p e below _ T1 (mkF m 68 #[.val (.ref a_CM), .val (.ref u), .val (.ref w), .val (.long rc), .second, .val (.int k), .val (.long ((0 : Int64) + ((s1).toInt64))), .second, .val (.long ((0 : Int64) + (((s0).toInt64) - ((m0).toInt64)))), .second, .val (.int (2 : Int32))] [])
  refine Go.goto X1 hx (hb hby d1_68) rfl 9 (by decide) (by decide) ?_
  refine Go.iload X1 hx (hb hby d1_9) rfl rfl  ?_
  refine Go.aloadN X1 hx (hb hby d1_11) rfl rfl rfl ?_
  refine Go.alen X1 hx hZ Vu e1 (hb hby d1_12) rfl ?_
  refine Go.icmpYes X1 hx (hb hby d1_13) rfl 71 (flt (by decide : ¬ ((2 : Int32) < (2 : Int32)))).2.1 (by decide) (by decide) ?_
  refine Go.newO X1 hx hZ hown (wd 9 rfl) (wd 10 rfl) (wd 11 rfl) e1 (hb hby d1_71) rfl (Nat.le_of_ble_eq_true rfl) (Nat.le_of_ble_eq_true rfl) ?_
  intro T2 h2 b2 g2 X2 e2 E2 A2 D2
  have F3 : Fld Z h2 b2 "com/example/unika/unika/anonymize/RecodingMetric$Evaluation" "suppressedRows" "J" (.long (0 : Int64)) := D2 (Or.inr (wd 30 rfl)) (ty := .long) (by decide)
  have F4 : Fld Z h2 b2 "com/example/unika/unika/anonymize/RecodingMetric$Evaluation" "cost" "J" (.long (0 : Int64)) := D2 (Or.inr (wd 32 rfl)) (ty := .long) (by decide)
  have q2 : Z.heap.size ≤ b2 := Nat.le_trans O0.2.1 (Nat.le_of_eq g2.symm)
  have z2 : h0.size ≤ b2 := Nat.le_trans (Keep.refl h0 []).1 (Nat.le_of_eq g2.symm)
  have ne_u_b2 : u ≠ b2 := Nat.ne_of_lt (Nat.lt_of_lt_of_le Vu.lt (Nat.le_of_eq g2.symm))
  have ne_w_b2 : w ≠ b2 := Nat.ne_of_lt (Nat.lt_of_lt_of_le Vw.lt (Nat.le_of_eq g2.symm))
  have K5 := (Keep.refl h0 []).ext E2
  have O6 := O0.ext E2
  have V7 := Vu.ext E2
  have V8 := Vw.ext E2
  refine Go.dup X2 hx (hb hby d1_74) rfl rfl ?_
  refine Go.lload X2 hx (hb hby d1_75) rfl rfl  ?_
  refine Go.lload X2 hx (hb hby d1_77) rfl rfl  ?_
  refine Go.lload X2 hx (hb hby d1_79) rfl rfl  ?_
  refine Go.aloadN X2 hx (hb hby d1_81) rfl rfl rfl ?_
  refine Go.lloadN X2 hx (hb hby d1_82) rfl rfl  ?_
  refine Go.pureV X2 hx hZ hown (wd 12 rfl) (wd 13 rfl) (own_nf (args := #[]) (y' := (⟨"com/example/unika/unika/anonymize/RecodingMetric", "evaluate", "([I[IJI)Lcom/example/unika/unika/anonymize/RecodingMetric$Evaluation;"⟩ : MethodName)) rfl (mvT hZ (wd 7 rfl))) (wd 59 rfl) (wd 60 rfl) (wd 57 rfl) (wd 61 rfl) (by decide) [(.long rc)] [(.long ((0 : Int64) + ((s1).toInt64))), (.long ((0 : Int64) + (((s0).toInt64) - ((m0).toInt64)))), (.long ((0 : Int64) + ((s1).toInt64))), (.ref b2), (.ref b2)] (E_CM.ext O6.2) (rmV2 l Z a0 hw a_CM rc h2) e2 rfl (by rw [hml]; rfl) pd_1 rfl (hb hby d1_83) (Nat.le_of_ble_eq_true rfl) (Nat.le_of_ble_eq_true rfl) (Nat.le_of_ble_eq_true rfl) (Nat.le_of_ble_eq_true rfl) ?_
  intro T9 X9 e9
  refine Go.lmul X9 hx (hb hby d1_86) rfl ?_
  refine Go.ladd X9 hx (hb hby d1_87) rfl ?_
  refine Go.callI X9 hx hZ rfl hown (wd 18 rfl) (wd 19 rfl) (wd 11 rfl) (wd 20 rfl) (by decide) [(.long ((0 : Int64) + ((s1).toInt64))), (.long (((0 : Int64) + (((s0).toInt64) - ((m0).toInt64))) + (((0 : Int64) + ((s1).toInt64)) * (1 : Int64))))] [(.ref b2)] (rmE l Z a0 hw b2 ((0 : Int64) + ((s1).toInt64)) (((0 : Int64) + (((s0).toInt64) - ((m0).toInt64))) + (((0 : Int64) + ((s1).toInt64)) * (1 : Int64))) h2 O6 A2 q2 F3 F4) e9 rfl (by rw [hml]; rfl) pd_2 rfl (hb hby d1_88) (Nat.le_of_ble_eq_true rfl) (Nat.le_of_ble_eq_true rfl) (Nat.le_of_ble_eq_true rfl) (Nat.le_of_ble_eq_true rfl) ?_
  rintro vv10 T10 L10 X10 Q10
  obtain ⟨rfl, N10, K10, E10, Fs10, Fc10⟩ := Q10
  have M11 := Fr.app (Fr.nil _) N10
  have O12 := O6.keep K10 (allS q2 (all0))
  have K13 := Keep.trans K5 K10 (allS (Or.inr z2) (all0))
  have V14 := V7.keep K10 (ninS ne_u_b2 (nin0))
  have V15 := V8.keep K10 (ninS ne_w_b2 (nin0))
  have E16 := A2.keep K10
  exact Go.retA X10 hx hret hlk rfl rfl (hb hby d1_91) rfl ⟨b2, rfl, M11, K13, z2, E10, Fs10, Fc10⟩ (Nat.le_of_ble_eq_true rfl) (Nat.le_of_ble_eq_true rfl)
set_option maxRecDepth 65536 in
set_option maxHeartbeats 40000000 in
theorem rmEv102ff (l : Launch) (Z : State) (a0 : Array Value) (hw : ∀ d ∈ tables_1, d.before a0 Z = true) (u w : Addr) (ku kw : ClassId) (s0 s1 m0 m1 : Int32) (rc : Int64) (k : Int32) (a_DM : Addr) (a_CM : Addr) (h0 : Heap) (O0 : Old Z Z.heap.size h0) (FF : Facts Z a_DM a_CM) (Vu : Arv Z h0 u ku .int (2 : Int32) [(.int s0), (.int s1)] (.int (0 : Int32))) (Vw : Arv Z h0 w kw .int (2 : Int32) [(.int m0), (.int m1)] (.int (0 : Int32))) (t0 : ¬ s0 < k) (t1 : ¬ s1 < k) : Ctr l Z (⟨"com/example/unika/unika/anonymize/RecodingMetric", "evaluate", "([I[IJI)Lcom/example/unika/unika/anonymize/RecodingMetric$Evaluation;"⟩ : MethodName) prog_39_method_13_code 11 (some (.object "com/example/unika/unika/anonymize/RecodingMetric$Evaluation")) ({ frames := 3, cells := 1, slots := 2, locals := 41 } : Room) #[(.ref a_CM), (.ref u), (.ref w), (.long rc), (.int k)] h0 (fun v h L => ∃ b : Addr, v = some (.ref b) ∧ Fr Z.heap.size L ∧ Keep h0 h [] ∧ h0.size ≤ b ∧ Exa Z h b "com/example/unika/unika/anonymize/RecodingMetric$Evaluation" ∧ Fld Z h b "com/example/unika/unika/anonymize/RecodingMetric$Evaluation" "suppressedRows" "J" (.long (0 : Int64)) ∧ Fld Z h b "com/example/unika/unika/anonymize/RecodingMetric$Evaluation" "cost" "J" (.long ((((0 : Int64) + (((s0).toInt64) - ((m0).toInt64))) + (((s1).toInt64) - ((m1).toInt64))) + (0 : Int64)))) := by
  refine Ctr.of (plainFor_of_name pn_1) ?_
  have wd : ∀ {d : Jvm.Cond} (i : Nat), tables_1[i]? = some d → d.before a0 Z = true := fun i q => hw _ (List.mem_of_getElem? q)
  intro p e s m below meth c s₁ hx hby hml hown hnm hret hlk hZ X0 e0
  have FF' := FF
  obtain ⟨S_DM, E_DM, S_CM, E_CM, ne_DM_CM⟩ := FF'
  refine Go.cast (ef_1 m a_CM u w rc k) ?_
  show Go p e below _ s₁ (mkF m 0 #[.val (.ref a_CM), .val (.ref u), .val (.ref w), .val (.long rc), .second, .val (.int k), .unset, .unset, .unset, .unset, .unset] [])
  refine Go.lconst X0 hx (hb hby d1_0) rfl (0 : Int64) rfl ?_
  refine Go.lstore X0 hx (hb hby d1_1) rfl  #[.val (.ref a_CM), .val (.ref u), .val (.ref w), .val (.long rc), .second, .val (.int k), .val (.long (0 : Int64)), .second, .unset, .unset, .unset] rfl ?_
  refine Go.lconst X0 hx (hb hby d1_3) rfl (0 : Int64) rfl ?_
  refine Go.lstore X0 hx (hb hby d1_4) rfl  #[.val (.ref a_CM), .val (.ref u), .val (.ref w), .val (.long rc), .second, .val (.int k), .val (.long (0 : Int64)), .second, .val (.long (0 : Int64)), .second, .unset] rfl ?_
  refine Go.iconst X0 hx (hb hby d1_6) rfl (0 : Int32) rfl ?_
  refine Go.istore X0 hx (hb hby d1_7) rfl  #[.val (.ref a_CM), .val (.ref u), .val (.ref w), .val (.long rc), .second, .val (.int k), .val (.long (0 : Int64)), .second, .val (.long (0 : Int64)), .second, .val (.int (0 : Int32))] rfl ?_
  refine Go.iload X0 hx (hb hby d1_9) rfl rfl  ?_
  refine Go.aloadN X0 hx (hb hby d1_11) rfl rfl rfl ?_
  refine Go.alen X0 hx hZ Vu e0 (hb hby d1_12) rfl ?_
  refine Go.icmpNo X0 hx (hb hby d1_13) rfl (tlt (by decide : (0 : Int32) < (2 : Int32))).2.1 ?_
  refine Go.aloadN X0 hx (hb hby d1_16) rfl rfl rfl ?_
  refine Go.iload X0 hx (hb hby d1_17) rfl rfl  ?_
  refine Go.iaload X0 hx hZ (.int s0) Vu e0  ⟨by decide, by decide⟩ rfl (hb hby d1_19) rfl ?_
  refine Go.iload X0 hx (hb hby d1_20) rfl rfl  ?_
  refine Go.icmpYes X0 hx (hb hby d1_22) rfl 38 (flt t0).2.1 (by decide) (by decide) ?_
  refine Go.lload X0 hx (hb hby d1_38) rfl rfl  ?_
  refine Go.aloadN X0 hx (hb hby d1_40) rfl rfl rfl ?_
  refine Go.aloadN X0 hx (hb hby d1_41) rfl rfl rfl ?_
  refine Go.iload X0 hx (hb hby d1_42) rfl rfl  ?_
  refine Go.iaload X0 hx hZ (.int s0) Vu e0  ⟨by decide, by decide⟩ rfl (hb hby d1_44) rfl ?_
  refine Go.i2l X0 hx (hb hby d1_45) rfl ?_
  refine Go.aloadN X0 hx (hb hby d1_46) rfl rfl rfl ?_
  refine Go.ifnonnullYes X0 hx (hb hby d1_47) rfl 54 (by decide) (by decide) ?_
  refine Go.aloadN X0 hx (hb hby d1_54) rfl rfl rfl ?_
  refine Go.iload X0 hx (hb hby d1_55) rfl rfl  ?_
  refine Go.iaload X0 hx hZ (.int m0) Vw e0  ⟨by decide, by decide⟩ rfl (hb hby d1_57) rfl ?_
  refine Go.i2l X0 hx (hb hby d1_58) rfl ?_
  refine Go.pureV X0 hx hZ hown (wd 47 rfl) (wd 48 rfl) (own_nf (args := #[]) (y' := (⟨"com/example/unika/unika/anonymize/RecodingMetric", "evaluate", "([I[IJI)Lcom/example/unika/unika/anonymize/RecodingMetric$Evaluation;"⟩ : MethodName)) rfl (mvT hZ (wd 7 rfl))) (wd 55 rfl) (wd 56 rfl) (wd 57 rfl) (wd 58 rfl) (by decide) [(.long ((s0).toInt64)), (.long ((m0).toInt64))] [(.long (0 : Int64))] (E_CM.ext O0.2) (rmK2 l Z a0 hw a_CM ((s0).toInt64) ((m0).toInt64) h0) e0 rfl (by rw [hml]; rfl) pd_6 rfl (hb hby d1_59) (Nat.le_of_ble_eq_true rfl) (Nat.le_of_ble_eq_true rfl) (Nat.le_of_ble_eq_true rfl) (Nat.le_of_ble_eq_true rfl) ?_
  intro T1 X1 e1
  refine Go.ladd X1 hx (hb hby d1_62) rfl ?_
  refine Go.lstore X1 hx (hb hby d1_63) rfl  #[.val (.ref a_CM), .val (.ref u), .val (.ref w), .val (.long rc), .second, .val (.int k), .val (.long (0 : Int64)), .second, .val (.long ((0 : Int64) + (((s0).toInt64) - ((m0).toInt64)))), .second, .val (.int (0 : Int32))] rfl ?_
  refine Go.iinc X1 hx (hb hby d1_65) rfl rfl #[.val (.ref a_CM), .val (.ref u), .val (.ref w), .val (.long rc), .second, .val (.int k), .val (.long (0 : Int64)), .second, .val (.long ((0 : Int64) + (((s0).toInt64) - ((m0).toInt64)))), .second, .val (.int ((0 : Int32) + (1 : Int32)))] rfl ?_
  show Go p e below _ T1 (mkF m 68 #[.val (.ref a_CM), .val (.ref u), .val (.ref w), .val (.long rc), .second, .val (.int k), .val (.long (0 : Int64)), .second, .val (.long ((0 : Int64) + (((s0).toInt64) - ((m0).toInt64)))), .second, .val (.int ((0 : Int32) + (1 : Int32)))] [])
  rw [show ((0 : Int32) + (1 : Int32)) = (1 : Int32) from by decide]
  show Go p e below _ T1 (mkF m 68 #[.val (.ref a_CM), .val (.ref u), .val (.ref w), .val (.long rc), .second, .val (.int k), .val (.long (0 : Int64)), .second, .val (.long ((0 : Int64) + (((s0).toInt64) - ((m0).toInt64)))), .second, .val (.int (1 : Int32))] [])
  refine Go.goto X1 hx (hb hby d1_68) rfl 9 (by decide) (by decide) ?_
  refine Go.iload X1 hx (hb hby d1_9) rfl rfl  ?_
  refine Go.aloadN X1 hx (hb hby d1_11) rfl rfl rfl ?_
  refine Go.alen X1 hx hZ Vu e1 (hb hby d1_12) rfl ?_
  refine Go.icmpNo X1 hx (hb hby d1_13) rfl (tlt (by decide : (1 : Int32) < (2 : Int32))).2.1 ?_
  refine Go.aloadN X1 hx (hb hby d1_16) rfl rfl rfl ?_
  refine Go.iload X1 hx (hb hby d1_17) rfl rfl  ?_
  refine Go.iaload X1 hx hZ (.int s1) Vu e1  ⟨by decide, by decide⟩ rfl (hb hby d1_19) rfl ?_
  refine Go.iload X1 hx (hb hby d1_20) rfl rfl  ?_
  refine Go.icmpYes X1 hx (hb hby d1_22) rfl 38 (flt t1).2.1 (by decide) (by decide) ?_
  refine Go.lload X1 hx (hb hby d1_38) rfl rfl  ?_
  refine Go.aloadN X1 hx (hb hby d1_40) rfl rfl rfl ?_
  refine Go.aloadN X1 hx (hb hby d1_41) rfl rfl rfl ?_
  refine Go.iload X1 hx (hb hby d1_42) rfl rfl  ?_
  refine Go.iaload X1 hx hZ (.int s1) Vu e1  ⟨by decide, by decide⟩ rfl (hb hby d1_44) rfl ?_
  refine Go.i2l X1 hx (hb hby d1_45) rfl ?_
  refine Go.aloadN X1 hx (hb hby d1_46) rfl rfl rfl ?_
  refine Go.ifnonnullYes X1 hx (hb hby d1_47) rfl 54 (by decide) (by decide) ?_
  refine Go.aloadN X1 hx (hb hby d1_54) rfl rfl rfl ?_
  refine Go.iload X1 hx (hb hby d1_55) rfl rfl  ?_
  refine Go.iaload X1 hx hZ (.int m1) Vw e1  ⟨by decide, by decide⟩ rfl (hb hby d1_57) rfl ?_
  refine Go.i2l X1 hx (hb hby d1_58) rfl ?_
  refine Go.pureV X1 hx hZ hown (wd 47 rfl) (wd 48 rfl) (own_nf (args := #[]) (y' := (⟨"com/example/unika/unika/anonymize/RecodingMetric", "evaluate", "([I[IJI)Lcom/example/unika/unika/anonymize/RecodingMetric$Evaluation;"⟩ : MethodName)) rfl (mvT hZ (wd 7 rfl))) (wd 55 rfl) (wd 56 rfl) (wd 57 rfl) (wd 58 rfl) (by decide) [(.long ((s1).toInt64)), (.long ((m1).toInt64))] [(.long ((0 : Int64) + (((s0).toInt64) - ((m0).toInt64))))] (E_CM.ext O0.2) (rmK2 l Z a0 hw a_CM ((s1).toInt64) ((m1).toInt64) h0) e1 rfl (by rw [hml]; rfl) pd_6 rfl (hb hby d1_59) (Nat.le_of_ble_eq_true rfl) (Nat.le_of_ble_eq_true rfl) (Nat.le_of_ble_eq_true rfl) (Nat.le_of_ble_eq_true rfl) ?_
  intro T2 X2 e2
  refine Go.ladd X2 hx (hb hby d1_62) rfl ?_
  refine Go.lstore X2 hx (hb hby d1_63) rfl  #[.val (.ref a_CM), .val (.ref u), .val (.ref w), .val (.long rc), .second, .val (.int k), .val (.long (0 : Int64)), .second, .val (.long (((0 : Int64) + (((s0).toInt64) - ((m0).toInt64))) + (((s1).toInt64) - ((m1).toInt64)))), .second, .val (.int (1 : Int32))] rfl ?_
  refine Go.iinc X2 hx (hb hby d1_65) rfl rfl #[.val (.ref a_CM), .val (.ref u), .val (.ref w), .val (.long rc), .second, .val (.int k), .val (.long (0 : Int64)), .second, .val (.long (((0 : Int64) + (((s0).toInt64) - ((m0).toInt64))) + (((s1).toInt64) - ((m1).toInt64)))), .second, .val (.int ((1 : Int32) + (1 : Int32)))] rfl ?_
  show Go p e below _ T2 (mkF m 68 #[.val (.ref a_CM), .val (.ref u), .val (.ref w), .val (.long rc), .second, .val (.int k), .val (.long (0 : Int64)), .second, .val (.long (((0 : Int64) + (((s0).toInt64) - ((m0).toInt64))) + (((s1).toInt64) - ((m1).toInt64)))), .second, .val (.int ((1 : Int32) + (1 : Int32)))] [])
  rw [show ((1 : Int32) + (1 : Int32)) = (2 : Int32) from by decide]
  show Go p e below _ T2 (mkF m 68 #[.val (.ref a_CM), .val (.ref u), .val (.ref w), .val (.long rc), .second, .val (.int k), .val (.long (0 : Int64)), .second, .val (.long (((0 : Int64) + (((s0).toInt64) - ((m0).toInt64))) + (((s1).toInt64) - ((m1).toInt64)))), .second, .val (.int (2 : Int32))] [])
  refine Go.goto X2 hx (hb hby d1_68) rfl 9 (by decide) (by decide) ?_
  refine Go.iload X2 hx (hb hby d1_9) rfl rfl  ?_
  refine Go.aloadN X2 hx (hb hby d1_11) rfl rfl rfl ?_
  refine Go.alen X2 hx hZ Vu e2 (hb hby d1_12) rfl ?_
  refine Go.icmpYes X2 hx (hb hby d1_13) rfl 71 (flt (by decide : ¬ ((2 : Int32) < (2 : Int32)))).2.1 (by decide) (by decide) ?_
  refine Go.newO X2 hx hZ hown (wd 9 rfl) (wd 10 rfl) (wd 11 rfl) e2 (hb hby d1_71) rfl (Nat.le_of_ble_eq_true rfl) (Nat.le_of_ble_eq_true rfl) ?_
  intro T3 h3 b3 g3 X3 e3 E3 A3 D3
  have F4 : Fld Z h3 b3 "com/example/unika/unika/anonymize/RecodingMetric$Evaluation" "suppressedRows" "J" (.long (0 : Int64)) := D3 (Or.inr (wd 30 rfl)) (ty := .long) (by decide)
  have F5 : Fld Z h3 b3 "com/example/unika/unika/anonymize/RecodingMetric$Evaluation" "cost" "J" (.long (0 : Int64)) := D3 (Or.inr (wd 32 rfl)) (ty := .long) (by decide)
  have q3 : Z.heap.size ≤ b3 := Nat.le_trans O0.2.1 (Nat.le_of_eq g3.symm)
  have z3 : h0.size ≤ b3 := Nat.le_trans (Keep.refl h0 []).1 (Nat.le_of_eq g3.symm)
  have ne_u_b3 : u ≠ b3 := Nat.ne_of_lt (Nat.lt_of_lt_of_le Vu.lt (Nat.le_of_eq g3.symm))
  have ne_w_b3 : w ≠ b3 := Nat.ne_of_lt (Nat.lt_of_lt_of_le Vw.lt (Nat.le_of_eq g3.symm))
  have K6 := (Keep.refl h0 []).ext E3
  have O7 := O0.ext E3
  have V8 := Vu.ext E3
  have V9 := Vw.ext E3
  refine Go.dup X3 hx (hb hby d1_74) rfl rfl ?_
  refine Go.lload X3 hx (hb hby d1_75) rfl rfl  ?_
  refine Go.lload X3 hx (hb hby d1_77) rfl rfl  ?_
  refine Go.lload X3 hx (hb hby d1_79) rfl rfl  ?_
  refine Go.aloadN X3 hx (hb hby d1_81) rfl rfl rfl ?_
  refine Go.lloadN X3 hx (hb hby d1_82) rfl rfl  ?_
  refine Go.pureV X3 hx hZ hown (wd 12 rfl) (wd 13 rfl) (own_nf (args := #[]) (y' := (⟨"com/example/unika/unika/anonymize/RecodingMetric", "evaluate", "([I[IJI)Lcom/example/unika/unika/anonymize/RecodingMetric$Evaluation;"⟩ : MethodName)) rfl (mvT hZ (wd 7 rfl))) (wd 59 rfl) (wd 60 rfl) (wd 57 rfl) (wd 61 rfl) (by decide) [(.long rc)] [(.long (0 : Int64)), (.long (((0 : Int64) + (((s0).toInt64) - ((m0).toInt64))) + (((s1).toInt64) - ((m1).toInt64)))), (.long (0 : Int64)), (.ref b3), (.ref b3)] (E_CM.ext O7.2) (rmV2 l Z a0 hw a_CM rc h3) e3 rfl (by rw [hml]; rfl) pd_1 rfl (hb hby d1_83) (Nat.le_of_ble_eq_true rfl) (Nat.le_of_ble_eq_true rfl) (Nat.le_of_ble_eq_true rfl) (Nat.le_of_ble_eq_true rfl) ?_
  intro T10 X10 e10
  refine Go.lmul X10 hx (hb hby d1_86) rfl ?_
  show Go p e below _ T10 (mkF m 87 #[.val (.ref a_CM), .val (.ref u), .val (.ref w), .val (.long rc), .second, .val (.int k), .val (.long (0 : Int64)), .second, .val (.long (((0 : Int64) + (((s0).toInt64) - ((m0).toInt64))) + (((s1).toInt64) - ((m1).toInt64)))), .second, .val (.int (2 : Int32))] [(.long ((0 : Int64) * (1 : Int64))), (.long (((0 : Int64) + (((s0).toInt64) - ((m0).toInt64))) + (((s1).toInt64) - ((m1).toInt64)))), (.long (0 : Int64)), (.ref b3), (.ref b3)])
  rw [show ((0 : Int64) * (1 : Int64)) = (0 : Int64) from by decide]
  refine Go.ladd X10 hx (hb hby d1_87) rfl ?_
  refine Go.callI X10 hx hZ rfl hown (wd 18 rfl) (wd 19 rfl) (wd 11 rfl) (wd 20 rfl) (by decide) [(.long (0 : Int64)), (.long ((((0 : Int64) + (((s0).toInt64) - ((m0).toInt64))) + (((s1).toInt64) - ((m1).toInt64))) + (0 : Int64)))] [(.ref b3)] (rmE l Z a0 hw b3 (0 : Int64) ((((0 : Int64) + (((s0).toInt64) - ((m0).toInt64))) + (((s1).toInt64) - ((m1).toInt64))) + (0 : Int64)) h3 O7 A3 q3 F4 F5) e10 rfl (by rw [hml]; rfl) pd_2 rfl (hb hby d1_88) (Nat.le_of_ble_eq_true rfl) (Nat.le_of_ble_eq_true rfl) (Nat.le_of_ble_eq_true rfl) (Nat.le_of_ble_eq_true rfl) ?_
  rintro vv11 T11 L11 X11 Q11
  obtain ⟨rfl, N11, K11, E11, Fs11, Fc11⟩ := Q11
  have M12 := Fr.app (Fr.nil _) N11
  have O13 := O7.keep K11 (allS q3 (all0))
  have K14 := Keep.trans K6 K11 (allS (Or.inr z3) (all0))
  have V15 := V8.keep K11 (ninS ne_u_b3 (nin0))
  have V16 := V9.keep K11 (ninS ne_w_b3 (nin0))
  have E17 := A3.keep K11
  exact Go.retA X11 hx hret hlk rfl rfl (hb hby d1_91) rfl ⟨b3, rfl, M12, K14, z3, E11, Fs11, Fc11⟩ (Nat.le_of_ble_eq_true rfl) (Nat.le_of_ble_eq_true rfl)
set_option maxRecDepth 65536 in
set_option maxHeartbeats 40000000 in
theorem rm0 (l : Launch) (Z : State) (a0 : Array Value) (hw : ∀ d ∈ tables_1, d.before a0 Z = true) (x0 : Int32) (x1 : Int32) (x2 : Int32) (x3 : Int32) (x4 : Int32) (x5 : Int64) (a_DM : Addr) (a_CM : Addr) (FF : Facts Z a_DM a_CM) : Ctr l Z x code maxLocals ret room_1 #[(.int x0), (.int x1), (.int x2), (.int x3), (.int x4), (.long x5)] Z.heap (fun v h L => v = some (.int 1) ∧ Fr Z.heap.size L) := by
  refine Ctr.of (plainFor_of_name pn_8) ?_
  have wd : ∀ {d : Jvm.Cond} (i : Nat), tables_1[i]? = some d → d.before a0 Z = true := fun i q => hw _ (List.mem_of_getElem? q)
  intro p e s m below meth c s₁ hx hby hml hown hnm hret hlk hZ X0 e0
  have FF' := FF
  obtain ⟨S_DM, E_DM, S_CM, E_CM, ne_DM_CM⟩ := FF'
  have hown : s.vm.findClass "com/example/unika/unika/anonymize/RecodingMetricEvaluatePinLaw" = some m.cls := hown
  have O0 := Old.start Z
  refine Go.cast (ef_0 m x0 x1 x2 x3 x4 x5) ?_
  show Go p e below _ s₁ (mkF m 0 #[.val (.int x0), .val (.int x1), .val (.int x2), .val (.int x3), .val (.int x4), .val (.long x5), .second, .unset, .unset, .unset, .unset, .unset, .unset, .unset, .unset, .unset, .unset, .unset, .unset, .unset, .unset, .unset, .unset] [])
  refine Go.iloadN X0 hx (hb hby at_0) rfl rfl  ?_
  refine Go.iconst X0 hx (hb hby at_1) rfl (1 : Int32) rfl ?_
  refine Go.iand X0 hx (hb hby at_2) rfl ?_
  by_cases hc1 : (x0 &&& (1 : Int32)) = (0 : Int32)
  · refine Go.ifYes X0 hx (hb hby at_3) rfl 10 ((if0 _ _).trans (teq hc1).1) (by decide) (by decide) ?_
    refine Go.iconst X0 hx (hb hby at_10) rfl (0 : Int32) rfl ?_
    refine Go.istore X0 hx (hb hby at_11) rfl  #[.val (.int x0), .val (.int x1), .val (.int x2), .val (.int x3), .val (.int x4), .val (.long x5), .second, .val (.int (0 : Int32)), .unset, .unset, .unset, .unset, .unset, .unset, .unset, .unset, .unset, .unset, .unset, .unset, .unset, .unset, .unset] rfl ?_
    refine Go.iload X0 hx (hb hby at_13) rfl rfl  ?_
    refine Go.ifNo X0 hx (hb hby at_15) rfl ((if0 _ _).trans (teq (by decide : (0 : Int32) = (0 : Int32))).2) ?_
    refine Go.iloadN X0 hx (hb hby at_18) rfl rfl  ?_
    refine Go.iconst X0 hx (hb hby at_19) rfl (2 : Int32) rfl ?_
    refine Go.iand X0 hx (hb hby at_20) rfl ?_
    by_cases hc2 : (x0 &&& (2 : Int32)) = (0 : Int32)
    · refine Go.ifYes X0 hx (hb hby at_21) rfl 28 ((if0 _ _).trans (teq hc2).1) (by decide) (by decide) ?_
      refine Go.iconst X0 hx (hb hby at_28) rfl (0 : Int32) rfl ?_
      refine Go.istore X0 hx (hb hby at_29) rfl  #[.val (.int x0), .val (.int x1), .val (.int x2), .val (.int x3), .val (.int x4), .val (.long x5), .second, .val (.int (0 : Int32)), .val (.int (0 : Int32)), .unset, .unset, .unset, .unset, .unset, .unset, .unset, .unset, .unset, .unset, .unset, .unset, .unset, .unset] rfl ?_
      refine Go.iloadN X0 hx (hb hby at_31) rfl rfl  ?_
      refine Go.iconst X0 hx (hb hby at_32) rfl (2 : Int32) rfl ?_
      refine Go.iushr X0 hx (hb hby at_33) rfl ?_
      refine Go.iconst X0 hx (hb hby at_34) rfl (3 : Int32) rfl ?_
      refine Go.iand X0 hx (hb hby at_35) rfl ?_
      refine Go.iconst X0 hx (hb hby at_36) rfl (3 : Int32) rfl ?_
      refine Go.irem X0 hx (hb hby at_37) rfl (by decide) ?_
      rcases own_len3 x0 with hk | hk | hk
      · show Go p e below _ s₁ (mkF m 38 #[.val (.int x0), .val (.int x1), .val (.int x2), .val (.int x3), .val (.int x4), .val (.long x5), .second, .val (.int (0 : Int32)), .val (.int (0 : Int32)), .unset, .unset, .unset, .unset, .unset, .unset, .unset, .unset, .unset, .unset, .unset, .unset, .unset, .unset] [(.int (((((x0).toUInt32 >>> ((2 : Int32) &&& 31).toUInt32).toInt32) &&& (3 : Int32)) % (3 : Int32)))])
        rw [hk]
        refine Go.istore X0 hx (hb hby at_38) rfl  #[.val (.int x0), .val (.int x1), .val (.int x2), .val (.int x3), .val (.int x4), .val (.long x5), .second, .val (.int (0 : Int32)), .val (.int (0 : Int32)), .val (.int (0 : Int32)), .unset, .unset, .unset, .unset, .unset, .unset, .unset, .unset, .unset, .unset, .unset, .unset, .unset] rfl ?_
        refine Go.iloadN X0 hx (hb hby at_40) rfl rfl  ?_
        refine Go.iconst X0 hx (hb hby at_41) rfl (4 : Int32) rfl ?_
        refine Go.ishr X0 hx (hb hby at_42) rfl ?_
        refine Go.istore X0 hx (hb hby at_43) rfl  #[.val (.int x0), .val (.int x1), .val (.int x2), .val (.int x3), .val (.int x4), .val (.long x5), .second, .val (.int (0 : Int32)), .val (.int (0 : Int32)), .val (.int (0 : Int32)), .val (.int ((x0 >>> ((4 : Int32) &&& 31)))), .unset, .unset, .unset, .unset, .unset, .unset, .unset, .unset, .unset, .unset, .unset, .unset] rfl ?_
        refine Go.iload X0 hx (hb hby at_45) rfl rfl  ?_
        refine Go.ifYes X0 hx (hb hby at_47) rfl 56 ((if0 _ _).trans (teq (by decide : (0 : Int32) = (0 : Int32))).1) (by decide) (by decide) ?_
        refine Go.getS X0 hx hZ hown (host := "") (Or.inl (wd 0 rfl)) Via.refl e0 (S_DM.ext O0.2) (hb hby at_56) rfl ?_
        intro T3 X3 e3
        refine Go.astore X3 hx (hb hby at_59) rfl rfl #[.val (.int x0), .val (.int x1), .val (.int x2), .val (.int x3), .val (.int x4), .val (.long x5), .second, .val (.int (0 : Int32)), .val (.int (0 : Int32)), .val (.int (0 : Int32)), .val (.int ((x0 >>> ((4 : Int32) &&& 31)))), .val (.ref a_DM), .unset, .unset, .unset, .unset, .unset, .unset, .unset, .unset, .unset, .unset, .unset] rfl ?_
        refine Go.iload X3 hx (hb hby at_61) rfl rfl  ?_
        refine Go.newP X3 hx hZ (wd 3 rfl) e3 0 (by decide) 0 (by decide) (by decide) (Nat.le_of_ble_eq_true rfl) (Nat.le_of_ble_eq_true rfl) "[I" (by decide) (hb hby at_63) rfl ?_
        intro T4 h4 b4 k4 g4 X4 e4 E4 V4' A4
        have V4 : Arv Z h4 b4 k4 .int (0 : Int32) [] (.int (0 : Int32)) := V4'
        have q4 : Z.heap.size ≤ b4 := Nat.le_trans O0.2.1 (Nat.le_of_eq g4.symm)
        have O5 := O0.ext E4
        refine Go.astore X4 hx (hb hby at_65) rfl rfl #[.val (.int x0), .val (.int x1), .val (.int x2), .val (.int x3), .val (.int x4), .val (.long x5), .second, .val (.int (0 : Int32)), .val (.int (0 : Int32)), .val (.int (0 : Int32)), .val (.int ((x0 >>> ((4 : Int32) &&& 31)))), .val (.ref a_DM), .val (.ref b4), .unset, .unset, .unset, .unset, .unset, .unset, .unset, .unset, .unset, .unset] rfl ?_
        refine Go.iload X4 hx (hb hby at_67) rfl rfl  ?_
        refine Go.newP X4 hx hZ (wd 3 rfl) e4 0 (by decide) 0 (by decide) (by decide) (Nat.le_of_ble_eq_true rfl) (Nat.le_of_ble_eq_true rfl) "[I" (by decide) (hb hby at_69) rfl ?_
        intro T6 h6 b6 k6 g6 X6 e6 E6 V6' A6
        have V6 : Arv Z h6 b6 k6 .int (0 : Int32) [] (.int (0 : Int32)) := V6'
        have q6 : Z.heap.size ≤ b6 := Nat.le_trans O5.2.1 (Nat.le_of_eq g6.symm)
        have ne_b4_b6 : b4 ≠ b6 := Nat.ne_of_lt (Nat.lt_of_lt_of_le V4.lt (Nat.le_of_eq g6.symm))
        have O7 := O5.ext E6
        have V8 := V4.ext E6
        refine Go.astore X6 hx (hb hby at_71) rfl rfl #[.val (.int x0), .val (.int x1), .val (.int x2), .val (.int x3), .val (.int x4), .val (.long x5), .second, .val (.int (0 : Int32)), .val (.int (0 : Int32)), .val (.int (0 : Int32)), .val (.int ((x0 >>> ((4 : Int32) &&& 31)))), .val (.ref a_DM), .val (.ref b4), .val (.ref b6), .unset, .unset, .unset, .unset, .unset, .unset, .unset, .unset, .unset] rfl ?_
        refine Go.iload X6 hx (hb hby at_73) rfl rfl  ?_
        refine Go.ifYes X6 hx (hb hby at_75) rfl 88 ((if0 _ _).trans (flt (by decide : ¬ ((0 : Int32) < (0 : Int32)))).2.2.2) (by decide) (by decide) ?_
        refine Go.iload X6 hx (hb hby at_88) rfl rfl  ?_
        refine Go.iconst X6 hx (hb hby at_90) rfl (1 : Int32) rfl ?_
        refine Go.icmpYes X6 hx (hb hby at_91) rfl 105 (flt (by decide : ¬ ((1 : Int32) < (0 : Int32)))).2.2.2 (by decide) (by decide) ?_
        refine Go.lconst X6 hx (hb hby at_105) rfl (0 : Int64) rfl ?_
        refine Go.lstore X6 hx (hb hby at_106) rfl  #[.val (.int x0), .val (.int x1), .val (.int x2), .val (.int x3), .val (.int x4), .val (.long x5), .second, .val (.int (0 : Int32)), .val (.int (0 : Int32)), .val (.int (0 : Int32)), .val (.int ((x0 >>> ((4 : Int32) &&& 31)))), .val (.ref a_DM), .val (.ref b4), .val (.ref b6), .val (.long (0 : Int64)), .second, .unset, .unset, .unset, .unset, .unset, .unset, .unset] rfl ?_
        refine Go.lconst X6 hx (hb hby at_108) rfl (0 : Int64) rfl ?_
        refine Go.lstore X6 hx (hb hby at_109) rfl  #[.val (.int x0), .val (.int x1), .val (.int x2), .val (.int x3), .val (.int x4), .val (.long x5), .second, .val (.int (0 : Int32)), .val (.int (0 : Int32)), .val (.int (0 : Int32)), .val (.int ((x0 >>> ((4 : Int32) &&& 31)))), .val (.ref a_DM), .val (.ref b4), .val (.ref b6), .val (.long (0 : Int64)), .second, .val (.long (0 : Int64)), .second, .unset, .unset, .unset, .unset, .unset] rfl ?_
        refine Go.iload X6 hx (hb hby at_111) rfl rfl  ?_
        refine Go.ifYes X6 hx (hb hby at_113) rfl 153 ((if0 _ _).trans (flt (by decide : ¬ ((0 : Int32) < (0 : Int32)))).2.2.2) (by decide) (by decide) ?_
        refine Go.iload X6 hx (hb hby at_153) rfl rfl  ?_
        refine Go.iconst X6 hx (hb hby at_155) rfl (1 : Int32) rfl ?_
        refine Go.icmpYes X6 hx (hb hby at_156) rfl 197 (flt (by decide : ¬ ((1 : Int32) < (0 : Int32)))).2.2.2 (by decide) (by decide) ?_
        refine Go.iload X6 hx (hb hby at_197) rfl rfl  ?_
        refine Go.ifYes X6 hx (hb hby at_199) rfl 206 ((if0 _ _).trans (teq (by decide : (0 : Int32) = (0 : Int32))).1) (by decide) (by decide) ?_
        refine Go.lload X6 hx (hb hby at_206) rfl rfl  ?_
        refine Go.lstore X6 hx (hb hby at_208) rfl  #[.val (.int x0), .val (.int x1), .val (.int x2), .val (.int x3), .val (.int x4), .val (.long x5), .second, .val (.int (0 : Int32)), .val (.int (0 : Int32)), .val (.int (0 : Int32)), .val (.int ((x0 >>> ((4 : Int32) &&& 31)))), .val (.ref a_DM), .val (.ref b4), .val (.ref b6), .val (.long (0 : Int64)), .second, .val (.long (0 : Int64)), .second, .val (.long x5), .second, .unset, .unset, .unset] rfl ?_
        refine Go.lload X6 hx (hb hby at_210) rfl rfl  ?_
        refine Go.lload X6 hx (hb hby at_212) rfl rfl  ?_
        refine Go.lload X6 hx (hb hby at_214) rfl rfl  ?_
        refine Go.lmul X6 hx (hb hby at_216) rfl ?_
        refine Go.ladd X6 hx (hb hby at_217) rfl ?_
        refine Go.lstore X6 hx (hb hby at_218) rfl  #[.val (.int x0), .val (.int x1), .val (.int x2), .val (.int x3), .val (.int x4), .val (.long x5), .second, .val (.int (0 : Int32)), .val (.int (0 : Int32)), .val (.int (0 : Int32)), .val (.int ((x0 >>> ((4 : Int32) &&& 31)))), .val (.ref a_DM), .val (.ref b4), .val (.ref b6), .val (.long (0 : Int64)), .second, .val (.long (0 : Int64)), .second, .val (.long x5), .second, .val (.long ((0 : Int64) + ((0 : Int64) * x5))), .second, .unset] rfl ?_
        refine Go.aload X6 hx (hb hby at_220) rfl rfl rfl ?_
        refine Go.aload X6 hx (hb hby at_222) rfl rfl rfl ?_
        refine Go.iload X6 hx (hb hby at_224) rfl rfl  ?_
        refine Go.ifYes X6 hx (hb hby at_226) rfl 233 ((if0 _ _).trans (teq (by decide : (0 : Int32) = (0 : Int32))).1) (by decide) (by decide) ?_
        refine Go.aload X6 hx (hb hby at_233) rfl rfl rfl ?_
        refine Go.lload X6 hx (hb hby at_235) rfl rfl  ?_
        refine Go.iload X6 hx (hb hby at_237) rfl rfl  ?_
        refine Go.callV X6 hx hZ hown (wd 4 rfl) (wd 5 rfl) (notFace_of_selects (args := #[]) (mvT hZ (wd 7 rfl))) (wd 7 rfl) (wd 6 rfl) (wd 1 rfl) (wd 8 rfl) (by decide) [(.ref b4), (.ref b6), (.long x5), (.int ((x0 >>> ((4 : Int32) &&& 31))))] [] (E_DM.ext O7.2) (rmEv000 l Z a0 hw b4 b6 k4 k6 x5 ((x0 >>> ((4 : Int32) &&& 31))) a_DM a_CM h6 O7 FF V8 V6) e6 rfl (by rw [hml]; rfl) pd_3 rfl (hb hby at_239) (Nat.le_of_ble_eq_true rfl) (Nat.le_of_ble_eq_true rfl) (Nat.le_of_ble_eq_true rfl) (Nat.le_of_ble_eq_true rfl) ?_
        rintro vv9 T9 L9 X9 Q9
        obtain ⟨b9, rfl, N9, K9, sz9, E9, Fs9, Fc9⟩ := Q9
        have M10 := Fr.app (Fr.nil _) N9
        have q9 : Z.heap.size ≤ b9 := Nat.le_trans O7.2.1 sz9
        have ne_b4_b9 : b4 ≠ b9 := Nat.ne_of_lt (Nat.lt_of_lt_of_le V8.lt sz9)
        have ne_b6_b9 : b6 ≠ b9 := Nat.ne_of_lt (Nat.lt_of_lt_of_le V6.lt sz9)
        have O11 := O7.keep K9 (all0)
        have V12 := V8.keep K9 (nin0)
        have V13 := V6.keep K9 (nin0)
        refine Go.astore X9 hx (hb hby at_242) rfl rfl #[.val (.int x0), .val (.int x1), .val (.int x2), .val (.int x3), .val (.int x4), .val (.long x5), .second, .val (.int (0 : Int32)), .val (.int (0 : Int32)), .val (.int (0 : Int32)), .val (.int ((x0 >>> ((4 : Int32) &&& 31)))), .val (.ref a_DM), .val (.ref b4), .val (.ref b6), .val (.long (0 : Int64)), .second, .val (.long (0 : Int64)), .second, .val (.long x5), .second, .val (.long ((0 : Int64) + ((0 : Int64) * x5))), .second, .val (.ref b9)] rfl ?_
        refine Go.aload X9 hx (hb hby at_244) rfl rfl rfl ?_
        refine Go.pureV X9 hx hZ hown (wd 33 rfl) (wd 34 rfl) (notFace_of_selects (args := #[]) (mvT hZ (wd 36 rfl))) (wd 36 rfl) (wd 35 rfl) (wd 11 rfl) (wd 37 rfl) (by decide) [] [] E9 (rmS l Z a0 hw b9 (0 : Int64) T9.heap Fs9) rfl rfl (by rw [hml]; rfl) pd_4 rfl (hb hby at_246) (Nat.le_of_ble_eq_true rfl) (Nat.le_of_ble_eq_true rfl) (Nat.le_of_ble_eq_true rfl) (Nat.le_of_ble_eq_true rfl) ?_
        intro T14 X14 e14
        refine Go.lload X14 hx (hb hby at_249) rfl rfl  ?_
        refine Go.lcmp X14 hx (hb hby at_251) rfl ?_
        refine Go.ifNo X14 hx (hb hby at_252) rfl ((if0 _ _).trans (teq ((lw_eq (0 : Int64) (0 : Int64)).mpr (by decide : (0 : Int64) = (0 : Int64)))).2) ?_
        refine Go.aload X14 hx (hb hby at_255) rfl rfl rfl ?_
        refine Go.pureV X14 hx hZ hown (wd 38 rfl) (wd 39 rfl) (notFace_of_selects (args := #[]) (mvT hZ (wd 41 rfl))) (wd 41 rfl) (wd 40 rfl) (wd 11 rfl) (wd 42 rfl) (by decide) [] [] E9 (rmC l Z a0 hw b9 ((0 : Int64) + ((0 : Int64) * x5)) T9.heap Fc9) e14 rfl (by rw [hml]; rfl) pd_4 rfl (hb hby at_257) (Nat.le_of_ble_eq_true rfl) (Nat.le_of_ble_eq_true rfl) (Nat.le_of_ble_eq_true rfl) (Nat.le_of_ble_eq_true rfl) ?_
        intro T15 X15 e15
        refine Go.lload X15 hx (hb hby at_260) rfl rfl  ?_
        refine Go.lcmp X15 hx (hb hby at_262) rfl ?_
        refine Go.ifNo X15 hx (hb hby at_263) rfl ((if0 _ _).trans (teq ((lw_eq ((0 : Int64) + ((0 : Int64) * x5)) ((0 : Int64) + ((0 : Int64) * x5))).mpr (rfl : ((0 : Int64) + ((0 : Int64) * x5)) = ((0 : Int64) + ((0 : Int64) * x5))))).2) ?_
        refine Go.iconst X15 hx (hb hby at_266) rfl (1 : Int32) rfl ?_
        refine Go.goto X15 hx (hb hby at_267) rfl 271 (by decide) (by decide) ?_
        exact Go.retZ X15 hx (z' := (1 : Int32)) hret hlk (hb hby at_271) rfl (by decide) ⟨by first | rfl | simp [hc1, hc2], M10⟩ (Nat.le_of_ble_eq_true rfl) (Nat.le_of_ble_eq_true rfl)
      · show Go p e below _ s₁ (mkF m 38 #[.val (.int x0), .val (.int x1), .val (.int x2), .val (.int x3), .val (.int x4), .val (.long x5), .second, .val (.int (0 : Int32)), .val (.int (0 : Int32)), .unset, .unset, .unset, .unset, .unset, .unset, .unset, .unset, .unset, .unset, .unset, .unset, .unset, .unset] [(.int (((((x0).toUInt32 >>> ((2 : Int32) &&& 31).toUInt32).toInt32) &&& (3 : Int32)) % (3 : Int32)))])
        rw [hk]
        refine Go.istore X0 hx (hb hby at_38) rfl  #[.val (.int x0), .val (.int x1), .val (.int x2), .val (.int x3), .val (.int x4), .val (.long x5), .second, .val (.int (0 : Int32)), .val (.int (0 : Int32)), .val (.int (1 : Int32)), .unset, .unset, .unset, .unset, .unset, .unset, .unset, .unset, .unset, .unset, .unset, .unset, .unset] rfl ?_
        refine Go.iloadN X0 hx (hb hby at_40) rfl rfl  ?_
        refine Go.iconst X0 hx (hb hby at_41) rfl (4 : Int32) rfl ?_
        refine Go.ishr X0 hx (hb hby at_42) rfl ?_
        refine Go.istore X0 hx (hb hby at_43) rfl  #[.val (.int x0), .val (.int x1), .val (.int x2), .val (.int x3), .val (.int x4), .val (.long x5), .second, .val (.int (0 : Int32)), .val (.int (0 : Int32)), .val (.int (1 : Int32)), .val (.int ((x0 >>> ((4 : Int32) &&& 31)))), .unset, .unset, .unset, .unset, .unset, .unset, .unset, .unset, .unset, .unset, .unset, .unset] rfl ?_
        refine Go.iload X0 hx (hb hby at_45) rfl rfl  ?_
        refine Go.ifYes X0 hx (hb hby at_47) rfl 56 ((if0 _ _).trans (teq (by decide : (0 : Int32) = (0 : Int32))).1) (by decide) (by decide) ?_
        refine Go.getS X0 hx hZ hown (host := "") (Or.inl (wd 0 rfl)) Via.refl e0 (S_DM.ext O0.2) (hb hby at_56) rfl ?_
        intro T16 X16 e16
        refine Go.astore X16 hx (hb hby at_59) rfl rfl #[.val (.int x0), .val (.int x1), .val (.int x2), .val (.int x3), .val (.int x4), .val (.long x5), .second, .val (.int (0 : Int32)), .val (.int (0 : Int32)), .val (.int (1 : Int32)), .val (.int ((x0 >>> ((4 : Int32) &&& 31)))), .val (.ref a_DM), .unset, .unset, .unset, .unset, .unset, .unset, .unset, .unset, .unset, .unset, .unset] rfl ?_
        refine Go.iload X16 hx (hb hby at_61) rfl rfl  ?_
        refine Go.newP X16 hx hZ (wd 3 rfl) e16 1 (by decide) 1 (by decide) (by decide) (Nat.le_of_ble_eq_true rfl) (Nat.le_of_ble_eq_true rfl) "[I" (by decide) (hb hby at_63) rfl ?_
        intro T17 h17 b17 k17 g17 X17 e17 E17 V17' A17
        have V17 : Arv Z h17 b17 k17 .int (1 : Int32) [(.int (0 : Int32))] (.int (0 : Int32)) := V17'
        have q17 : Z.heap.size ≤ b17 := Nat.le_trans O0.2.1 (Nat.le_of_eq g17.symm)
        have O18 := O0.ext E17
        refine Go.astore X17 hx (hb hby at_65) rfl rfl #[.val (.int x0), .val (.int x1), .val (.int x2), .val (.int x3), .val (.int x4), .val (.long x5), .second, .val (.int (0 : Int32)), .val (.int (0 : Int32)), .val (.int (1 : Int32)), .val (.int ((x0 >>> ((4 : Int32) &&& 31)))), .val (.ref a_DM), .val (.ref b17), .unset, .unset, .unset, .unset, .unset, .unset, .unset, .unset, .unset, .unset] rfl ?_
        refine Go.iload X17 hx (hb hby at_67) rfl rfl  ?_
        refine Go.newP X17 hx hZ (wd 3 rfl) e17 1 (by decide) 1 (by decide) (by decide) (Nat.le_of_ble_eq_true rfl) (Nat.le_of_ble_eq_true rfl) "[I" (by decide) (hb hby at_69) rfl ?_
        intro T19 h19 b19 k19 g19 X19 e19 E19 V19' A19
        have V19 : Arv Z h19 b19 k19 .int (1 : Int32) [(.int (0 : Int32))] (.int (0 : Int32)) := V19'
        have q19 : Z.heap.size ≤ b19 := Nat.le_trans O18.2.1 (Nat.le_of_eq g19.symm)
        have ne_b17_b19 : b17 ≠ b19 := Nat.ne_of_lt (Nat.lt_of_lt_of_le V17.lt (Nat.le_of_eq g19.symm))
        have O20 := O18.ext E19
        have V21 := V17.ext E19
        refine Go.astore X19 hx (hb hby at_71) rfl rfl #[.val (.int x0), .val (.int x1), .val (.int x2), .val (.int x3), .val (.int x4), .val (.long x5), .second, .val (.int (0 : Int32)), .val (.int (0 : Int32)), .val (.int (1 : Int32)), .val (.int ((x0 >>> ((4 : Int32) &&& 31)))), .val (.ref a_DM), .val (.ref b17), .val (.ref b19), .unset, .unset, .unset, .unset, .unset, .unset, .unset, .unset, .unset] rfl ?_
        refine Go.iload X19 hx (hb hby at_73) rfl rfl  ?_
        refine Go.ifNo X19 hx (hb hby at_75) rfl ((if0 _ _).trans (tlt (by decide : (0 : Int32) < (1 : Int32))).2.2.2) ?_
        refine Go.aload X19 hx (hb hby at_78) rfl rfl rfl ?_
        refine Go.iconst X19 hx (hb hby at_80) rfl (0 : Int32) rfl ?_
        refine Go.iloadN X19 hx (hb hby at_81) rfl rfl  ?_
        refine Go.iastore X19 hx hZ V21 e19 ⟨by decide, by decide⟩ 0 (by decide) (Nat.le_of_ble_eq_true rfl)  (hb hby at_82) rfl ?_
        intro T22 h22 X22 e22 W22 V22'
        have V22 : Arv Z h22 b17 k17 .int (1 : Int32) [(.int x1)] (.int (0 : Int32)) := V22'
        have O23 := O20.wr W22 q17
        have N24 := Fr.snoc X22 (Fr.nil _) q17
        have V25 := V19.other W22 (Ne.symm ne_b17_b19)
        refine Go.aload X22 hx (hb hby at_83) rfl rfl rfl ?_
        refine Go.iconst X22 hx (hb hby at_85) rfl (0 : Int32) rfl ?_
        refine Go.iloadN X22 hx (hb hby at_86) rfl rfl  ?_
        refine Go.iastore X22 hx hZ V25 e22 ⟨by decide, by decide⟩ 0 (by decide) (Nat.le_of_ble_eq_true rfl)  (hb hby at_87) rfl ?_
        intro T26 h26 X26 e26 W26 V26'
        have V26 : Arv Z h26 b19 k19 .int (1 : Int32) [(.int x3)] (.int (0 : Int32)) := V26'
        have O27 := O23.wr W26 q19
        have N28 := Fr.snoc X26 N24 q19
        have V29 := V22.other W26 ne_b17_b19
        refine Go.iload X26 hx (hb hby at_88) rfl rfl  ?_
        refine Go.iconst X26 hx (hb hby at_90) rfl (1 : Int32) rfl ?_
        refine Go.icmpYes X26 hx (hb hby at_91) rfl 105 (flt (by decide : ¬ ((1 : Int32) < (1 : Int32)))).2.2.2 (by decide) (by decide) ?_
        refine Go.lconst X26 hx (hb hby at_105) rfl (0 : Int64) rfl ?_
        refine Go.lstore X26 hx (hb hby at_106) rfl  #[.val (.int x0), .val (.int x1), .val (.int x2), .val (.int x3), .val (.int x4), .val (.long x5), .second, .val (.int (0 : Int32)), .val (.int (0 : Int32)), .val (.int (1 : Int32)), .val (.int ((x0 >>> ((4 : Int32) &&& 31)))), .val (.ref a_DM), .val (.ref b17), .val (.ref b19), .val (.long (0 : Int64)), .second, .unset, .unset, .unset, .unset, .unset, .unset, .unset] rfl ?_
        refine Go.lconst X26 hx (hb hby at_108) rfl (0 : Int64) rfl ?_
        refine Go.lstore X26 hx (hb hby at_109) rfl  #[.val (.int x0), .val (.int x1), .val (.int x2), .val (.int x3), .val (.int x4), .val (.long x5), .second, .val (.int (0 : Int32)), .val (.int (0 : Int32)), .val (.int (1 : Int32)), .val (.int ((x0 >>> ((4 : Int32) &&& 31)))), .val (.ref a_DM), .val (.ref b17), .val (.ref b19), .val (.long (0 : Int64)), .second, .val (.long (0 : Int64)), .second, .unset, .unset, .unset, .unset, .unset] rfl ?_
        refine Go.iload X26 hx (hb hby at_111) rfl rfl  ?_
        refine Go.ifNo X26 hx (hb hby at_113) rfl ((if0 _ _).trans (tlt (by decide : (0 : Int32) < (1 : Int32))).2.2.2) ?_
        refine Go.iloadN X26 hx (hb hby at_116) rfl rfl  ?_
        refine Go.iload X26 hx (hb hby at_117) rfl rfl  ?_
        by_cases hc30 : x1 < ((x0 >>> ((4 : Int32) &&& 31)))
        · refine Go.icmpNo X26 hx (hb hby at_119) rfl (tlt hc30).2.1 ?_
          refine Go.lload X26 hx (hb hby at_122) rfl rfl  ?_
          refine Go.iloadN X26 hx (hb hby at_124) rfl rfl  ?_
          refine Go.i2l X26 hx (hb hby at_125) rfl ?_
          refine Go.ladd X26 hx (hb hby at_126) rfl ?_
          refine Go.lstore X26 hx (hb hby at_127) rfl  #[.val (.int x0), .val (.int x1), .val (.int x2), .val (.int x3), .val (.int x4), .val (.long x5), .second, .val (.int (0 : Int32)), .val (.int (0 : Int32)), .val (.int (1 : Int32)), .val (.int ((x0 >>> ((4 : Int32) &&& 31)))), .val (.ref a_DM), .val (.ref b17), .val (.ref b19), .val (.long ((0 : Int64) + ((x1).toInt64))), .second, .val (.long (0 : Int64)), .second, .unset, .unset, .unset, .unset, .unset] rfl ?_
          refine Go.goto X26 hx (hb hby at_129) rfl 153 (by decide) (by decide) ?_
          refine Go.iload X26 hx (hb hby at_153) rfl rfl  ?_
          refine Go.iconst X26 hx (hb hby at_155) rfl (1 : Int32) rfl ?_
          refine Go.icmpYes X26 hx (hb hby at_156) rfl 197 (flt (by decide : ¬ ((1 : Int32) < (1 : Int32)))).2.2.2 (by decide) (by decide) ?_
          refine Go.iload X26 hx (hb hby at_197) rfl rfl  ?_
          refine Go.ifYes X26 hx (hb hby at_199) rfl 206 ((if0 _ _).trans (teq (by decide : (0 : Int32) = (0 : Int32))).1) (by decide) (by decide) ?_
          refine Go.lload X26 hx (hb hby at_206) rfl rfl  ?_
          refine Go.lstore X26 hx (hb hby at_208) rfl  #[.val (.int x0), .val (.int x1), .val (.int x2), .val (.int x3), .val (.int x4), .val (.long x5), .second, .val (.int (0 : Int32)), .val (.int (0 : Int32)), .val (.int (1 : Int32)), .val (.int ((x0 >>> ((4 : Int32) &&& 31)))), .val (.ref a_DM), .val (.ref b17), .val (.ref b19), .val (.long ((0 : Int64) + ((x1).toInt64))), .second, .val (.long (0 : Int64)), .second, .val (.long x5), .second, .unset, .unset, .unset] rfl ?_
          refine Go.lload X26 hx (hb hby at_210) rfl rfl  ?_
          refine Go.lload X26 hx (hb hby at_212) rfl rfl  ?_
          refine Go.lload X26 hx (hb hby at_214) rfl rfl  ?_
          refine Go.lmul X26 hx (hb hby at_216) rfl ?_
          refine Go.ladd X26 hx (hb hby at_217) rfl ?_
          refine Go.lstore X26 hx (hb hby at_218) rfl  #[.val (.int x0), .val (.int x1), .val (.int x2), .val (.int x3), .val (.int x4), .val (.long x5), .second, .val (.int (0 : Int32)), .val (.int (0 : Int32)), .val (.int (1 : Int32)), .val (.int ((x0 >>> ((4 : Int32) &&& 31)))), .val (.ref a_DM), .val (.ref b17), .val (.ref b19), .val (.long ((0 : Int64) + ((x1).toInt64))), .second, .val (.long (0 : Int64)), .second, .val (.long x5), .second, .val (.long ((0 : Int64) + (((0 : Int64) + ((x1).toInt64)) * x5))), .second, .unset] rfl ?_
          refine Go.aload X26 hx (hb hby at_220) rfl rfl rfl ?_
          refine Go.aload X26 hx (hb hby at_222) rfl rfl rfl ?_
          refine Go.iload X26 hx (hb hby at_224) rfl rfl  ?_
          refine Go.ifYes X26 hx (hb hby at_226) rfl 233 ((if0 _ _).trans (teq (by decide : (0 : Int32) = (0 : Int32))).1) (by decide) (by decide) ?_
          refine Go.aload X26 hx (hb hby at_233) rfl rfl rfl ?_
          refine Go.lload X26 hx (hb hby at_235) rfl rfl  ?_
          refine Go.iload X26 hx (hb hby at_237) rfl rfl  ?_
          refine Go.callV X26 hx hZ hown (wd 4 rfl) (wd 5 rfl) (notFace_of_selects (args := #[]) (mvT hZ (wd 7 rfl))) (wd 7 rfl) (wd 6 rfl) (wd 1 rfl) (wd 8 rfl) (by decide) [(.ref b17), (.ref b19), (.long x5), (.int ((x0 >>> ((4 : Int32) &&& 31))))] [] (E_DM.ext O27.2) (rmEv001t l Z a0 hw b17 b19 k17 k19 x1 x3 x5 ((x0 >>> ((4 : Int32) &&& 31))) a_DM a_CM h26 O27 FF V29 V26 hc30) e26 rfl (by rw [hml]; rfl) pd_3 rfl (hb hby at_239) (Nat.le_of_ble_eq_true rfl) (Nat.le_of_ble_eq_true rfl) (Nat.le_of_ble_eq_true rfl) (Nat.le_of_ble_eq_true rfl) ?_
          rintro vv31 T31 L31 X31 Q31
          obtain ⟨b31, rfl, N31, K31, sz31, E31, Fs31, Fc31⟩ := Q31
          have M32 := Fr.app N28 N31
          have q31 : Z.heap.size ≤ b31 := Nat.le_trans O27.2.1 sz31
          have ne_b17_b31 : b17 ≠ b31 := Nat.ne_of_lt (Nat.lt_of_lt_of_le V29.lt sz31)
          have ne_b19_b31 : b19 ≠ b31 := Nat.ne_of_lt (Nat.lt_of_lt_of_le V26.lt sz31)
          have O33 := O27.keep K31 (all0)
          have V34 := V29.keep K31 (nin0)
          have V35 := V26.keep K31 (nin0)
          refine Go.astore X31 hx (hb hby at_242) rfl rfl #[.val (.int x0), .val (.int x1), .val (.int x2), .val (.int x3), .val (.int x4), .val (.long x5), .second, .val (.int (0 : Int32)), .val (.int (0 : Int32)), .val (.int (1 : Int32)), .val (.int ((x0 >>> ((4 : Int32) &&& 31)))), .val (.ref a_DM), .val (.ref b17), .val (.ref b19), .val (.long ((0 : Int64) + ((x1).toInt64))), .second, .val (.long (0 : Int64)), .second, .val (.long x5), .second, .val (.long ((0 : Int64) + (((0 : Int64) + ((x1).toInt64)) * x5))), .second, .val (.ref b31)] rfl ?_
          refine Go.aload X31 hx (hb hby at_244) rfl rfl rfl ?_
          refine Go.pureV X31 hx hZ hown (wd 33 rfl) (wd 34 rfl) (notFace_of_selects (args := #[]) (mvT hZ (wd 36 rfl))) (wd 36 rfl) (wd 35 rfl) (wd 11 rfl) (wd 37 rfl) (by decide) [] [] E31 (rmS l Z a0 hw b31 ((0 : Int64) + ((x1).toInt64)) T31.heap Fs31) rfl rfl (by rw [hml]; rfl) pd_4 rfl (hb hby at_246) (Nat.le_of_ble_eq_true rfl) (Nat.le_of_ble_eq_true rfl) (Nat.le_of_ble_eq_true rfl) (Nat.le_of_ble_eq_true rfl) ?_
          intro T36 X36 e36
          refine Go.lload X36 hx (hb hby at_249) rfl rfl  ?_
          refine Go.lcmp X36 hx (hb hby at_251) rfl ?_
          refine Go.ifNo X36 hx (hb hby at_252) rfl ((if0 _ _).trans (teq ((lw_eq ((0 : Int64) + ((x1).toInt64)) ((0 : Int64) + ((x1).toInt64))).mpr (rfl : ((0 : Int64) + ((x1).toInt64)) = ((0 : Int64) + ((x1).toInt64))))).2) ?_
          refine Go.aload X36 hx (hb hby at_255) rfl rfl rfl ?_
          refine Go.pureV X36 hx hZ hown (wd 38 rfl) (wd 39 rfl) (notFace_of_selects (args := #[]) (mvT hZ (wd 41 rfl))) (wd 41 rfl) (wd 40 rfl) (wd 11 rfl) (wd 42 rfl) (by decide) [] [] E31 (rmC l Z a0 hw b31 ((0 : Int64) + (((0 : Int64) + ((x1).toInt64)) * x5)) T31.heap Fc31) e36 rfl (by rw [hml]; rfl) pd_4 rfl (hb hby at_257) (Nat.le_of_ble_eq_true rfl) (Nat.le_of_ble_eq_true rfl) (Nat.le_of_ble_eq_true rfl) (Nat.le_of_ble_eq_true rfl) ?_
          intro T37 X37 e37
          refine Go.lload X37 hx (hb hby at_260) rfl rfl  ?_
          refine Go.lcmp X37 hx (hb hby at_262) rfl ?_
          refine Go.ifNo X37 hx (hb hby at_263) rfl ((if0 _ _).trans (teq ((lw_eq ((0 : Int64) + (((0 : Int64) + ((x1).toInt64)) * x5)) ((0 : Int64) + (((0 : Int64) + ((x1).toInt64)) * x5))).mpr (rfl : ((0 : Int64) + (((0 : Int64) + ((x1).toInt64)) * x5)) = ((0 : Int64) + (((0 : Int64) + ((x1).toInt64)) * x5))))).2) ?_
          refine Go.iconst X37 hx (hb hby at_266) rfl (1 : Int32) rfl ?_
          refine Go.goto X37 hx (hb hby at_267) rfl 271 (by decide) (by decide) ?_
          exact Go.retZ X37 hx (z' := (1 : Int32)) hret hlk (hb hby at_271) rfl (by decide) ⟨by first | rfl | simp [hc1, hc2, hc30], M32⟩ (Nat.le_of_ble_eq_true rfl) (Nat.le_of_ble_eq_true rfl)
        · refine Go.icmpYes X26 hx (hb hby at_119) rfl 132 (flt hc30).2.1 (by decide) (by decide) ?_
          refine Go.lload X26 hx (hb hby at_132) rfl rfl  ?_
          refine Go.iload X26 hx (hb hby at_134) rfl rfl  ?_
          refine Go.iloadN X26 hx (hb hby at_136) rfl rfl  ?_
          refine Go.iload X26 hx (hb hby at_137) rfl rfl  ?_
          refine Go.ifYes X26 hx (hb hby at_139) rfl 146 ((if0 _ _).trans (teq (by decide : (0 : Int32) = (0 : Int32))).1) (by decide) (by decide) ?_
          refine Go.iloadN X26 hx (hb hby at_146) rfl rfl  ?_
          refine Go.pureS X26 hx hZ hown (wd 43 rfl) (wd 44 rfl) (wd 45 rfl) (wd 46 rfl) (by decide) [(.int (0 : Int32)), (.int x1), (.int x3)] [(.long (0 : Int64))] (rmP0 l Z a0 hw x1 x3 h26) e26 rfl (by rw [hml]; rfl) pd_5 rfl (hb hby at_147) (Nat.le_of_ble_eq_true rfl) (Nat.le_of_ble_eq_true rfl) (Nat.le_of_ble_eq_true rfl) (Nat.le_of_ble_eq_true rfl) ?_
          intro T38 X38 e38
          refine Go.ladd X38 hx (hb hby at_150) rfl ?_
          refine Go.lstore X38 hx (hb hby at_151) rfl  #[.val (.int x0), .val (.int x1), .val (.int x2), .val (.int x3), .val (.int x4), .val (.long x5), .second, .val (.int (0 : Int32)), .val (.int (0 : Int32)), .val (.int (1 : Int32)), .val (.int ((x0 >>> ((4 : Int32) &&& 31)))), .val (.ref a_DM), .val (.ref b17), .val (.ref b19), .val (.long (0 : Int64)), .second, .val (.long ((0 : Int64) + (((x1).toInt64) * ((x1).toInt64)))), .second, .unset, .unset, .unset, .unset, .unset] rfl ?_
          refine Go.iload X38 hx (hb hby at_153) rfl rfl  ?_
          refine Go.iconst X38 hx (hb hby at_155) rfl (1 : Int32) rfl ?_
          refine Go.icmpYes X38 hx (hb hby at_156) rfl 197 (flt (by decide : ¬ ((1 : Int32) < (1 : Int32)))).2.2.2 (by decide) (by decide) ?_
          refine Go.iload X38 hx (hb hby at_197) rfl rfl  ?_
          refine Go.ifYes X38 hx (hb hby at_199) rfl 206 ((if0 _ _).trans (teq (by decide : (0 : Int32) = (0 : Int32))).1) (by decide) (by decide) ?_
          refine Go.lload X38 hx (hb hby at_206) rfl rfl  ?_
          refine Go.lstore X38 hx (hb hby at_208) rfl  #[.val (.int x0), .val (.int x1), .val (.int x2), .val (.int x3), .val (.int x4), .val (.long x5), .second, .val (.int (0 : Int32)), .val (.int (0 : Int32)), .val (.int (1 : Int32)), .val (.int ((x0 >>> ((4 : Int32) &&& 31)))), .val (.ref a_DM), .val (.ref b17), .val (.ref b19), .val (.long (0 : Int64)), .second, .val (.long ((0 : Int64) + (((x1).toInt64) * ((x1).toInt64)))), .second, .val (.long x5), .second, .unset, .unset, .unset] rfl ?_
          refine Go.lload X38 hx (hb hby at_210) rfl rfl  ?_
          refine Go.lload X38 hx (hb hby at_212) rfl rfl  ?_
          refine Go.lload X38 hx (hb hby at_214) rfl rfl  ?_
          refine Go.lmul X38 hx (hb hby at_216) rfl ?_
          refine Go.ladd X38 hx (hb hby at_217) rfl ?_
          refine Go.lstore X38 hx (hb hby at_218) rfl  #[.val (.int x0), .val (.int x1), .val (.int x2), .val (.int x3), .val (.int x4), .val (.long x5), .second, .val (.int (0 : Int32)), .val (.int (0 : Int32)), .val (.int (1 : Int32)), .val (.int ((x0 >>> ((4 : Int32) &&& 31)))), .val (.ref a_DM), .val (.ref b17), .val (.ref b19), .val (.long (0 : Int64)), .second, .val (.long ((0 : Int64) + (((x1).toInt64) * ((x1).toInt64)))), .second, .val (.long x5), .second, .val (.long (((0 : Int64) + (((x1).toInt64) * ((x1).toInt64))) + ((0 : Int64) * x5))), .second, .unset] rfl ?_
          refine Go.aload X38 hx (hb hby at_220) rfl rfl rfl ?_
          refine Go.aload X38 hx (hb hby at_222) rfl rfl rfl ?_
          refine Go.iload X38 hx (hb hby at_224) rfl rfl  ?_
          refine Go.ifYes X38 hx (hb hby at_226) rfl 233 ((if0 _ _).trans (teq (by decide : (0 : Int32) = (0 : Int32))).1) (by decide) (by decide) ?_
          refine Go.aload X38 hx (hb hby at_233) rfl rfl rfl ?_
          refine Go.lload X38 hx (hb hby at_235) rfl rfl  ?_
          refine Go.iload X38 hx (hb hby at_237) rfl rfl  ?_
          refine Go.callV X38 hx hZ hown (wd 4 rfl) (wd 5 rfl) (notFace_of_selects (args := #[]) (mvT hZ (wd 7 rfl))) (wd 7 rfl) (wd 6 rfl) (wd 1 rfl) (wd 8 rfl) (by decide) [(.ref b17), (.ref b19), (.long x5), (.int ((x0 >>> ((4 : Int32) &&& 31))))] [] (E_DM.ext O27.2) (rmEv001f l Z a0 hw b17 b19 k17 k19 x1 x3 x5 ((x0 >>> ((4 : Int32) &&& 31))) a_DM a_CM h26 O27 FF V29 V26 hc30) e38 rfl (by rw [hml]; rfl) pd_3 rfl (hb hby at_239) (Nat.le_of_ble_eq_true rfl) (Nat.le_of_ble_eq_true rfl) (Nat.le_of_ble_eq_true rfl) (Nat.le_of_ble_eq_true rfl) ?_
          rintro vv39 T39 L39 X39 Q39
          obtain ⟨b39, rfl, N39, K39, sz39, E39, Fs39, Fc39⟩ := Q39
          have M40 := Fr.app N28 N39
          have q39 : Z.heap.size ≤ b39 := Nat.le_trans O27.2.1 sz39
          have ne_b17_b39 : b17 ≠ b39 := Nat.ne_of_lt (Nat.lt_of_lt_of_le V29.lt sz39)
          have ne_b19_b39 : b19 ≠ b39 := Nat.ne_of_lt (Nat.lt_of_lt_of_le V26.lt sz39)
          have O41 := O27.keep K39 (all0)
          have V42 := V29.keep K39 (nin0)
          have V43 := V26.keep K39 (nin0)
          refine Go.astore X39 hx (hb hby at_242) rfl rfl #[.val (.int x0), .val (.int x1), .val (.int x2), .val (.int x3), .val (.int x4), .val (.long x5), .second, .val (.int (0 : Int32)), .val (.int (0 : Int32)), .val (.int (1 : Int32)), .val (.int ((x0 >>> ((4 : Int32) &&& 31)))), .val (.ref a_DM), .val (.ref b17), .val (.ref b19), .val (.long (0 : Int64)), .second, .val (.long ((0 : Int64) + (((x1).toInt64) * ((x1).toInt64)))), .second, .val (.long x5), .second, .val (.long (((0 : Int64) + (((x1).toInt64) * ((x1).toInt64))) + ((0 : Int64) * x5))), .second, .val (.ref b39)] rfl ?_
          refine Go.aload X39 hx (hb hby at_244) rfl rfl rfl ?_
          refine Go.pureV X39 hx hZ hown (wd 33 rfl) (wd 34 rfl) (notFace_of_selects (args := #[]) (mvT hZ (wd 36 rfl))) (wd 36 rfl) (wd 35 rfl) (wd 11 rfl) (wd 37 rfl) (by decide) [] [] E39 (rmS l Z a0 hw b39 (0 : Int64) T39.heap Fs39) rfl rfl (by rw [hml]; rfl) pd_4 rfl (hb hby at_246) (Nat.le_of_ble_eq_true rfl) (Nat.le_of_ble_eq_true rfl) (Nat.le_of_ble_eq_true rfl) (Nat.le_of_ble_eq_true rfl) ?_
          intro T44 X44 e44
          refine Go.lload X44 hx (hb hby at_249) rfl rfl  ?_
          refine Go.lcmp X44 hx (hb hby at_251) rfl ?_
          refine Go.ifNo X44 hx (hb hby at_252) rfl ((if0 _ _).trans (teq ((lw_eq (0 : Int64) (0 : Int64)).mpr (by decide : (0 : Int64) = (0 : Int64)))).2) ?_
          refine Go.aload X44 hx (hb hby at_255) rfl rfl rfl ?_
          refine Go.pureV X44 hx hZ hown (wd 38 rfl) (wd 39 rfl) (notFace_of_selects (args := #[]) (mvT hZ (wd 41 rfl))) (wd 41 rfl) (wd 40 rfl) (wd 11 rfl) (wd 42 rfl) (by decide) [] [] E39 (rmC l Z a0 hw b39 (((0 : Int64) + (((x1).toInt64) * ((x1).toInt64))) + ((0 : Int64) * x5)) T39.heap Fc39) e44 rfl (by rw [hml]; rfl) pd_4 rfl (hb hby at_257) (Nat.le_of_ble_eq_true rfl) (Nat.le_of_ble_eq_true rfl) (Nat.le_of_ble_eq_true rfl) (Nat.le_of_ble_eq_true rfl) ?_
          intro T45 X45 e45
          refine Go.lload X45 hx (hb hby at_260) rfl rfl  ?_
          refine Go.lcmp X45 hx (hb hby at_262) rfl ?_
          refine Go.ifNo X45 hx (hb hby at_263) rfl ((if0 _ _).trans (teq ((lw_eq (((0 : Int64) + (((x1).toInt64) * ((x1).toInt64))) + ((0 : Int64) * x5)) (((0 : Int64) + (((x1).toInt64) * ((x1).toInt64))) + ((0 : Int64) * x5))).mpr (rfl : (((0 : Int64) + (((x1).toInt64) * ((x1).toInt64))) + ((0 : Int64) * x5)) = (((0 : Int64) + (((x1).toInt64) * ((x1).toInt64))) + ((0 : Int64) * x5))))).2) ?_
          refine Go.iconst X45 hx (hb hby at_266) rfl (1 : Int32) rfl ?_
          refine Go.goto X45 hx (hb hby at_267) rfl 271 (by decide) (by decide) ?_
          exact Go.retZ X45 hx (z' := (1 : Int32)) hret hlk (hb hby at_271) rfl (by decide) ⟨by first | rfl | simp [hc1, hc2, hc30], M40⟩ (Nat.le_of_ble_eq_true rfl) (Nat.le_of_ble_eq_true rfl)
      · show Go p e below _ s₁ (mkF m 38 #[.val (.int x0), .val (.int x1), .val (.int x2), .val (.int x3), .val (.int x4), .val (.long x5), .second, .val (.int (0 : Int32)), .val (.int (0 : Int32)), .unset, .unset, .unset, .unset, .unset, .unset, .unset, .unset, .unset, .unset, .unset, .unset, .unset, .unset] [(.int (((((x0).toUInt32 >>> ((2 : Int32) &&& 31).toUInt32).toInt32) &&& (3 : Int32)) % (3 : Int32)))])
        rw [hk]
        refine Go.istore X0 hx (hb hby at_38) rfl  #[.val (.int x0), .val (.int x1), .val (.int x2), .val (.int x3), .val (.int x4), .val (.long x5), .second, .val (.int (0 : Int32)), .val (.int (0 : Int32)), .val (.int (2 : Int32)), .unset, .unset, .unset, .unset, .unset, .unset, .unset, .unset, .unset, .unset, .unset, .unset, .unset] rfl ?_
        refine Go.iloadN X0 hx (hb hby at_40) rfl rfl  ?_
        refine Go.iconst X0 hx (hb hby at_41) rfl (4 : Int32) rfl ?_
        refine Go.ishr X0 hx (hb hby at_42) rfl ?_
        refine Go.istore X0 hx (hb hby at_43) rfl  #[.val (.int x0), .val (.int x1), .val (.int x2), .val (.int x3), .val (.int x4), .val (.long x5), .second, .val (.int (0 : Int32)), .val (.int (0 : Int32)), .val (.int (2 : Int32)), .val (.int ((x0 >>> ((4 : Int32) &&& 31)))), .unset, .unset, .unset, .unset, .unset, .unset, .unset, .unset, .unset, .unset, .unset, .unset] rfl ?_
        refine Go.iload X0 hx (hb hby at_45) rfl rfl  ?_
        refine Go.ifYes X0 hx (hb hby at_47) rfl 56 ((if0 _ _).trans (teq (by decide : (0 : Int32) = (0 : Int32))).1) (by decide) (by decide) ?_
        refine Go.getS X0 hx hZ hown (host := "") (Or.inl (wd 0 rfl)) Via.refl e0 (S_DM.ext O0.2) (hb hby at_56) rfl ?_
        intro T46 X46 e46
        refine Go.astore X46 hx (hb hby at_59) rfl rfl #[.val (.int x0), .val (.int x1), .val (.int x2), .val (.int x3), .val (.int x4), .val (.long x5), .second, .val (.int (0 : Int32)), .val (.int (0 : Int32)), .val (.int (2 : Int32)), .val (.int ((x0 >>> ((4 : Int32) &&& 31)))), .val (.ref a_DM), .unset, .unset, .unset, .unset, .unset, .unset, .unset, .unset, .unset, .unset, .unset] rfl ?_
        refine Go.iload X46 hx (hb hby at_61) rfl rfl  ?_
        refine Go.newP X46 hx hZ (wd 3 rfl) e46 2 (by decide) 2 (by decide) (by decide) (Nat.le_of_ble_eq_true rfl) (Nat.le_of_ble_eq_true rfl) "[I" (by decide) (hb hby at_63) rfl ?_
        intro T47 h47 b47 k47 g47 X47 e47 E47 V47' A47
        have V47 : Arv Z h47 b47 k47 .int (2 : Int32) [(.int (0 : Int32)), (.int (0 : Int32))] (.int (0 : Int32)) := V47'
        have q47 : Z.heap.size ≤ b47 := Nat.le_trans O0.2.1 (Nat.le_of_eq g47.symm)
        have O48 := O0.ext E47
        refine Go.astore X47 hx (hb hby at_65) rfl rfl #[.val (.int x0), .val (.int x1), .val (.int x2), .val (.int x3), .val (.int x4), .val (.long x5), .second, .val (.int (0 : Int32)), .val (.int (0 : Int32)), .val (.int (2 : Int32)), .val (.int ((x0 >>> ((4 : Int32) &&& 31)))), .val (.ref a_DM), .val (.ref b47), .unset, .unset, .unset, .unset, .unset, .unset, .unset, .unset, .unset, .unset] rfl ?_
        refine Go.iload X47 hx (hb hby at_67) rfl rfl  ?_
        refine Go.newP X47 hx hZ (wd 3 rfl) e47 2 (by decide) 2 (by decide) (by decide) (Nat.le_of_ble_eq_true rfl) (Nat.le_of_ble_eq_true rfl) "[I" (by decide) (hb hby at_69) rfl ?_
        intro T49 h49 b49 k49 g49 X49 e49 E49 V49' A49
        have V49 : Arv Z h49 b49 k49 .int (2 : Int32) [(.int (0 : Int32)), (.int (0 : Int32))] (.int (0 : Int32)) := V49'
        have q49 : Z.heap.size ≤ b49 := Nat.le_trans O48.2.1 (Nat.le_of_eq g49.symm)
        have ne_b47_b49 : b47 ≠ b49 := Nat.ne_of_lt (Nat.lt_of_lt_of_le V47.lt (Nat.le_of_eq g49.symm))
        have O50 := O48.ext E49
        have V51 := V47.ext E49
        refine Go.astore X49 hx (hb hby at_71) rfl rfl #[.val (.int x0), .val (.int x1), .val (.int x2), .val (.int x3), .val (.int x4), .val (.long x5), .second, .val (.int (0 : Int32)), .val (.int (0 : Int32)), .val (.int (2 : Int32)), .val (.int ((x0 >>> ((4 : Int32) &&& 31)))), .val (.ref a_DM), .val (.ref b47), .val (.ref b49), .unset, .unset, .unset, .unset, .unset, .unset, .unset, .unset, .unset] rfl ?_
        refine Go.iload X49 hx (hb hby at_73) rfl rfl  ?_
        refine Go.ifNo X49 hx (hb hby at_75) rfl ((if0 _ _).trans (tlt (by decide : (0 : Int32) < (2 : Int32))).2.2.2) ?_
        refine Go.aload X49 hx (hb hby at_78) rfl rfl rfl ?_
        refine Go.iconst X49 hx (hb hby at_80) rfl (0 : Int32) rfl ?_
        refine Go.iloadN X49 hx (hb hby at_81) rfl rfl  ?_
        refine Go.iastore X49 hx hZ V51 e49 ⟨by decide, by decide⟩ 0 (by decide) (Nat.le_of_ble_eq_true rfl)  (hb hby at_82) rfl ?_
        intro T52 h52 X52 e52 W52 V52'
        have V52 : Arv Z h52 b47 k47 .int (2 : Int32) [(.int x1), (.int (0 : Int32))] (.int (0 : Int32)) := V52'
        have O53 := O50.wr W52 q47
        have N54 := Fr.snoc X52 (Fr.nil _) q47
        have V55 := V49.other W52 (Ne.symm ne_b47_b49)
        refine Go.aload X52 hx (hb hby at_83) rfl rfl rfl ?_
        refine Go.iconst X52 hx (hb hby at_85) rfl (0 : Int32) rfl ?_
        refine Go.iloadN X52 hx (hb hby at_86) rfl rfl  ?_
        refine Go.iastore X52 hx hZ V55 e52 ⟨by decide, by decide⟩ 0 (by decide) (Nat.le_of_ble_eq_true rfl)  (hb hby at_87) rfl ?_
        intro T56 h56 X56 e56 W56 V56'
        have V56 : Arv Z h56 b49 k49 .int (2 : Int32) [(.int x3), (.int (0 : Int32))] (.int (0 : Int32)) := V56'
        have O57 := O53.wr W56 q49
        have N58 := Fr.snoc X56 N54 q49
        have V59 := V52.other W56 ne_b47_b49
        refine Go.iload X56 hx (hb hby at_88) rfl rfl  ?_
        refine Go.iconst X56 hx (hb hby at_90) rfl (1 : Int32) rfl ?_
        refine Go.icmpNo X56 hx (hb hby at_91) rfl (tlt (by decide : (1 : Int32) < (2 : Int32))).2.2.2 ?_
        refine Go.aload X56 hx (hb hby at_94) rfl rfl rfl ?_
        refine Go.iconst X56 hx (hb hby at_96) rfl (1 : Int32) rfl ?_
        refine Go.iloadN X56 hx (hb hby at_97) rfl rfl  ?_
        refine Go.iastore X56 hx hZ V59 e56 ⟨by decide, by decide⟩ 1 (by decide) (Nat.le_of_ble_eq_true rfl)  (hb hby at_98) rfl ?_
        intro T60 h60 X60 e60 W60 V60'
        have V60 : Arv Z h60 b47 k47 .int (2 : Int32) [(.int x1), (.int x2)] (.int (0 : Int32)) := V60'
        have O61 := O57.wr W60 q47
        have N62 := Fr.snoc X60 N58 q47
        have V63 := V56.other W60 (Ne.symm ne_b47_b49)
        refine Go.aload X60 hx (hb hby at_99) rfl rfl rfl ?_
        refine Go.iconst X60 hx (hb hby at_101) rfl (1 : Int32) rfl ?_
        refine Go.iload X60 hx (hb hby at_102) rfl rfl  ?_
        refine Go.iastore X60 hx hZ V63 e60 ⟨by decide, by decide⟩ 1 (by decide) (Nat.le_of_ble_eq_true rfl)  (hb hby at_104) rfl ?_
        intro T64 h64 X64 e64 W64 V64'
        have V64 : Arv Z h64 b49 k49 .int (2 : Int32) [(.int x3), (.int x4)] (.int (0 : Int32)) := V64'
        have O65 := O61.wr W64 q49
        have N66 := Fr.snoc X64 N62 q49
        have V67 := V60.other W64 ne_b47_b49
        refine Go.lconst X64 hx (hb hby at_105) rfl (0 : Int64) rfl ?_
        refine Go.lstore X64 hx (hb hby at_106) rfl  #[.val (.int x0), .val (.int x1), .val (.int x2), .val (.int x3), .val (.int x4), .val (.long x5), .second, .val (.int (0 : Int32)), .val (.int (0 : Int32)), .val (.int (2 : Int32)), .val (.int ((x0 >>> ((4 : Int32) &&& 31)))), .val (.ref a_DM), .val (.ref b47), .val (.ref b49), .val (.long (0 : Int64)), .second, .unset, .unset, .unset, .unset, .unset, .unset, .unset] rfl ?_
        refine Go.lconst X64 hx (hb hby at_108) rfl (0 : Int64) rfl ?_
        refine Go.lstore X64 hx (hb hby at_109) rfl  #[.val (.int x0), .val (.int x1), .val (.int x2), .val (.int x3), .val (.int x4), .val (.long x5), .second, .val (.int (0 : Int32)), .val (.int (0 : Int32)), .val (.int (2 : Int32)), .val (.int ((x0 >>> ((4 : Int32) &&& 31)))), .val (.ref a_DM), .val (.ref b47), .val (.ref b49), .val (.long (0 : Int64)), .second, .val (.long (0 : Int64)), .second, .unset, .unset, .unset, .unset, .unset] rfl ?_
        refine Go.iload X64 hx (hb hby at_111) rfl rfl  ?_
        refine Go.ifNo X64 hx (hb hby at_113) rfl ((if0 _ _).trans (tlt (by decide : (0 : Int32) < (2 : Int32))).2.2.2) ?_
        refine Go.iloadN X64 hx (hb hby at_116) rfl rfl  ?_
        refine Go.iload X64 hx (hb hby at_117) rfl rfl  ?_
        by_cases hc68 : x1 < ((x0 >>> ((4 : Int32) &&& 31)))
        · refine Go.icmpNo X64 hx (hb hby at_119) rfl (tlt hc68).2.1 ?_
          refine Go.lload X64 hx (hb hby at_122) rfl rfl  ?_
          refine Go.iloadN X64 hx (hb hby at_124) rfl rfl  ?_
          refine Go.i2l X64 hx (hb hby at_125) rfl ?_
          refine Go.ladd X64 hx (hb hby at_126) rfl ?_
          refine Go.lstore X64 hx (hb hby at_127) rfl  #[.val (.int x0), .val (.int x1), .val (.int x2), .val (.int x3), .val (.int x4), .val (.long x5), .second, .val (.int (0 : Int32)), .val (.int (0 : Int32)), .val (.int (2 : Int32)), .val (.int ((x0 >>> ((4 : Int32) &&& 31)))), .val (.ref a_DM), .val (.ref b47), .val (.ref b49), .val (.long ((0 : Int64) + ((x1).toInt64))), .second, .val (.long (0 : Int64)), .second, .unset, .unset, .unset, .unset, .unset] rfl ?_
          refine Go.goto X64 hx (hb hby at_129) rfl 153 (by decide) (by decide) ?_
          refine Go.iload X64 hx (hb hby at_153) rfl rfl  ?_
          refine Go.iconst X64 hx (hb hby at_155) rfl (1 : Int32) rfl ?_
          refine Go.icmpNo X64 hx (hb hby at_156) rfl (tlt (by decide : (1 : Int32) < (2 : Int32))).2.2.2 ?_
          refine Go.iloadN X64 hx (hb hby at_159) rfl rfl  ?_
          refine Go.iload X64 hx (hb hby at_160) rfl rfl  ?_
          by_cases hc69 : x2 < ((x0 >>> ((4 : Int32) &&& 31)))
          · refine Go.icmpNo X64 hx (hb hby at_162) rfl (tlt hc69).2.1 ?_
            refine Go.lload X64 hx (hb hby at_165) rfl rfl  ?_
            refine Go.iloadN X64 hx (hb hby at_167) rfl rfl  ?_
            refine Go.i2l X64 hx (hb hby at_168) rfl ?_
            refine Go.ladd X64 hx (hb hby at_169) rfl ?_
            refine Go.lstore X64 hx (hb hby at_170) rfl  #[.val (.int x0), .val (.int x1), .val (.int x2), .val (.int x3), .val (.int x4), .val (.long x5), .second, .val (.int (0 : Int32)), .val (.int (0 : Int32)), .val (.int (2 : Int32)), .val (.int ((x0 >>> ((4 : Int32) &&& 31)))), .val (.ref a_DM), .val (.ref b47), .val (.ref b49), .val (.long (((0 : Int64) + ((x1).toInt64)) + ((x2).toInt64))), .second, .val (.long (0 : Int64)), .second, .unset, .unset, .unset, .unset, .unset] rfl ?_
            refine Go.goto X64 hx (hb hby at_172) rfl 197 (by decide) (by decide) ?_
            refine Go.iload X64 hx (hb hby at_197) rfl rfl  ?_
            refine Go.ifYes X64 hx (hb hby at_199) rfl 206 ((if0 _ _).trans (teq (by decide : (0 : Int32) = (0 : Int32))).1) (by decide) (by decide) ?_
            refine Go.lload X64 hx (hb hby at_206) rfl rfl  ?_
            refine Go.lstore X64 hx (hb hby at_208) rfl  #[.val (.int x0), .val (.int x1), .val (.int x2), .val (.int x3), .val (.int x4), .val (.long x5), .second, .val (.int (0 : Int32)), .val (.int (0 : Int32)), .val (.int (2 : Int32)), .val (.int ((x0 >>> ((4 : Int32) &&& 31)))), .val (.ref a_DM), .val (.ref b47), .val (.ref b49), .val (.long (((0 : Int64) + ((x1).toInt64)) + ((x2).toInt64))), .second, .val (.long (0 : Int64)), .second, .val (.long x5), .second, .unset, .unset, .unset] rfl ?_
            refine Go.lload X64 hx (hb hby at_210) rfl rfl  ?_
            refine Go.lload X64 hx (hb hby at_212) rfl rfl  ?_
            refine Go.lload X64 hx (hb hby at_214) rfl rfl  ?_
            refine Go.lmul X64 hx (hb hby at_216) rfl ?_
            refine Go.ladd X64 hx (hb hby at_217) rfl ?_
            refine Go.lstore X64 hx (hb hby at_218) rfl  #[.val (.int x0), .val (.int x1), .val (.int x2), .val (.int x3), .val (.int x4), .val (.long x5), .second, .val (.int (0 : Int32)), .val (.int (0 : Int32)), .val (.int (2 : Int32)), .val (.int ((x0 >>> ((4 : Int32) &&& 31)))), .val (.ref a_DM), .val (.ref b47), .val (.ref b49), .val (.long (((0 : Int64) + ((x1).toInt64)) + ((x2).toInt64))), .second, .val (.long (0 : Int64)), .second, .val (.long x5), .second, .val (.long ((0 : Int64) + ((((0 : Int64) + ((x1).toInt64)) + ((x2).toInt64)) * x5))), .second, .unset] rfl ?_
            refine Go.aload X64 hx (hb hby at_220) rfl rfl rfl ?_
            refine Go.aload X64 hx (hb hby at_222) rfl rfl rfl ?_
            refine Go.iload X64 hx (hb hby at_224) rfl rfl  ?_
            refine Go.ifYes X64 hx (hb hby at_226) rfl 233 ((if0 _ _).trans (teq (by decide : (0 : Int32) = (0 : Int32))).1) (by decide) (by decide) ?_
            refine Go.aload X64 hx (hb hby at_233) rfl rfl rfl ?_
            refine Go.lload X64 hx (hb hby at_235) rfl rfl  ?_
            refine Go.iload X64 hx (hb hby at_237) rfl rfl  ?_
            refine Go.callV X64 hx hZ hown (wd 4 rfl) (wd 5 rfl) (notFace_of_selects (args := #[]) (mvT hZ (wd 7 rfl))) (wd 7 rfl) (wd 6 rfl) (wd 1 rfl) (wd 8 rfl) (by decide) [(.ref b47), (.ref b49), (.long x5), (.int ((x0 >>> ((4 : Int32) &&& 31))))] [] (E_DM.ext O65.2) (rmEv002tt l Z a0 hw b47 b49 k47 k49 x1 x2 x3 x4 x5 ((x0 >>> ((4 : Int32) &&& 31))) a_DM a_CM h64 O65 FF V67 V64 hc68 hc69) e64 rfl (by rw [hml]; rfl) pd_3 rfl (hb hby at_239) (Nat.le_of_ble_eq_true rfl) (Nat.le_of_ble_eq_true rfl) (Nat.le_of_ble_eq_true rfl) (Nat.le_of_ble_eq_true rfl) ?_
            rintro vv70 T70 L70 X70 Q70
            obtain ⟨b70, rfl, N70, K70, sz70, E70, Fs70, Fc70⟩ := Q70
            have M71 := Fr.app N66 N70
            have q70 : Z.heap.size ≤ b70 := Nat.le_trans O65.2.1 sz70
            have ne_b47_b70 : b47 ≠ b70 := Nat.ne_of_lt (Nat.lt_of_lt_of_le V67.lt sz70)
            have ne_b49_b70 : b49 ≠ b70 := Nat.ne_of_lt (Nat.lt_of_lt_of_le V64.lt sz70)
            have O72 := O65.keep K70 (all0)
            have V73 := V67.keep K70 (nin0)
            have V74 := V64.keep K70 (nin0)
            refine Go.astore X70 hx (hb hby at_242) rfl rfl #[.val (.int x0), .val (.int x1), .val (.int x2), .val (.int x3), .val (.int x4), .val (.long x5), .second, .val (.int (0 : Int32)), .val (.int (0 : Int32)), .val (.int (2 : Int32)), .val (.int ((x0 >>> ((4 : Int32) &&& 31)))), .val (.ref a_DM), .val (.ref b47), .val (.ref b49), .val (.long (((0 : Int64) + ((x1).toInt64)) + ((x2).toInt64))), .second, .val (.long (0 : Int64)), .second, .val (.long x5), .second, .val (.long ((0 : Int64) + ((((0 : Int64) + ((x1).toInt64)) + ((x2).toInt64)) * x5))), .second, .val (.ref b70)] rfl ?_
            refine Go.aload X70 hx (hb hby at_244) rfl rfl rfl ?_
            refine Go.pureV X70 hx hZ hown (wd 33 rfl) (wd 34 rfl) (notFace_of_selects (args := #[]) (mvT hZ (wd 36 rfl))) (wd 36 rfl) (wd 35 rfl) (wd 11 rfl) (wd 37 rfl) (by decide) [] [] E70 (rmS l Z a0 hw b70 (((0 : Int64) + ((x1).toInt64)) + ((x2).toInt64)) T70.heap Fs70) rfl rfl (by rw [hml]; rfl) pd_4 rfl (hb hby at_246) (Nat.le_of_ble_eq_true rfl) (Nat.le_of_ble_eq_true rfl) (Nat.le_of_ble_eq_true rfl) (Nat.le_of_ble_eq_true rfl) ?_
            intro T75 X75 e75
            refine Go.lload X75 hx (hb hby at_249) rfl rfl  ?_
            refine Go.lcmp X75 hx (hb hby at_251) rfl ?_
            refine Go.ifNo X75 hx (hb hby at_252) rfl ((if0 _ _).trans (teq ((lw_eq (((0 : Int64) + ((x1).toInt64)) + ((x2).toInt64)) (((0 : Int64) + ((x1).toInt64)) + ((x2).toInt64))).mpr (rfl : (((0 : Int64) + ((x1).toInt64)) + ((x2).toInt64)) = (((0 : Int64) + ((x1).toInt64)) + ((x2).toInt64))))).2) ?_
            refine Go.aload X75 hx (hb hby at_255) rfl rfl rfl ?_
            refine Go.pureV X75 hx hZ hown (wd 38 rfl) (wd 39 rfl) (notFace_of_selects (args := #[]) (mvT hZ (wd 41 rfl))) (wd 41 rfl) (wd 40 rfl) (wd 11 rfl) (wd 42 rfl) (by decide) [] [] E70 (rmC l Z a0 hw b70 ((0 : Int64) + ((((0 : Int64) + ((x1).toInt64)) + ((x2).toInt64)) * x5)) T70.heap Fc70) e75 rfl (by rw [hml]; rfl) pd_4 rfl (hb hby at_257) (Nat.le_of_ble_eq_true rfl) (Nat.le_of_ble_eq_true rfl) (Nat.le_of_ble_eq_true rfl) (Nat.le_of_ble_eq_true rfl) ?_
            intro T76 X76 e76
            refine Go.lload X76 hx (hb hby at_260) rfl rfl  ?_
            refine Go.lcmp X76 hx (hb hby at_262) rfl ?_
            refine Go.ifNo X76 hx (hb hby at_263) rfl ((if0 _ _).trans (teq ((lw_eq ((0 : Int64) + ((((0 : Int64) + ((x1).toInt64)) + ((x2).toInt64)) * x5)) ((0 : Int64) + ((((0 : Int64) + ((x1).toInt64)) + ((x2).toInt64)) * x5))).mpr (rfl : ((0 : Int64) + ((((0 : Int64) + ((x1).toInt64)) + ((x2).toInt64)) * x5)) = ((0 : Int64) + ((((0 : Int64) + ((x1).toInt64)) + ((x2).toInt64)) * x5))))).2) ?_
            refine Go.iconst X76 hx (hb hby at_266) rfl (1 : Int32) rfl ?_
            refine Go.goto X76 hx (hb hby at_267) rfl 271 (by decide) (by decide) ?_
            exact Go.retZ X76 hx (z' := (1 : Int32)) hret hlk (hb hby at_271) rfl (by decide) ⟨by first | rfl | simp [hc1, hc2, hc68, hc69], M71⟩ (Nat.le_of_ble_eq_true rfl) (Nat.le_of_ble_eq_true rfl)
          · refine Go.icmpYes X64 hx (hb hby at_162) rfl 175 (flt hc69).2.1 (by decide) (by decide) ?_
            refine Go.lload X64 hx (hb hby at_175) rfl rfl  ?_
            refine Go.iload X64 hx (hb hby at_177) rfl rfl  ?_
            refine Go.iloadN X64 hx (hb hby at_179) rfl rfl  ?_
            refine Go.iload X64 hx (hb hby at_180) rfl rfl  ?_
            refine Go.ifYes X64 hx (hb hby at_182) rfl 189 ((if0 _ _).trans (teq (by decide : (0 : Int32) = (0 : Int32))).1) (by decide) (by decide) ?_
            refine Go.iload X64 hx (hb hby at_189) rfl rfl  ?_
            refine Go.pureS X64 hx hZ hown (wd 43 rfl) (wd 44 rfl) (wd 45 rfl) (wd 46 rfl) (by decide) [(.int (0 : Int32)), (.int x2), (.int x4)] [(.long (0 : Int64))] (rmP0 l Z a0 hw x2 x4 h64) e64 rfl (by rw [hml]; rfl) pd_5 rfl (hb hby at_191) (Nat.le_of_ble_eq_true rfl) (Nat.le_of_ble_eq_true rfl) (Nat.le_of_ble_eq_true rfl) (Nat.le_of_ble_eq_true rfl) ?_
            intro T77 X77 e77
            refine Go.ladd X77 hx (hb hby at_194) rfl ?_
            refine Go.lstore X77 hx (hb hby at_195) rfl  #[.val (.int x0), .val (.int x1), .val (.int x2), .val (.int x3), .val (.int x4), .val (.long x5), .second, .val (.int (0 : Int32)), .val (.int (0 : Int32)), .val (.int (2 : Int32)), .val (.int ((x0 >>> ((4 : Int32) &&& 31)))), .val (.ref a_DM), .val (.ref b47), .val (.ref b49), .val (.long ((0 : Int64) + ((x1).toInt64))), .second, .val (.long ((0 : Int64) + (((x2).toInt64) * ((x2).toInt64)))), .second, .unset, .unset, .unset, .unset, .unset] rfl ?_
            refine Go.iload X77 hx (hb hby at_197) rfl rfl  ?_
            refine Go.ifYes X77 hx (hb hby at_199) rfl 206 ((if0 _ _).trans (teq (by decide : (0 : Int32) = (0 : Int32))).1) (by decide) (by decide) ?_
            refine Go.lload X77 hx (hb hby at_206) rfl rfl  ?_
            refine Go.lstore X77 hx (hb hby at_208) rfl  #[.val (.int x0), .val (.int x1), .val (.int x2), .val (.int x3), .val (.int x4), .val (.long x5), .second, .val (.int (0 : Int32)), .val (.int (0 : Int32)), .val (.int (2 : Int32)), .val (.int ((x0 >>> ((4 : Int32) &&& 31)))), .val (.ref a_DM), .val (.ref b47), .val (.ref b49), .val (.long ((0 : Int64) + ((x1).toInt64))), .second, .val (.long ((0 : Int64) + (((x2).toInt64) * ((x2).toInt64)))), .second, .val (.long x5), .second, .unset, .unset, .unset] rfl ?_
            refine Go.lload X77 hx (hb hby at_210) rfl rfl  ?_
            refine Go.lload X77 hx (hb hby at_212) rfl rfl  ?_
            refine Go.lload X77 hx (hb hby at_214) rfl rfl  ?_
            refine Go.lmul X77 hx (hb hby at_216) rfl ?_
            refine Go.ladd X77 hx (hb hby at_217) rfl ?_
            refine Go.lstore X77 hx (hb hby at_218) rfl  #[.val (.int x0), .val (.int x1), .val (.int x2), .val (.int x3), .val (.int x4), .val (.long x5), .second, .val (.int (0 : Int32)), .val (.int (0 : Int32)), .val (.int (2 : Int32)), .val (.int ((x0 >>> ((4 : Int32) &&& 31)))), .val (.ref a_DM), .val (.ref b47), .val (.ref b49), .val (.long ((0 : Int64) + ((x1).toInt64))), .second, .val (.long ((0 : Int64) + (((x2).toInt64) * ((x2).toInt64)))), .second, .val (.long x5), .second, .val (.long (((0 : Int64) + (((x2).toInt64) * ((x2).toInt64))) + (((0 : Int64) + ((x1).toInt64)) * x5))), .second, .unset] rfl ?_
            refine Go.aload X77 hx (hb hby at_220) rfl rfl rfl ?_
            refine Go.aload X77 hx (hb hby at_222) rfl rfl rfl ?_
            refine Go.iload X77 hx (hb hby at_224) rfl rfl  ?_
            refine Go.ifYes X77 hx (hb hby at_226) rfl 233 ((if0 _ _).trans (teq (by decide : (0 : Int32) = (0 : Int32))).1) (by decide) (by decide) ?_
            refine Go.aload X77 hx (hb hby at_233) rfl rfl rfl ?_
            refine Go.lload X77 hx (hb hby at_235) rfl rfl  ?_
            refine Go.iload X77 hx (hb hby at_237) rfl rfl  ?_
            refine Go.callV X77 hx hZ hown (wd 4 rfl) (wd 5 rfl) (notFace_of_selects (args := #[]) (mvT hZ (wd 7 rfl))) (wd 7 rfl) (wd 6 rfl) (wd 1 rfl) (wd 8 rfl) (by decide) [(.ref b47), (.ref b49), (.long x5), (.int ((x0 >>> ((4 : Int32) &&& 31))))] [] (E_DM.ext O65.2) (rmEv002tf l Z a0 hw b47 b49 k47 k49 x1 x2 x3 x4 x5 ((x0 >>> ((4 : Int32) &&& 31))) a_DM a_CM h64 O65 FF V67 V64 hc68 hc69) e77 rfl (by rw [hml]; rfl) pd_3 rfl (hb hby at_239) (Nat.le_of_ble_eq_true rfl) (Nat.le_of_ble_eq_true rfl) (Nat.le_of_ble_eq_true rfl) (Nat.le_of_ble_eq_true rfl) ?_
            rintro vv78 T78 L78 X78 Q78
            obtain ⟨b78, rfl, N78, K78, sz78, E78, Fs78, Fc78⟩ := Q78
            have M79 := Fr.app N66 N78
            have q78 : Z.heap.size ≤ b78 := Nat.le_trans O65.2.1 sz78
            have ne_b47_b78 : b47 ≠ b78 := Nat.ne_of_lt (Nat.lt_of_lt_of_le V67.lt sz78)
            have ne_b49_b78 : b49 ≠ b78 := Nat.ne_of_lt (Nat.lt_of_lt_of_le V64.lt sz78)
            have O80 := O65.keep K78 (all0)
            have V81 := V67.keep K78 (nin0)
            have V82 := V64.keep K78 (nin0)
            refine Go.astore X78 hx (hb hby at_242) rfl rfl #[.val (.int x0), .val (.int x1), .val (.int x2), .val (.int x3), .val (.int x4), .val (.long x5), .second, .val (.int (0 : Int32)), .val (.int (0 : Int32)), .val (.int (2 : Int32)), .val (.int ((x0 >>> ((4 : Int32) &&& 31)))), .val (.ref a_DM), .val (.ref b47), .val (.ref b49), .val (.long ((0 : Int64) + ((x1).toInt64))), .second, .val (.long ((0 : Int64) + (((x2).toInt64) * ((x2).toInt64)))), .second, .val (.long x5), .second, .val (.long (((0 : Int64) + (((x2).toInt64) * ((x2).toInt64))) + (((0 : Int64) + ((x1).toInt64)) * x5))), .second, .val (.ref b78)] rfl ?_
            refine Go.aload X78 hx (hb hby at_244) rfl rfl rfl ?_
            refine Go.pureV X78 hx hZ hown (wd 33 rfl) (wd 34 rfl) (notFace_of_selects (args := #[]) (mvT hZ (wd 36 rfl))) (wd 36 rfl) (wd 35 rfl) (wd 11 rfl) (wd 37 rfl) (by decide) [] [] E78 (rmS l Z a0 hw b78 ((0 : Int64) + ((x1).toInt64)) T78.heap Fs78) rfl rfl (by rw [hml]; rfl) pd_4 rfl (hb hby at_246) (Nat.le_of_ble_eq_true rfl) (Nat.le_of_ble_eq_true rfl) (Nat.le_of_ble_eq_true rfl) (Nat.le_of_ble_eq_true rfl) ?_
            intro T83 X83 e83
            refine Go.lload X83 hx (hb hby at_249) rfl rfl  ?_
            refine Go.lcmp X83 hx (hb hby at_251) rfl ?_
            refine Go.ifNo X83 hx (hb hby at_252) rfl ((if0 _ _).trans (teq ((lw_eq ((0 : Int64) + ((x1).toInt64)) ((0 : Int64) + ((x1).toInt64))).mpr (rfl : ((0 : Int64) + ((x1).toInt64)) = ((0 : Int64) + ((x1).toInt64))))).2) ?_
            refine Go.aload X83 hx (hb hby at_255) rfl rfl rfl ?_
            refine Go.pureV X83 hx hZ hown (wd 38 rfl) (wd 39 rfl) (notFace_of_selects (args := #[]) (mvT hZ (wd 41 rfl))) (wd 41 rfl) (wd 40 rfl) (wd 11 rfl) (wd 42 rfl) (by decide) [] [] E78 (rmC l Z a0 hw b78 (((0 : Int64) + (((x2).toInt64) * ((x2).toInt64))) + (((0 : Int64) + ((x1).toInt64)) * x5)) T78.heap Fc78) e83 rfl (by rw [hml]; rfl) pd_4 rfl (hb hby at_257) (Nat.le_of_ble_eq_true rfl) (Nat.le_of_ble_eq_true rfl) (Nat.le_of_ble_eq_true rfl) (Nat.le_of_ble_eq_true rfl) ?_
            intro T84 X84 e84
            refine Go.lload X84 hx (hb hby at_260) rfl rfl  ?_
            refine Go.lcmp X84 hx (hb hby at_262) rfl ?_
            refine Go.ifNo X84 hx (hb hby at_263) rfl ((if0 _ _).trans (teq ((lw_eq (((0 : Int64) + (((x2).toInt64) * ((x2).toInt64))) + (((0 : Int64) + ((x1).toInt64)) * x5)) (((0 : Int64) + (((x2).toInt64) * ((x2).toInt64))) + (((0 : Int64) + ((x1).toInt64)) * x5))).mpr (rfl : (((0 : Int64) + (((x2).toInt64) * ((x2).toInt64))) + (((0 : Int64) + ((x1).toInt64)) * x5)) = (((0 : Int64) + (((x2).toInt64) * ((x2).toInt64))) + (((0 : Int64) + ((x1).toInt64)) * x5))))).2) ?_
            refine Go.iconst X84 hx (hb hby at_266) rfl (1 : Int32) rfl ?_
            refine Go.goto X84 hx (hb hby at_267) rfl 271 (by decide) (by decide) ?_
            exact Go.retZ X84 hx (z' := (1 : Int32)) hret hlk (hb hby at_271) rfl (by decide) ⟨by first | rfl | simp [hc1, hc2, hc68, hc69], M79⟩ (Nat.le_of_ble_eq_true rfl) (Nat.le_of_ble_eq_true rfl)
        · refine Go.icmpYes X64 hx (hb hby at_119) rfl 132 (flt hc68).2.1 (by decide) (by decide) ?_
          refine Go.lload X64 hx (hb hby at_132) rfl rfl  ?_
          refine Go.iload X64 hx (hb hby at_134) rfl rfl  ?_
          refine Go.iloadN X64 hx (hb hby at_136) rfl rfl  ?_
          refine Go.iload X64 hx (hb hby at_137) rfl rfl  ?_
          refine Go.ifYes X64 hx (hb hby at_139) rfl 146 ((if0 _ _).trans (teq (by decide : (0 : Int32) = (0 : Int32))).1) (by decide) (by decide) ?_
          refine Go.iloadN X64 hx (hb hby at_146) rfl rfl  ?_
          refine Go.pureS X64 hx hZ hown (wd 43 rfl) (wd 44 rfl) (wd 45 rfl) (wd 46 rfl) (by decide) [(.int (0 : Int32)), (.int x1), (.int x3)] [(.long (0 : Int64))] (rmP0 l Z a0 hw x1 x3 h64) e64 rfl (by rw [hml]; rfl) pd_5 rfl (hb hby at_147) (Nat.le_of_ble_eq_true rfl) (Nat.le_of_ble_eq_true rfl) (Nat.le_of_ble_eq_true rfl) (Nat.le_of_ble_eq_true rfl) ?_
          intro T85 X85 e85
          refine Go.ladd X85 hx (hb hby at_150) rfl ?_
          refine Go.lstore X85 hx (hb hby at_151) rfl  #[.val (.int x0), .val (.int x1), .val (.int x2), .val (.int x3), .val (.int x4), .val (.long x5), .second, .val (.int (0 : Int32)), .val (.int (0 : Int32)), .val (.int (2 : Int32)), .val (.int ((x0 >>> ((4 : Int32) &&& 31)))), .val (.ref a_DM), .val (.ref b47), .val (.ref b49), .val (.long (0 : Int64)), .second, .val (.long ((0 : Int64) + (((x1).toInt64) * ((x1).toInt64)))), .second, .unset, .unset, .unset, .unset, .unset] rfl ?_
          refine Go.iload X85 hx (hb hby at_153) rfl rfl  ?_
          refine Go.iconst X85 hx (hb hby at_155) rfl (1 : Int32) rfl ?_
          refine Go.icmpNo X85 hx (hb hby at_156) rfl (tlt (by decide : (1 : Int32) < (2 : Int32))).2.2.2 ?_
          refine Go.iloadN X85 hx (hb hby at_159) rfl rfl  ?_
          refine Go.iload X85 hx (hb hby at_160) rfl rfl  ?_
          by_cases hc86 : x2 < ((x0 >>> ((4 : Int32) &&& 31)))
          · refine Go.icmpNo X85 hx (hb hby at_162) rfl (tlt hc86).2.1 ?_
            refine Go.lload X85 hx (hb hby at_165) rfl rfl  ?_
            refine Go.iloadN X85 hx (hb hby at_167) rfl rfl  ?_
            refine Go.i2l X85 hx (hb hby at_168) rfl ?_
            refine Go.ladd X85 hx (hb hby at_169) rfl ?_
            refine Go.lstore X85 hx (hb hby at_170) rfl  #[.val (.int x0), .val (.int x1), .val (.int x2), .val (.int x3), .val (.int x4), .val (.long x5), .second, .val (.int (0 : Int32)), .val (.int (0 : Int32)), .val (.int (2 : Int32)), .val (.int ((x0 >>> ((4 : Int32) &&& 31)))), .val (.ref a_DM), .val (.ref b47), .val (.ref b49), .val (.long ((0 : Int64) + ((x2).toInt64))), .second, .val (.long ((0 : Int64) + (((x1).toInt64) * ((x1).toInt64)))), .second, .unset, .unset, .unset, .unset, .unset] rfl ?_
            refine Go.goto X85 hx (hb hby at_172) rfl 197 (by decide) (by decide) ?_
            refine Go.iload X85 hx (hb hby at_197) rfl rfl  ?_
            refine Go.ifYes X85 hx (hb hby at_199) rfl 206 ((if0 _ _).trans (teq (by decide : (0 : Int32) = (0 : Int32))).1) (by decide) (by decide) ?_
            refine Go.lload X85 hx (hb hby at_206) rfl rfl  ?_
            refine Go.lstore X85 hx (hb hby at_208) rfl  #[.val (.int x0), .val (.int x1), .val (.int x2), .val (.int x3), .val (.int x4), .val (.long x5), .second, .val (.int (0 : Int32)), .val (.int (0 : Int32)), .val (.int (2 : Int32)), .val (.int ((x0 >>> ((4 : Int32) &&& 31)))), .val (.ref a_DM), .val (.ref b47), .val (.ref b49), .val (.long ((0 : Int64) + ((x2).toInt64))), .second, .val (.long ((0 : Int64) + (((x1).toInt64) * ((x1).toInt64)))), .second, .val (.long x5), .second, .unset, .unset, .unset] rfl ?_
            refine Go.lload X85 hx (hb hby at_210) rfl rfl  ?_
            refine Go.lload X85 hx (hb hby at_212) rfl rfl  ?_
            refine Go.lload X85 hx (hb hby at_214) rfl rfl  ?_
            refine Go.lmul X85 hx (hb hby at_216) rfl ?_
            refine Go.ladd X85 hx (hb hby at_217) rfl ?_
            refine Go.lstore X85 hx (hb hby at_218) rfl  #[.val (.int x0), .val (.int x1), .val (.int x2), .val (.int x3), .val (.int x4), .val (.long x5), .second, .val (.int (0 : Int32)), .val (.int (0 : Int32)), .val (.int (2 : Int32)), .val (.int ((x0 >>> ((4 : Int32) &&& 31)))), .val (.ref a_DM), .val (.ref b47), .val (.ref b49), .val (.long ((0 : Int64) + ((x2).toInt64))), .second, .val (.long ((0 : Int64) + (((x1).toInt64) * ((x1).toInt64)))), .second, .val (.long x5), .second, .val (.long (((0 : Int64) + (((x1).toInt64) * ((x1).toInt64))) + (((0 : Int64) + ((x2).toInt64)) * x5))), .second, .unset] rfl ?_
            refine Go.aload X85 hx (hb hby at_220) rfl rfl rfl ?_
            refine Go.aload X85 hx (hb hby at_222) rfl rfl rfl ?_
            refine Go.iload X85 hx (hb hby at_224) rfl rfl  ?_
            refine Go.ifYes X85 hx (hb hby at_226) rfl 233 ((if0 _ _).trans (teq (by decide : (0 : Int32) = (0 : Int32))).1) (by decide) (by decide) ?_
            refine Go.aload X85 hx (hb hby at_233) rfl rfl rfl ?_
            refine Go.lload X85 hx (hb hby at_235) rfl rfl  ?_
            refine Go.iload X85 hx (hb hby at_237) rfl rfl  ?_
            refine Go.callV X85 hx hZ hown (wd 4 rfl) (wd 5 rfl) (notFace_of_selects (args := #[]) (mvT hZ (wd 7 rfl))) (wd 7 rfl) (wd 6 rfl) (wd 1 rfl) (wd 8 rfl) (by decide) [(.ref b47), (.ref b49), (.long x5), (.int ((x0 >>> ((4 : Int32) &&& 31))))] [] (E_DM.ext O65.2) (rmEv002ft l Z a0 hw b47 b49 k47 k49 x1 x2 x3 x4 x5 ((x0 >>> ((4 : Int32) &&& 31))) a_DM a_CM h64 O65 FF V67 V64 hc68 hc86) e85 rfl (by rw [hml]; rfl) pd_3 rfl (hb hby at_239) (Nat.le_of_ble_eq_true rfl) (Nat.le_of_ble_eq_true rfl) (Nat.le_of_ble_eq_true rfl) (Nat.le_of_ble_eq_true rfl) ?_
            rintro vv87 T87 L87 X87 Q87
            obtain ⟨b87, rfl, N87, K87, sz87, E87, Fs87, Fc87⟩ := Q87
            have M88 := Fr.app N66 N87
            have q87 : Z.heap.size ≤ b87 := Nat.le_trans O65.2.1 sz87
            have ne_b47_b87 : b47 ≠ b87 := Nat.ne_of_lt (Nat.lt_of_lt_of_le V67.lt sz87)
            have ne_b49_b87 : b49 ≠ b87 := Nat.ne_of_lt (Nat.lt_of_lt_of_le V64.lt sz87)
            have O89 := O65.keep K87 (all0)
            have V90 := V67.keep K87 (nin0)
            have V91 := V64.keep K87 (nin0)
            refine Go.astore X87 hx (hb hby at_242) rfl rfl #[.val (.int x0), .val (.int x1), .val (.int x2), .val (.int x3), .val (.int x4), .val (.long x5), .second, .val (.int (0 : Int32)), .val (.int (0 : Int32)), .val (.int (2 : Int32)), .val (.int ((x0 >>> ((4 : Int32) &&& 31)))), .val (.ref a_DM), .val (.ref b47), .val (.ref b49), .val (.long ((0 : Int64) + ((x2).toInt64))), .second, .val (.long ((0 : Int64) + (((x1).toInt64) * ((x1).toInt64)))), .second, .val (.long x5), .second, .val (.long (((0 : Int64) + (((x1).toInt64) * ((x1).toInt64))) + (((0 : Int64) + ((x2).toInt64)) * x5))), .second, .val (.ref b87)] rfl ?_
            refine Go.aload X87 hx (hb hby at_244) rfl rfl rfl ?_
            refine Go.pureV X87 hx hZ hown (wd 33 rfl) (wd 34 rfl) (notFace_of_selects (args := #[]) (mvT hZ (wd 36 rfl))) (wd 36 rfl) (wd 35 rfl) (wd 11 rfl) (wd 37 rfl) (by decide) [] [] E87 (rmS l Z a0 hw b87 ((0 : Int64) + ((x2).toInt64)) T87.heap Fs87) rfl rfl (by rw [hml]; rfl) pd_4 rfl (hb hby at_246) (Nat.le_of_ble_eq_true rfl) (Nat.le_of_ble_eq_true rfl) (Nat.le_of_ble_eq_true rfl) (Nat.le_of_ble_eq_true rfl) ?_
            intro T92 X92 e92
            refine Go.lload X92 hx (hb hby at_249) rfl rfl  ?_
            refine Go.lcmp X92 hx (hb hby at_251) rfl ?_
            refine Go.ifNo X92 hx (hb hby at_252) rfl ((if0 _ _).trans (teq ((lw_eq ((0 : Int64) + ((x2).toInt64)) ((0 : Int64) + ((x2).toInt64))).mpr (rfl : ((0 : Int64) + ((x2).toInt64)) = ((0 : Int64) + ((x2).toInt64))))).2) ?_
            refine Go.aload X92 hx (hb hby at_255) rfl rfl rfl ?_
            refine Go.pureV X92 hx hZ hown (wd 38 rfl) (wd 39 rfl) (notFace_of_selects (args := #[]) (mvT hZ (wd 41 rfl))) (wd 41 rfl) (wd 40 rfl) (wd 11 rfl) (wd 42 rfl) (by decide) [] [] E87 (rmC l Z a0 hw b87 (((0 : Int64) + (((x1).toInt64) * ((x1).toInt64))) + (((0 : Int64) + ((x2).toInt64)) * x5)) T87.heap Fc87) e92 rfl (by rw [hml]; rfl) pd_4 rfl (hb hby at_257) (Nat.le_of_ble_eq_true rfl) (Nat.le_of_ble_eq_true rfl) (Nat.le_of_ble_eq_true rfl) (Nat.le_of_ble_eq_true rfl) ?_
            intro T93 X93 e93
            refine Go.lload X93 hx (hb hby at_260) rfl rfl  ?_
            refine Go.lcmp X93 hx (hb hby at_262) rfl ?_
            refine Go.ifNo X93 hx (hb hby at_263) rfl ((if0 _ _).trans (teq ((lw_eq (((0 : Int64) + (((x1).toInt64) * ((x1).toInt64))) + (((0 : Int64) + ((x2).toInt64)) * x5)) (((0 : Int64) + (((x1).toInt64) * ((x1).toInt64))) + (((0 : Int64) + ((x2).toInt64)) * x5))).mpr (rfl : (((0 : Int64) + (((x1).toInt64) * ((x1).toInt64))) + (((0 : Int64) + ((x2).toInt64)) * x5)) = (((0 : Int64) + (((x1).toInt64) * ((x1).toInt64))) + (((0 : Int64) + ((x2).toInt64)) * x5))))).2) ?_
            refine Go.iconst X93 hx (hb hby at_266) rfl (1 : Int32) rfl ?_
            refine Go.goto X93 hx (hb hby at_267) rfl 271 (by decide) (by decide) ?_
            exact Go.retZ X93 hx (z' := (1 : Int32)) hret hlk (hb hby at_271) rfl (by decide) ⟨by first | rfl | simp [hc1, hc2, hc68, hc86], M88⟩ (Nat.le_of_ble_eq_true rfl) (Nat.le_of_ble_eq_true rfl)
          · refine Go.icmpYes X85 hx (hb hby at_162) rfl 175 (flt hc86).2.1 (by decide) (by decide) ?_
            refine Go.lload X85 hx (hb hby at_175) rfl rfl  ?_
            refine Go.iload X85 hx (hb hby at_177) rfl rfl  ?_
            refine Go.iloadN X85 hx (hb hby at_179) rfl rfl  ?_
            refine Go.iload X85 hx (hb hby at_180) rfl rfl  ?_
            refine Go.ifYes X85 hx (hb hby at_182) rfl 189 ((if0 _ _).trans (teq (by decide : (0 : Int32) = (0 : Int32))).1) (by decide) (by decide) ?_
            refine Go.iload X85 hx (hb hby at_189) rfl rfl  ?_
            refine Go.pureS X85 hx hZ hown (wd 43 rfl) (wd 44 rfl) (wd 45 rfl) (wd 46 rfl) (by decide) [(.int (0 : Int32)), (.int x2), (.int x4)] [(.long ((0 : Int64) + (((x1).toInt64) * ((x1).toInt64))))] (rmP0 l Z a0 hw x2 x4 h64) e85 rfl (by rw [hml]; rfl) pd_5 rfl (hb hby at_191) (Nat.le_of_ble_eq_true rfl) (Nat.le_of_ble_eq_true rfl) (Nat.le_of_ble_eq_true rfl) (Nat.le_of_ble_eq_true rfl) ?_
            intro T94 X94 e94
            refine Go.ladd X94 hx (hb hby at_194) rfl ?_
            refine Go.lstore X94 hx (hb hby at_195) rfl  #[.val (.int x0), .val (.int x1), .val (.int x2), .val (.int x3), .val (.int x4), .val (.long x5), .second, .val (.int (0 : Int32)), .val (.int (0 : Int32)), .val (.int (2 : Int32)), .val (.int ((x0 >>> ((4 : Int32) &&& 31)))), .val (.ref a_DM), .val (.ref b47), .val (.ref b49), .val (.long (0 : Int64)), .second, .val (.long (((0 : Int64) + (((x1).toInt64) * ((x1).toInt64))) + (((x2).toInt64) * ((x2).toInt64)))), .second, .unset, .unset, .unset, .unset, .unset] rfl ?_
            refine Go.iload X94 hx (hb hby at_197) rfl rfl  ?_
            refine Go.ifYes X94 hx (hb hby at_199) rfl 206 ((if0 _ _).trans (teq (by decide : (0 : Int32) = (0 : Int32))).1) (by decide) (by decide) ?_
            refine Go.lload X94 hx (hb hby at_206) rfl rfl  ?_
            refine Go.lstore X94 hx (hb hby at_208) rfl  #[.val (.int x0), .val (.int x1), .val (.int x2), .val (.int x3), .val (.int x4), .val (.long x5), .second, .val (.int (0 : Int32)), .val (.int (0 : Int32)), .val (.int (2 : Int32)), .val (.int ((x0 >>> ((4 : Int32) &&& 31)))), .val (.ref a_DM), .val (.ref b47), .val (.ref b49), .val (.long (0 : Int64)), .second, .val (.long (((0 : Int64) + (((x1).toInt64) * ((x1).toInt64))) + (((x2).toInt64) * ((x2).toInt64)))), .second, .val (.long x5), .second, .unset, .unset, .unset] rfl ?_
            refine Go.lload X94 hx (hb hby at_210) rfl rfl  ?_
            refine Go.lload X94 hx (hb hby at_212) rfl rfl  ?_
            refine Go.lload X94 hx (hb hby at_214) rfl rfl  ?_
            refine Go.lmul X94 hx (hb hby at_216) rfl ?_
            refine Go.ladd X94 hx (hb hby at_217) rfl ?_
            refine Go.lstore X94 hx (hb hby at_218) rfl  #[.val (.int x0), .val (.int x1), .val (.int x2), .val (.int x3), .val (.int x4), .val (.long x5), .second, .val (.int (0 : Int32)), .val (.int (0 : Int32)), .val (.int (2 : Int32)), .val (.int ((x0 >>> ((4 : Int32) &&& 31)))), .val (.ref a_DM), .val (.ref b47), .val (.ref b49), .val (.long (0 : Int64)), .second, .val (.long (((0 : Int64) + (((x1).toInt64) * ((x1).toInt64))) + (((x2).toInt64) * ((x2).toInt64)))), .second, .val (.long x5), .second, .val (.long ((((0 : Int64) + (((x1).toInt64) * ((x1).toInt64))) + (((x2).toInt64) * ((x2).toInt64))) + ((0 : Int64) * x5))), .second, .unset] rfl ?_
            refine Go.aload X94 hx (hb hby at_220) rfl rfl rfl ?_
            refine Go.aload X94 hx (hb hby at_222) rfl rfl rfl ?_
            refine Go.iload X94 hx (hb hby at_224) rfl rfl  ?_
            refine Go.ifYes X94 hx (hb hby at_226) rfl 233 ((if0 _ _).trans (teq (by decide : (0 : Int32) = (0 : Int32))).1) (by decide) (by decide) ?_
            refine Go.aload X94 hx (hb hby at_233) rfl rfl rfl ?_
            refine Go.lload X94 hx (hb hby at_235) rfl rfl  ?_
            refine Go.iload X94 hx (hb hby at_237) rfl rfl  ?_
            refine Go.callV X94 hx hZ hown (wd 4 rfl) (wd 5 rfl) (notFace_of_selects (args := #[]) (mvT hZ (wd 7 rfl))) (wd 7 rfl) (wd 6 rfl) (wd 1 rfl) (wd 8 rfl) (by decide) [(.ref b47), (.ref b49), (.long x5), (.int ((x0 >>> ((4 : Int32) &&& 31))))] [] (E_DM.ext O65.2) (rmEv002ff l Z a0 hw b47 b49 k47 k49 x1 x2 x3 x4 x5 ((x0 >>> ((4 : Int32) &&& 31))) a_DM a_CM h64 O65 FF V67 V64 hc68 hc86) e94 rfl (by rw [hml]; rfl) pd_3 rfl (hb hby at_239) (Nat.le_of_ble_eq_true rfl) (Nat.le_of_ble_eq_true rfl) (Nat.le_of_ble_eq_true rfl) (Nat.le_of_ble_eq_true rfl) ?_
            rintro vv95 T95 L95 X95 Q95
            obtain ⟨b95, rfl, N95, K95, sz95, E95, Fs95, Fc95⟩ := Q95
            have M96 := Fr.app N66 N95
            have q95 : Z.heap.size ≤ b95 := Nat.le_trans O65.2.1 sz95
            have ne_b47_b95 : b47 ≠ b95 := Nat.ne_of_lt (Nat.lt_of_lt_of_le V67.lt sz95)
            have ne_b49_b95 : b49 ≠ b95 := Nat.ne_of_lt (Nat.lt_of_lt_of_le V64.lt sz95)
            have O97 := O65.keep K95 (all0)
            have V98 := V67.keep K95 (nin0)
            have V99 := V64.keep K95 (nin0)
            refine Go.astore X95 hx (hb hby at_242) rfl rfl #[.val (.int x0), .val (.int x1), .val (.int x2), .val (.int x3), .val (.int x4), .val (.long x5), .second, .val (.int (0 : Int32)), .val (.int (0 : Int32)), .val (.int (2 : Int32)), .val (.int ((x0 >>> ((4 : Int32) &&& 31)))), .val (.ref a_DM), .val (.ref b47), .val (.ref b49), .val (.long (0 : Int64)), .second, .val (.long (((0 : Int64) + (((x1).toInt64) * ((x1).toInt64))) + (((x2).toInt64) * ((x2).toInt64)))), .second, .val (.long x5), .second, .val (.long ((((0 : Int64) + (((x1).toInt64) * ((x1).toInt64))) + (((x2).toInt64) * ((x2).toInt64))) + ((0 : Int64) * x5))), .second, .val (.ref b95)] rfl ?_
            refine Go.aload X95 hx (hb hby at_244) rfl rfl rfl ?_
            refine Go.pureV X95 hx hZ hown (wd 33 rfl) (wd 34 rfl) (notFace_of_selects (args := #[]) (mvT hZ (wd 36 rfl))) (wd 36 rfl) (wd 35 rfl) (wd 11 rfl) (wd 37 rfl) (by decide) [] [] E95 (rmS l Z a0 hw b95 (0 : Int64) T95.heap Fs95) rfl rfl (by rw [hml]; rfl) pd_4 rfl (hb hby at_246) (Nat.le_of_ble_eq_true rfl) (Nat.le_of_ble_eq_true rfl) (Nat.le_of_ble_eq_true rfl) (Nat.le_of_ble_eq_true rfl) ?_
            intro T100 X100 e100
            refine Go.lload X100 hx (hb hby at_249) rfl rfl  ?_
            refine Go.lcmp X100 hx (hb hby at_251) rfl ?_
            refine Go.ifNo X100 hx (hb hby at_252) rfl ((if0 _ _).trans (teq ((lw_eq (0 : Int64) (0 : Int64)).mpr (by decide : (0 : Int64) = (0 : Int64)))).2) ?_
            refine Go.aload X100 hx (hb hby at_255) rfl rfl rfl ?_
            refine Go.pureV X100 hx hZ hown (wd 38 rfl) (wd 39 rfl) (notFace_of_selects (args := #[]) (mvT hZ (wd 41 rfl))) (wd 41 rfl) (wd 40 rfl) (wd 11 rfl) (wd 42 rfl) (by decide) [] [] E95 (rmC l Z a0 hw b95 ((((0 : Int64) + (((x1).toInt64) * ((x1).toInt64))) + (((x2).toInt64) * ((x2).toInt64))) + ((0 : Int64) * x5)) T95.heap Fc95) e100 rfl (by rw [hml]; rfl) pd_4 rfl (hb hby at_257) (Nat.le_of_ble_eq_true rfl) (Nat.le_of_ble_eq_true rfl) (Nat.le_of_ble_eq_true rfl) (Nat.le_of_ble_eq_true rfl) ?_
            intro T101 X101 e101
            refine Go.lload X101 hx (hb hby at_260) rfl rfl  ?_
            refine Go.lcmp X101 hx (hb hby at_262) rfl ?_
            refine Go.ifNo X101 hx (hb hby at_263) rfl ((if0 _ _).trans (teq ((lw_eq ((((0 : Int64) + (((x1).toInt64) * ((x1).toInt64))) + (((x2).toInt64) * ((x2).toInt64))) + ((0 : Int64) * x5)) ((((0 : Int64) + (((x1).toInt64) * ((x1).toInt64))) + (((x2).toInt64) * ((x2).toInt64))) + ((0 : Int64) * x5))).mpr (rfl : ((((0 : Int64) + (((x1).toInt64) * ((x1).toInt64))) + (((x2).toInt64) * ((x2).toInt64))) + ((0 : Int64) * x5)) = ((((0 : Int64) + (((x1).toInt64) * ((x1).toInt64))) + (((x2).toInt64) * ((x2).toInt64))) + ((0 : Int64) * x5))))).2) ?_
            refine Go.iconst X101 hx (hb hby at_266) rfl (1 : Int32) rfl ?_
            refine Go.goto X101 hx (hb hby at_267) rfl 271 (by decide) (by decide) ?_
            exact Go.retZ X101 hx (z' := (1 : Int32)) hret hlk (hb hby at_271) rfl (by decide) ⟨by first | rfl | simp [hc1, hc2, hc68, hc86], M96⟩ (Nat.le_of_ble_eq_true rfl) (Nat.le_of_ble_eq_true rfl)
    · refine Go.ifNo X0 hx (hb hby at_21) rfl ((if0 _ _).trans (feq hc2).1) ?_
      refine Go.iconst X0 hx (hb hby at_24) rfl (1 : Int32) rfl ?_
      refine Go.goto X0 hx (hb hby at_25) rfl 29 (by decide) (by decide) ?_
      refine Go.istore X0 hx (hb hby at_29) rfl  #[.val (.int x0), .val (.int x1), .val (.int x2), .val (.int x3), .val (.int x4), .val (.long x5), .second, .val (.int (0 : Int32)), .val (.int (1 : Int32)), .unset, .unset, .unset, .unset, .unset, .unset, .unset, .unset, .unset, .unset, .unset, .unset, .unset, .unset] rfl ?_
      refine Go.iloadN X0 hx (hb hby at_31) rfl rfl  ?_
      refine Go.iconst X0 hx (hb hby at_32) rfl (2 : Int32) rfl ?_
      refine Go.iushr X0 hx (hb hby at_33) rfl ?_
      refine Go.iconst X0 hx (hb hby at_34) rfl (3 : Int32) rfl ?_
      refine Go.iand X0 hx (hb hby at_35) rfl ?_
      refine Go.iconst X0 hx (hb hby at_36) rfl (3 : Int32) rfl ?_
      refine Go.irem X0 hx (hb hby at_37) rfl (by decide) ?_
      rcases own_len3 x0 with hk | hk | hk
      · show Go p e below _ s₁ (mkF m 38 #[.val (.int x0), .val (.int x1), .val (.int x2), .val (.int x3), .val (.int x4), .val (.long x5), .second, .val (.int (0 : Int32)), .val (.int (1 : Int32)), .unset, .unset, .unset, .unset, .unset, .unset, .unset, .unset, .unset, .unset, .unset, .unset, .unset, .unset] [(.int (((((x0).toUInt32 >>> ((2 : Int32) &&& 31).toUInt32).toInt32) &&& (3 : Int32)) % (3 : Int32)))])
        rw [hk]
        refine Go.istore X0 hx (hb hby at_38) rfl  #[.val (.int x0), .val (.int x1), .val (.int x2), .val (.int x3), .val (.int x4), .val (.long x5), .second, .val (.int (0 : Int32)), .val (.int (1 : Int32)), .val (.int (0 : Int32)), .unset, .unset, .unset, .unset, .unset, .unset, .unset, .unset, .unset, .unset, .unset, .unset, .unset] rfl ?_
        refine Go.iloadN X0 hx (hb hby at_40) rfl rfl  ?_
        refine Go.iconst X0 hx (hb hby at_41) rfl (4 : Int32) rfl ?_
        refine Go.ishr X0 hx (hb hby at_42) rfl ?_
        refine Go.istore X0 hx (hb hby at_43) rfl  #[.val (.int x0), .val (.int x1), .val (.int x2), .val (.int x3), .val (.int x4), .val (.long x5), .second, .val (.int (0 : Int32)), .val (.int (1 : Int32)), .val (.int (0 : Int32)), .val (.int ((x0 >>> ((4 : Int32) &&& 31)))), .unset, .unset, .unset, .unset, .unset, .unset, .unset, .unset, .unset, .unset, .unset, .unset] rfl ?_
        refine Go.iload X0 hx (hb hby at_45) rfl rfl  ?_
        refine Go.ifYes X0 hx (hb hby at_47) rfl 56 ((if0 _ _).trans (teq (by decide : (0 : Int32) = (0 : Int32))).1) (by decide) (by decide) ?_
        refine Go.getS X0 hx hZ hown (host := "") (Or.inl (wd 0 rfl)) Via.refl e0 (S_DM.ext O0.2) (hb hby at_56) rfl ?_
        intro T102 X102 e102
        refine Go.astore X102 hx (hb hby at_59) rfl rfl #[.val (.int x0), .val (.int x1), .val (.int x2), .val (.int x3), .val (.int x4), .val (.long x5), .second, .val (.int (0 : Int32)), .val (.int (1 : Int32)), .val (.int (0 : Int32)), .val (.int ((x0 >>> ((4 : Int32) &&& 31)))), .val (.ref a_DM), .unset, .unset, .unset, .unset, .unset, .unset, .unset, .unset, .unset, .unset, .unset] rfl ?_
        refine Go.iload X102 hx (hb hby at_61) rfl rfl  ?_
        refine Go.newP X102 hx hZ (wd 3 rfl) e102 0 (by decide) 0 (by decide) (by decide) (Nat.le_of_ble_eq_true rfl) (Nat.le_of_ble_eq_true rfl) "[I" (by decide) (hb hby at_63) rfl ?_
        intro T103 h103 b103 k103 g103 X103 e103 E103 V103' A103
        have V103 : Arv Z h103 b103 k103 .int (0 : Int32) [] (.int (0 : Int32)) := V103'
        have q103 : Z.heap.size ≤ b103 := Nat.le_trans O0.2.1 (Nat.le_of_eq g103.symm)
        have O104 := O0.ext E103
        refine Go.astore X103 hx (hb hby at_65) rfl rfl #[.val (.int x0), .val (.int x1), .val (.int x2), .val (.int x3), .val (.int x4), .val (.long x5), .second, .val (.int (0 : Int32)), .val (.int (1 : Int32)), .val (.int (0 : Int32)), .val (.int ((x0 >>> ((4 : Int32) &&& 31)))), .val (.ref a_DM), .val (.ref b103), .unset, .unset, .unset, .unset, .unset, .unset, .unset, .unset, .unset, .unset] rfl ?_
        refine Go.iload X103 hx (hb hby at_67) rfl rfl  ?_
        refine Go.newP X103 hx hZ (wd 3 rfl) e103 0 (by decide) 0 (by decide) (by decide) (Nat.le_of_ble_eq_true rfl) (Nat.le_of_ble_eq_true rfl) "[I" (by decide) (hb hby at_69) rfl ?_
        intro T105 h105 b105 k105 g105 X105 e105 E105 V105' A105
        have V105 : Arv Z h105 b105 k105 .int (0 : Int32) [] (.int (0 : Int32)) := V105'
        have q105 : Z.heap.size ≤ b105 := Nat.le_trans O104.2.1 (Nat.le_of_eq g105.symm)
        have ne_b103_b105 : b103 ≠ b105 := Nat.ne_of_lt (Nat.lt_of_lt_of_le V103.lt (Nat.le_of_eq g105.symm))
        have O106 := O104.ext E105
        have V107 := V103.ext E105
        refine Go.astore X105 hx (hb hby at_71) rfl rfl #[.val (.int x0), .val (.int x1), .val (.int x2), .val (.int x3), .val (.int x4), .val (.long x5), .second, .val (.int (0 : Int32)), .val (.int (1 : Int32)), .val (.int (0 : Int32)), .val (.int ((x0 >>> ((4 : Int32) &&& 31)))), .val (.ref a_DM), .val (.ref b103), .val (.ref b105), .unset, .unset, .unset, .unset, .unset, .unset, .unset, .unset, .unset] rfl ?_
        refine Go.iload X105 hx (hb hby at_73) rfl rfl  ?_
        refine Go.ifYes X105 hx (hb hby at_75) rfl 88 ((if0 _ _).trans (flt (by decide : ¬ ((0 : Int32) < (0 : Int32)))).2.2.2) (by decide) (by decide) ?_
        refine Go.iload X105 hx (hb hby at_88) rfl rfl  ?_
        refine Go.iconst X105 hx (hb hby at_90) rfl (1 : Int32) rfl ?_
        refine Go.icmpYes X105 hx (hb hby at_91) rfl 105 (flt (by decide : ¬ ((1 : Int32) < (0 : Int32)))).2.2.2 (by decide) (by decide) ?_
        refine Go.lconst X105 hx (hb hby at_105) rfl (0 : Int64) rfl ?_
        refine Go.lstore X105 hx (hb hby at_106) rfl  #[.val (.int x0), .val (.int x1), .val (.int x2), .val (.int x3), .val (.int x4), .val (.long x5), .second, .val (.int (0 : Int32)), .val (.int (1 : Int32)), .val (.int (0 : Int32)), .val (.int ((x0 >>> ((4 : Int32) &&& 31)))), .val (.ref a_DM), .val (.ref b103), .val (.ref b105), .val (.long (0 : Int64)), .second, .unset, .unset, .unset, .unset, .unset, .unset, .unset] rfl ?_
        refine Go.lconst X105 hx (hb hby at_108) rfl (0 : Int64) rfl ?_
        refine Go.lstore X105 hx (hb hby at_109) rfl  #[.val (.int x0), .val (.int x1), .val (.int x2), .val (.int x3), .val (.int x4), .val (.long x5), .second, .val (.int (0 : Int32)), .val (.int (1 : Int32)), .val (.int (0 : Int32)), .val (.int ((x0 >>> ((4 : Int32) &&& 31)))), .val (.ref a_DM), .val (.ref b103), .val (.ref b105), .val (.long (0 : Int64)), .second, .val (.long (0 : Int64)), .second, .unset, .unset, .unset, .unset, .unset] rfl ?_
        refine Go.iload X105 hx (hb hby at_111) rfl rfl  ?_
        refine Go.ifYes X105 hx (hb hby at_113) rfl 153 ((if0 _ _).trans (flt (by decide : ¬ ((0 : Int32) < (0 : Int32)))).2.2.2) (by decide) (by decide) ?_
        refine Go.iload X105 hx (hb hby at_153) rfl rfl  ?_
        refine Go.iconst X105 hx (hb hby at_155) rfl (1 : Int32) rfl ?_
        refine Go.icmpYes X105 hx (hb hby at_156) rfl 197 (flt (by decide : ¬ ((1 : Int32) < (0 : Int32)))).2.2.2 (by decide) (by decide) ?_
        refine Go.iload X105 hx (hb hby at_197) rfl rfl  ?_
        refine Go.ifYes X105 hx (hb hby at_199) rfl 206 ((if0 _ _).trans (teq (by decide : (0 : Int32) = (0 : Int32))).1) (by decide) (by decide) ?_
        refine Go.lload X105 hx (hb hby at_206) rfl rfl  ?_
        refine Go.lstore X105 hx (hb hby at_208) rfl  #[.val (.int x0), .val (.int x1), .val (.int x2), .val (.int x3), .val (.int x4), .val (.long x5), .second, .val (.int (0 : Int32)), .val (.int (1 : Int32)), .val (.int (0 : Int32)), .val (.int ((x0 >>> ((4 : Int32) &&& 31)))), .val (.ref a_DM), .val (.ref b103), .val (.ref b105), .val (.long (0 : Int64)), .second, .val (.long (0 : Int64)), .second, .val (.long x5), .second, .unset, .unset, .unset] rfl ?_
        refine Go.lload X105 hx (hb hby at_210) rfl rfl  ?_
        refine Go.lload X105 hx (hb hby at_212) rfl rfl  ?_
        refine Go.lload X105 hx (hb hby at_214) rfl rfl  ?_
        refine Go.lmul X105 hx (hb hby at_216) rfl ?_
        refine Go.ladd X105 hx (hb hby at_217) rfl ?_
        refine Go.lstore X105 hx (hb hby at_218) rfl  #[.val (.int x0), .val (.int x1), .val (.int x2), .val (.int x3), .val (.int x4), .val (.long x5), .second, .val (.int (0 : Int32)), .val (.int (1 : Int32)), .val (.int (0 : Int32)), .val (.int ((x0 >>> ((4 : Int32) &&& 31)))), .val (.ref a_DM), .val (.ref b103), .val (.ref b105), .val (.long (0 : Int64)), .second, .val (.long (0 : Int64)), .second, .val (.long x5), .second, .val (.long ((0 : Int64) + ((0 : Int64) * x5))), .second, .unset] rfl ?_
        refine Go.aload X105 hx (hb hby at_220) rfl rfl rfl ?_
        refine Go.aload X105 hx (hb hby at_222) rfl rfl rfl ?_
        refine Go.iload X105 hx (hb hby at_224) rfl rfl  ?_
        refine Go.ifNo X105 hx (hb hby at_226) rfl ((if0 _ _).trans (feq (by decide : ¬ ((1 : Int32) = (0 : Int32)))).1) ?_
        refine Go.aconstNull X105 hx (hb hby at_229) rfl ?_
        refine Go.goto X105 hx (hb hby at_230) rfl 235 (by decide) (by decide) ?_
        refine Go.lload X105 hx (hb hby at_235) rfl rfl  ?_
        refine Go.iload X105 hx (hb hby at_237) rfl rfl  ?_
        refine Go.callV X105 hx hZ hown (wd 4 rfl) (wd 5 rfl) (notFace_of_selects (args := #[]) (mvT hZ (wd 7 rfl))) (wd 7 rfl) (wd 6 rfl) (wd 1 rfl) (wd 8 rfl) (by decide) [(.ref b103), .null, (.long x5), (.int ((x0 >>> ((4 : Int32) &&& 31))))] [] (E_DM.ext O106.2) (rmEv010 l Z a0 hw b103 k103 x5 ((x0 >>> ((4 : Int32) &&& 31))) a_DM a_CM h105 O106 FF V107) e105 rfl (by rw [hml]; rfl) pd_3 rfl (hb hby at_239) (Nat.le_of_ble_eq_true rfl) (Nat.le_of_ble_eq_true rfl) (Nat.le_of_ble_eq_true rfl) (Nat.le_of_ble_eq_true rfl) ?_
        rintro vv108 T108 L108 X108 Q108
        obtain ⟨b108, rfl, N108, K108, sz108, E108, Fs108, Fc108⟩ := Q108
        have M109 := Fr.app (Fr.nil _) N108
        have q108 : Z.heap.size ≤ b108 := Nat.le_trans O106.2.1 sz108
        have ne_b103_b108 : b103 ≠ b108 := Nat.ne_of_lt (Nat.lt_of_lt_of_le V107.lt sz108)
        have ne_b105_b108 : b105 ≠ b108 := Nat.ne_of_lt (Nat.lt_of_lt_of_le V105.lt sz108)
        have O110 := O106.keep K108 (all0)
        have V111 := V107.keep K108 (nin0)
        have V112 := V105.keep K108 (nin0)
        refine Go.astore X108 hx (hb hby at_242) rfl rfl #[.val (.int x0), .val (.int x1), .val (.int x2), .val (.int x3), .val (.int x4), .val (.long x5), .second, .val (.int (0 : Int32)), .val (.int (1 : Int32)), .val (.int (0 : Int32)), .val (.int ((x0 >>> ((4 : Int32) &&& 31)))), .val (.ref a_DM), .val (.ref b103), .val (.ref b105), .val (.long (0 : Int64)), .second, .val (.long (0 : Int64)), .second, .val (.long x5), .second, .val (.long ((0 : Int64) + ((0 : Int64) * x5))), .second, .val (.ref b108)] rfl ?_
        refine Go.aload X108 hx (hb hby at_244) rfl rfl rfl ?_
        refine Go.pureV X108 hx hZ hown (wd 33 rfl) (wd 34 rfl) (notFace_of_selects (args := #[]) (mvT hZ (wd 36 rfl))) (wd 36 rfl) (wd 35 rfl) (wd 11 rfl) (wd 37 rfl) (by decide) [] [] E108 (rmS l Z a0 hw b108 (0 : Int64) T108.heap Fs108) rfl rfl (by rw [hml]; rfl) pd_4 rfl (hb hby at_246) (Nat.le_of_ble_eq_true rfl) (Nat.le_of_ble_eq_true rfl) (Nat.le_of_ble_eq_true rfl) (Nat.le_of_ble_eq_true rfl) ?_
        intro T113 X113 e113
        refine Go.lload X113 hx (hb hby at_249) rfl rfl  ?_
        refine Go.lcmp X113 hx (hb hby at_251) rfl ?_
        refine Go.ifNo X113 hx (hb hby at_252) rfl ((if0 _ _).trans (teq ((lw_eq (0 : Int64) (0 : Int64)).mpr (by decide : (0 : Int64) = (0 : Int64)))).2) ?_
        refine Go.aload X113 hx (hb hby at_255) rfl rfl rfl ?_
        refine Go.pureV X113 hx hZ hown (wd 38 rfl) (wd 39 rfl) (notFace_of_selects (args := #[]) (mvT hZ (wd 41 rfl))) (wd 41 rfl) (wd 40 rfl) (wd 11 rfl) (wd 42 rfl) (by decide) [] [] E108 (rmC l Z a0 hw b108 ((0 : Int64) + ((0 : Int64) * x5)) T108.heap Fc108) e113 rfl (by rw [hml]; rfl) pd_4 rfl (hb hby at_257) (Nat.le_of_ble_eq_true rfl) (Nat.le_of_ble_eq_true rfl) (Nat.le_of_ble_eq_true rfl) (Nat.le_of_ble_eq_true rfl) ?_
        intro T114 X114 e114
        refine Go.lload X114 hx (hb hby at_260) rfl rfl  ?_
        refine Go.lcmp X114 hx (hb hby at_262) rfl ?_
        refine Go.ifNo X114 hx (hb hby at_263) rfl ((if0 _ _).trans (teq ((lw_eq ((0 : Int64) + ((0 : Int64) * x5)) ((0 : Int64) + ((0 : Int64) * x5))).mpr (rfl : ((0 : Int64) + ((0 : Int64) * x5)) = ((0 : Int64) + ((0 : Int64) * x5))))).2) ?_
        refine Go.iconst X114 hx (hb hby at_266) rfl (1 : Int32) rfl ?_
        refine Go.goto X114 hx (hb hby at_267) rfl 271 (by decide) (by decide) ?_
        exact Go.retZ X114 hx (z' := (1 : Int32)) hret hlk (hb hby at_271) rfl (by decide) ⟨by first | rfl | simp [hc1, hc2], M109⟩ (Nat.le_of_ble_eq_true rfl) (Nat.le_of_ble_eq_true rfl)
      · show Go p e below _ s₁ (mkF m 38 #[.val (.int x0), .val (.int x1), .val (.int x2), .val (.int x3), .val (.int x4), .val (.long x5), .second, .val (.int (0 : Int32)), .val (.int (1 : Int32)), .unset, .unset, .unset, .unset, .unset, .unset, .unset, .unset, .unset, .unset, .unset, .unset, .unset, .unset] [(.int (((((x0).toUInt32 >>> ((2 : Int32) &&& 31).toUInt32).toInt32) &&& (3 : Int32)) % (3 : Int32)))])
        rw [hk]
        refine Go.istore X0 hx (hb hby at_38) rfl  #[.val (.int x0), .val (.int x1), .val (.int x2), .val (.int x3), .val (.int x4), .val (.long x5), .second, .val (.int (0 : Int32)), .val (.int (1 : Int32)), .val (.int (1 : Int32)), .unset, .unset, .unset, .unset, .unset, .unset, .unset, .unset, .unset, .unset, .unset, .unset, .unset] rfl ?_
        refine Go.iloadN X0 hx (hb hby at_40) rfl rfl  ?_
        refine Go.iconst X0 hx (hb hby at_41) rfl (4 : Int32) rfl ?_
        refine Go.ishr X0 hx (hb hby at_42) rfl ?_
        refine Go.istore X0 hx (hb hby at_43) rfl  #[.val (.int x0), .val (.int x1), .val (.int x2), .val (.int x3), .val (.int x4), .val (.long x5), .second, .val (.int (0 : Int32)), .val (.int (1 : Int32)), .val (.int (1 : Int32)), .val (.int ((x0 >>> ((4 : Int32) &&& 31)))), .unset, .unset, .unset, .unset, .unset, .unset, .unset, .unset, .unset, .unset, .unset, .unset] rfl ?_
        refine Go.iload X0 hx (hb hby at_45) rfl rfl  ?_
        refine Go.ifYes X0 hx (hb hby at_47) rfl 56 ((if0 _ _).trans (teq (by decide : (0 : Int32) = (0 : Int32))).1) (by decide) (by decide) ?_
        refine Go.getS X0 hx hZ hown (host := "") (Or.inl (wd 0 rfl)) Via.refl e0 (S_DM.ext O0.2) (hb hby at_56) rfl ?_
        intro T115 X115 e115
        refine Go.astore X115 hx (hb hby at_59) rfl rfl #[.val (.int x0), .val (.int x1), .val (.int x2), .val (.int x3), .val (.int x4), .val (.long x5), .second, .val (.int (0 : Int32)), .val (.int (1 : Int32)), .val (.int (1 : Int32)), .val (.int ((x0 >>> ((4 : Int32) &&& 31)))), .val (.ref a_DM), .unset, .unset, .unset, .unset, .unset, .unset, .unset, .unset, .unset, .unset, .unset] rfl ?_
        refine Go.iload X115 hx (hb hby at_61) rfl rfl  ?_
        refine Go.newP X115 hx hZ (wd 3 rfl) e115 1 (by decide) 1 (by decide) (by decide) (Nat.le_of_ble_eq_true rfl) (Nat.le_of_ble_eq_true rfl) "[I" (by decide) (hb hby at_63) rfl ?_
        intro T116 h116 b116 k116 g116 X116 e116 E116 V116' A116
        have V116 : Arv Z h116 b116 k116 .int (1 : Int32) [(.int (0 : Int32))] (.int (0 : Int32)) := V116'
        have q116 : Z.heap.size ≤ b116 := Nat.le_trans O0.2.1 (Nat.le_of_eq g116.symm)
        have O117 := O0.ext E116
        refine Go.astore X116 hx (hb hby at_65) rfl rfl #[.val (.int x0), .val (.int x1), .val (.int x2), .val (.int x3), .val (.int x4), .val (.long x5), .second, .val (.int (0 : Int32)), .val (.int (1 : Int32)), .val (.int (1 : Int32)), .val (.int ((x0 >>> ((4 : Int32) &&& 31)))), .val (.ref a_DM), .val (.ref b116), .unset, .unset, .unset, .unset, .unset, .unset, .unset, .unset, .unset, .unset] rfl ?_
        refine Go.iload X116 hx (hb hby at_67) rfl rfl  ?_
        refine Go.newP X116 hx hZ (wd 3 rfl) e116 1 (by decide) 1 (by decide) (by decide) (Nat.le_of_ble_eq_true rfl) (Nat.le_of_ble_eq_true rfl) "[I" (by decide) (hb hby at_69) rfl ?_
        intro T118 h118 b118 k118 g118 X118 e118 E118 V118' A118
        have V118 : Arv Z h118 b118 k118 .int (1 : Int32) [(.int (0 : Int32))] (.int (0 : Int32)) := V118'
        have q118 : Z.heap.size ≤ b118 := Nat.le_trans O117.2.1 (Nat.le_of_eq g118.symm)
        have ne_b116_b118 : b116 ≠ b118 := Nat.ne_of_lt (Nat.lt_of_lt_of_le V116.lt (Nat.le_of_eq g118.symm))
        have O119 := O117.ext E118
        have V120 := V116.ext E118
        refine Go.astore X118 hx (hb hby at_71) rfl rfl #[.val (.int x0), .val (.int x1), .val (.int x2), .val (.int x3), .val (.int x4), .val (.long x5), .second, .val (.int (0 : Int32)), .val (.int (1 : Int32)), .val (.int (1 : Int32)), .val (.int ((x0 >>> ((4 : Int32) &&& 31)))), .val (.ref a_DM), .val (.ref b116), .val (.ref b118), .unset, .unset, .unset, .unset, .unset, .unset, .unset, .unset, .unset] rfl ?_
        refine Go.iload X118 hx (hb hby at_73) rfl rfl  ?_
        refine Go.ifNo X118 hx (hb hby at_75) rfl ((if0 _ _).trans (tlt (by decide : (0 : Int32) < (1 : Int32))).2.2.2) ?_
        refine Go.aload X118 hx (hb hby at_78) rfl rfl rfl ?_
        refine Go.iconst X118 hx (hb hby at_80) rfl (0 : Int32) rfl ?_
        refine Go.iloadN X118 hx (hb hby at_81) rfl rfl  ?_
        refine Go.iastore X118 hx hZ V120 e118 ⟨by decide, by decide⟩ 0 (by decide) (Nat.le_of_ble_eq_true rfl)  (hb hby at_82) rfl ?_
        intro T121 h121 X121 e121 W121 V121'
        have V121 : Arv Z h121 b116 k116 .int (1 : Int32) [(.int x1)] (.int (0 : Int32)) := V121'
        have O122 := O119.wr W121 q116
        have N123 := Fr.snoc X121 (Fr.nil _) q116
        have V124 := V118.other W121 (Ne.symm ne_b116_b118)
        refine Go.aload X121 hx (hb hby at_83) rfl rfl rfl ?_
        refine Go.iconst X121 hx (hb hby at_85) rfl (0 : Int32) rfl ?_
        refine Go.iloadN X121 hx (hb hby at_86) rfl rfl  ?_
        refine Go.iastore X121 hx hZ V124 e121 ⟨by decide, by decide⟩ 0 (by decide) (Nat.le_of_ble_eq_true rfl)  (hb hby at_87) rfl ?_
        intro T125 h125 X125 e125 W125 V125'
        have V125 : Arv Z h125 b118 k118 .int (1 : Int32) [(.int x3)] (.int (0 : Int32)) := V125'
        have O126 := O122.wr W125 q118
        have N127 := Fr.snoc X125 N123 q118
        have V128 := V121.other W125 ne_b116_b118
        refine Go.iload X125 hx (hb hby at_88) rfl rfl  ?_
        refine Go.iconst X125 hx (hb hby at_90) rfl (1 : Int32) rfl ?_
        refine Go.icmpYes X125 hx (hb hby at_91) rfl 105 (flt (by decide : ¬ ((1 : Int32) < (1 : Int32)))).2.2.2 (by decide) (by decide) ?_
        refine Go.lconst X125 hx (hb hby at_105) rfl (0 : Int64) rfl ?_
        refine Go.lstore X125 hx (hb hby at_106) rfl  #[.val (.int x0), .val (.int x1), .val (.int x2), .val (.int x3), .val (.int x4), .val (.long x5), .second, .val (.int (0 : Int32)), .val (.int (1 : Int32)), .val (.int (1 : Int32)), .val (.int ((x0 >>> ((4 : Int32) &&& 31)))), .val (.ref a_DM), .val (.ref b116), .val (.ref b118), .val (.long (0 : Int64)), .second, .unset, .unset, .unset, .unset, .unset, .unset, .unset] rfl ?_
        refine Go.lconst X125 hx (hb hby at_108) rfl (0 : Int64) rfl ?_
        refine Go.lstore X125 hx (hb hby at_109) rfl  #[.val (.int x0), .val (.int x1), .val (.int x2), .val (.int x3), .val (.int x4), .val (.long x5), .second, .val (.int (0 : Int32)), .val (.int (1 : Int32)), .val (.int (1 : Int32)), .val (.int ((x0 >>> ((4 : Int32) &&& 31)))), .val (.ref a_DM), .val (.ref b116), .val (.ref b118), .val (.long (0 : Int64)), .second, .val (.long (0 : Int64)), .second, .unset, .unset, .unset, .unset, .unset] rfl ?_
        refine Go.iload X125 hx (hb hby at_111) rfl rfl  ?_
        refine Go.ifNo X125 hx (hb hby at_113) rfl ((if0 _ _).trans (tlt (by decide : (0 : Int32) < (1 : Int32))).2.2.2) ?_
        refine Go.iloadN X125 hx (hb hby at_116) rfl rfl  ?_
        refine Go.iload X125 hx (hb hby at_117) rfl rfl  ?_
        by_cases hc129 : x1 < ((x0 >>> ((4 : Int32) &&& 31)))
        · refine Go.icmpNo X125 hx (hb hby at_119) rfl (tlt hc129).2.1 ?_
          refine Go.lload X125 hx (hb hby at_122) rfl rfl  ?_
          refine Go.iloadN X125 hx (hb hby at_124) rfl rfl  ?_
          refine Go.i2l X125 hx (hb hby at_125) rfl ?_
          refine Go.ladd X125 hx (hb hby at_126) rfl ?_
          refine Go.lstore X125 hx (hb hby at_127) rfl  #[.val (.int x0), .val (.int x1), .val (.int x2), .val (.int x3), .val (.int x4), .val (.long x5), .second, .val (.int (0 : Int32)), .val (.int (1 : Int32)), .val (.int (1 : Int32)), .val (.int ((x0 >>> ((4 : Int32) &&& 31)))), .val (.ref a_DM), .val (.ref b116), .val (.ref b118), .val (.long ((0 : Int64) + ((x1).toInt64))), .second, .val (.long (0 : Int64)), .second, .unset, .unset, .unset, .unset, .unset] rfl ?_
          refine Go.goto X125 hx (hb hby at_129) rfl 153 (by decide) (by decide) ?_
          refine Go.iload X125 hx (hb hby at_153) rfl rfl  ?_
          refine Go.iconst X125 hx (hb hby at_155) rfl (1 : Int32) rfl ?_
          refine Go.icmpYes X125 hx (hb hby at_156) rfl 197 (flt (by decide : ¬ ((1 : Int32) < (1 : Int32)))).2.2.2 (by decide) (by decide) ?_
          refine Go.iload X125 hx (hb hby at_197) rfl rfl  ?_
          refine Go.ifYes X125 hx (hb hby at_199) rfl 206 ((if0 _ _).trans (teq (by decide : (0 : Int32) = (0 : Int32))).1) (by decide) (by decide) ?_
          refine Go.lload X125 hx (hb hby at_206) rfl rfl  ?_
          refine Go.lstore X125 hx (hb hby at_208) rfl  #[.val (.int x0), .val (.int x1), .val (.int x2), .val (.int x3), .val (.int x4), .val (.long x5), .second, .val (.int (0 : Int32)), .val (.int (1 : Int32)), .val (.int (1 : Int32)), .val (.int ((x0 >>> ((4 : Int32) &&& 31)))), .val (.ref a_DM), .val (.ref b116), .val (.ref b118), .val (.long ((0 : Int64) + ((x1).toInt64))), .second, .val (.long (0 : Int64)), .second, .val (.long x5), .second, .unset, .unset, .unset] rfl ?_
          refine Go.lload X125 hx (hb hby at_210) rfl rfl  ?_
          refine Go.lload X125 hx (hb hby at_212) rfl rfl  ?_
          refine Go.lload X125 hx (hb hby at_214) rfl rfl  ?_
          refine Go.lmul X125 hx (hb hby at_216) rfl ?_
          refine Go.ladd X125 hx (hb hby at_217) rfl ?_
          refine Go.lstore X125 hx (hb hby at_218) rfl  #[.val (.int x0), .val (.int x1), .val (.int x2), .val (.int x3), .val (.int x4), .val (.long x5), .second, .val (.int (0 : Int32)), .val (.int (1 : Int32)), .val (.int (1 : Int32)), .val (.int ((x0 >>> ((4 : Int32) &&& 31)))), .val (.ref a_DM), .val (.ref b116), .val (.ref b118), .val (.long ((0 : Int64) + ((x1).toInt64))), .second, .val (.long (0 : Int64)), .second, .val (.long x5), .second, .val (.long ((0 : Int64) + (((0 : Int64) + ((x1).toInt64)) * x5))), .second, .unset] rfl ?_
          refine Go.aload X125 hx (hb hby at_220) rfl rfl rfl ?_
          refine Go.aload X125 hx (hb hby at_222) rfl rfl rfl ?_
          refine Go.iload X125 hx (hb hby at_224) rfl rfl  ?_
          refine Go.ifNo X125 hx (hb hby at_226) rfl ((if0 _ _).trans (feq (by decide : ¬ ((1 : Int32) = (0 : Int32)))).1) ?_
          refine Go.aconstNull X125 hx (hb hby at_229) rfl ?_
          refine Go.goto X125 hx (hb hby at_230) rfl 235 (by decide) (by decide) ?_
          refine Go.lload X125 hx (hb hby at_235) rfl rfl  ?_
          refine Go.iload X125 hx (hb hby at_237) rfl rfl  ?_
          refine Go.callV X125 hx hZ hown (wd 4 rfl) (wd 5 rfl) (notFace_of_selects (args := #[]) (mvT hZ (wd 7 rfl))) (wd 7 rfl) (wd 6 rfl) (wd 1 rfl) (wd 8 rfl) (by decide) [(.ref b116), .null, (.long x5), (.int ((x0 >>> ((4 : Int32) &&& 31))))] [] (E_DM.ext O126.2) (rmEv011t l Z a0 hw b116 k116 x1 x5 ((x0 >>> ((4 : Int32) &&& 31))) a_DM a_CM h125 O126 FF V128 hc129) e125 rfl (by rw [hml]; rfl) pd_3 rfl (hb hby at_239) (Nat.le_of_ble_eq_true rfl) (Nat.le_of_ble_eq_true rfl) (Nat.le_of_ble_eq_true rfl) (Nat.le_of_ble_eq_true rfl) ?_
          rintro vv130 T130 L130 X130 Q130
          obtain ⟨b130, rfl, N130, K130, sz130, E130, Fs130, Fc130⟩ := Q130
          have M131 := Fr.app N127 N130
          have q130 : Z.heap.size ≤ b130 := Nat.le_trans O126.2.1 sz130
          have ne_b116_b130 : b116 ≠ b130 := Nat.ne_of_lt (Nat.lt_of_lt_of_le V128.lt sz130)
          have ne_b118_b130 : b118 ≠ b130 := Nat.ne_of_lt (Nat.lt_of_lt_of_le V125.lt sz130)
          have O132 := O126.keep K130 (all0)
          have V133 := V128.keep K130 (nin0)
          have V134 := V125.keep K130 (nin0)
          refine Go.astore X130 hx (hb hby at_242) rfl rfl #[.val (.int x0), .val (.int x1), .val (.int x2), .val (.int x3), .val (.int x4), .val (.long x5), .second, .val (.int (0 : Int32)), .val (.int (1 : Int32)), .val (.int (1 : Int32)), .val (.int ((x0 >>> ((4 : Int32) &&& 31)))), .val (.ref a_DM), .val (.ref b116), .val (.ref b118), .val (.long ((0 : Int64) + ((x1).toInt64))), .second, .val (.long (0 : Int64)), .second, .val (.long x5), .second, .val (.long ((0 : Int64) + (((0 : Int64) + ((x1).toInt64)) * x5))), .second, .val (.ref b130)] rfl ?_
          refine Go.aload X130 hx (hb hby at_244) rfl rfl rfl ?_
          refine Go.pureV X130 hx hZ hown (wd 33 rfl) (wd 34 rfl) (notFace_of_selects (args := #[]) (mvT hZ (wd 36 rfl))) (wd 36 rfl) (wd 35 rfl) (wd 11 rfl) (wd 37 rfl) (by decide) [] [] E130 (rmS l Z a0 hw b130 ((0 : Int64) + ((x1).toInt64)) T130.heap Fs130) rfl rfl (by rw [hml]; rfl) pd_4 rfl (hb hby at_246) (Nat.le_of_ble_eq_true rfl) (Nat.le_of_ble_eq_true rfl) (Nat.le_of_ble_eq_true rfl) (Nat.le_of_ble_eq_true rfl) ?_
          intro T135 X135 e135
          refine Go.lload X135 hx (hb hby at_249) rfl rfl  ?_
          refine Go.lcmp X135 hx (hb hby at_251) rfl ?_
          refine Go.ifNo X135 hx (hb hby at_252) rfl ((if0 _ _).trans (teq ((lw_eq ((0 : Int64) + ((x1).toInt64)) ((0 : Int64) + ((x1).toInt64))).mpr (rfl : ((0 : Int64) + ((x1).toInt64)) = ((0 : Int64) + ((x1).toInt64))))).2) ?_
          refine Go.aload X135 hx (hb hby at_255) rfl rfl rfl ?_
          refine Go.pureV X135 hx hZ hown (wd 38 rfl) (wd 39 rfl) (notFace_of_selects (args := #[]) (mvT hZ (wd 41 rfl))) (wd 41 rfl) (wd 40 rfl) (wd 11 rfl) (wd 42 rfl) (by decide) [] [] E130 (rmC l Z a0 hw b130 ((0 : Int64) + (((0 : Int64) + ((x1).toInt64)) * x5)) T130.heap Fc130) e135 rfl (by rw [hml]; rfl) pd_4 rfl (hb hby at_257) (Nat.le_of_ble_eq_true rfl) (Nat.le_of_ble_eq_true rfl) (Nat.le_of_ble_eq_true rfl) (Nat.le_of_ble_eq_true rfl) ?_
          intro T136 X136 e136
          refine Go.lload X136 hx (hb hby at_260) rfl rfl  ?_
          refine Go.lcmp X136 hx (hb hby at_262) rfl ?_
          refine Go.ifNo X136 hx (hb hby at_263) rfl ((if0 _ _).trans (teq ((lw_eq ((0 : Int64) + (((0 : Int64) + ((x1).toInt64)) * x5)) ((0 : Int64) + (((0 : Int64) + ((x1).toInt64)) * x5))).mpr (rfl : ((0 : Int64) + (((0 : Int64) + ((x1).toInt64)) * x5)) = ((0 : Int64) + (((0 : Int64) + ((x1).toInt64)) * x5))))).2) ?_
          refine Go.iconst X136 hx (hb hby at_266) rfl (1 : Int32) rfl ?_
          refine Go.goto X136 hx (hb hby at_267) rfl 271 (by decide) (by decide) ?_
          exact Go.retZ X136 hx (z' := (1 : Int32)) hret hlk (hb hby at_271) rfl (by decide) ⟨by first | rfl | simp [hc1, hc2, hc129], M131⟩ (Nat.le_of_ble_eq_true rfl) (Nat.le_of_ble_eq_true rfl)
        · refine Go.icmpYes X125 hx (hb hby at_119) rfl 132 (flt hc129).2.1 (by decide) (by decide) ?_
          refine Go.lload X125 hx (hb hby at_132) rfl rfl  ?_
          refine Go.iload X125 hx (hb hby at_134) rfl rfl  ?_
          refine Go.iloadN X125 hx (hb hby at_136) rfl rfl  ?_
          refine Go.iload X125 hx (hb hby at_137) rfl rfl  ?_
          refine Go.ifNo X125 hx (hb hby at_139) rfl ((if0 _ _).trans (feq (by decide : ¬ ((1 : Int32) = (0 : Int32)))).1) ?_
          refine Go.iconst X125 hx (hb hby at_142) rfl (0 : Int32) rfl ?_
          refine Go.goto X125 hx (hb hby at_143) rfl 147 (by decide) (by decide) ?_
          refine Go.pureS X125 hx hZ hown (wd 43 rfl) (wd 44 rfl) (wd 45 rfl) (wd 46 rfl) (by decide) [(.int (0 : Int32)), (.int x1), (.int (0 : Int32))] [(.long (0 : Int64))] (rmP0 l Z a0 hw x1 (0 : Int32) h125) e125 rfl (by rw [hml]; rfl) pd_5 rfl (hb hby at_147) (Nat.le_of_ble_eq_true rfl) (Nat.le_of_ble_eq_true rfl) (Nat.le_of_ble_eq_true rfl) (Nat.le_of_ble_eq_true rfl) ?_
          intro T137 X137 e137
          refine Go.ladd X137 hx (hb hby at_150) rfl ?_
          refine Go.lstore X137 hx (hb hby at_151) rfl  #[.val (.int x0), .val (.int x1), .val (.int x2), .val (.int x3), .val (.int x4), .val (.long x5), .second, .val (.int (0 : Int32)), .val (.int (1 : Int32)), .val (.int (1 : Int32)), .val (.int ((x0 >>> ((4 : Int32) &&& 31)))), .val (.ref a_DM), .val (.ref b116), .val (.ref b118), .val (.long (0 : Int64)), .second, .val (.long ((0 : Int64) + (((x1).toInt64) * ((x1).toInt64)))), .second, .unset, .unset, .unset, .unset, .unset] rfl ?_
          refine Go.iload X137 hx (hb hby at_153) rfl rfl  ?_
          refine Go.iconst X137 hx (hb hby at_155) rfl (1 : Int32) rfl ?_
          refine Go.icmpYes X137 hx (hb hby at_156) rfl 197 (flt (by decide : ¬ ((1 : Int32) < (1 : Int32)))).2.2.2 (by decide) (by decide) ?_
          refine Go.iload X137 hx (hb hby at_197) rfl rfl  ?_
          refine Go.ifYes X137 hx (hb hby at_199) rfl 206 ((if0 _ _).trans (teq (by decide : (0 : Int32) = (0 : Int32))).1) (by decide) (by decide) ?_
          refine Go.lload X137 hx (hb hby at_206) rfl rfl  ?_
          refine Go.lstore X137 hx (hb hby at_208) rfl  #[.val (.int x0), .val (.int x1), .val (.int x2), .val (.int x3), .val (.int x4), .val (.long x5), .second, .val (.int (0 : Int32)), .val (.int (1 : Int32)), .val (.int (1 : Int32)), .val (.int ((x0 >>> ((4 : Int32) &&& 31)))), .val (.ref a_DM), .val (.ref b116), .val (.ref b118), .val (.long (0 : Int64)), .second, .val (.long ((0 : Int64) + (((x1).toInt64) * ((x1).toInt64)))), .second, .val (.long x5), .second, .unset, .unset, .unset] rfl ?_
          refine Go.lload X137 hx (hb hby at_210) rfl rfl  ?_
          refine Go.lload X137 hx (hb hby at_212) rfl rfl  ?_
          refine Go.lload X137 hx (hb hby at_214) rfl rfl  ?_
          refine Go.lmul X137 hx (hb hby at_216) rfl ?_
          refine Go.ladd X137 hx (hb hby at_217) rfl ?_
          refine Go.lstore X137 hx (hb hby at_218) rfl  #[.val (.int x0), .val (.int x1), .val (.int x2), .val (.int x3), .val (.int x4), .val (.long x5), .second, .val (.int (0 : Int32)), .val (.int (1 : Int32)), .val (.int (1 : Int32)), .val (.int ((x0 >>> ((4 : Int32) &&& 31)))), .val (.ref a_DM), .val (.ref b116), .val (.ref b118), .val (.long (0 : Int64)), .second, .val (.long ((0 : Int64) + (((x1).toInt64) * ((x1).toInt64)))), .second, .val (.long x5), .second, .val (.long (((0 : Int64) + (((x1).toInt64) * ((x1).toInt64))) + ((0 : Int64) * x5))), .second, .unset] rfl ?_
          refine Go.aload X137 hx (hb hby at_220) rfl rfl rfl ?_
          refine Go.aload X137 hx (hb hby at_222) rfl rfl rfl ?_
          refine Go.iload X137 hx (hb hby at_224) rfl rfl  ?_
          refine Go.ifNo X137 hx (hb hby at_226) rfl ((if0 _ _).trans (feq (by decide : ¬ ((1 : Int32) = (0 : Int32)))).1) ?_
          refine Go.aconstNull X137 hx (hb hby at_229) rfl ?_
          refine Go.goto X137 hx (hb hby at_230) rfl 235 (by decide) (by decide) ?_
          refine Go.lload X137 hx (hb hby at_235) rfl rfl  ?_
          refine Go.iload X137 hx (hb hby at_237) rfl rfl  ?_
          refine Go.callV X137 hx hZ hown (wd 4 rfl) (wd 5 rfl) (notFace_of_selects (args := #[]) (mvT hZ (wd 7 rfl))) (wd 7 rfl) (wd 6 rfl) (wd 1 rfl) (wd 8 rfl) (by decide) [(.ref b116), .null, (.long x5), (.int ((x0 >>> ((4 : Int32) &&& 31))))] [] (E_DM.ext O126.2) (rmEv011f l Z a0 hw b116 k116 x1 x5 ((x0 >>> ((4 : Int32) &&& 31))) a_DM a_CM h125 O126 FF V128 hc129) e137 rfl (by rw [hml]; rfl) pd_3 rfl (hb hby at_239) (Nat.le_of_ble_eq_true rfl) (Nat.le_of_ble_eq_true rfl) (Nat.le_of_ble_eq_true rfl) (Nat.le_of_ble_eq_true rfl) ?_
          rintro vv138 T138 L138 X138 Q138
          obtain ⟨b138, rfl, N138, K138, sz138, E138, Fs138, Fc138⟩ := Q138
          have M139 := Fr.app N127 N138
          have q138 : Z.heap.size ≤ b138 := Nat.le_trans O126.2.1 sz138
          have ne_b116_b138 : b116 ≠ b138 := Nat.ne_of_lt (Nat.lt_of_lt_of_le V128.lt sz138)
          have ne_b118_b138 : b118 ≠ b138 := Nat.ne_of_lt (Nat.lt_of_lt_of_le V125.lt sz138)
          have O140 := O126.keep K138 (all0)
          have V141 := V128.keep K138 (nin0)
          have V142 := V125.keep K138 (nin0)
          refine Go.astore X138 hx (hb hby at_242) rfl rfl #[.val (.int x0), .val (.int x1), .val (.int x2), .val (.int x3), .val (.int x4), .val (.long x5), .second, .val (.int (0 : Int32)), .val (.int (1 : Int32)), .val (.int (1 : Int32)), .val (.int ((x0 >>> ((4 : Int32) &&& 31)))), .val (.ref a_DM), .val (.ref b116), .val (.ref b118), .val (.long (0 : Int64)), .second, .val (.long ((0 : Int64) + (((x1).toInt64) * ((x1).toInt64)))), .second, .val (.long x5), .second, .val (.long (((0 : Int64) + (((x1).toInt64) * ((x1).toInt64))) + ((0 : Int64) * x5))), .second, .val (.ref b138)] rfl ?_
          refine Go.aload X138 hx (hb hby at_244) rfl rfl rfl ?_
          refine Go.pureV X138 hx hZ hown (wd 33 rfl) (wd 34 rfl) (notFace_of_selects (args := #[]) (mvT hZ (wd 36 rfl))) (wd 36 rfl) (wd 35 rfl) (wd 11 rfl) (wd 37 rfl) (by decide) [] [] E138 (rmS l Z a0 hw b138 (0 : Int64) T138.heap Fs138) rfl rfl (by rw [hml]; rfl) pd_4 rfl (hb hby at_246) (Nat.le_of_ble_eq_true rfl) (Nat.le_of_ble_eq_true rfl) (Nat.le_of_ble_eq_true rfl) (Nat.le_of_ble_eq_true rfl) ?_
          intro T143 X143 e143
          refine Go.lload X143 hx (hb hby at_249) rfl rfl  ?_
          refine Go.lcmp X143 hx (hb hby at_251) rfl ?_
          refine Go.ifNo X143 hx (hb hby at_252) rfl ((if0 _ _).trans (teq ((lw_eq (0 : Int64) (0 : Int64)).mpr (by decide : (0 : Int64) = (0 : Int64)))).2) ?_
          refine Go.aload X143 hx (hb hby at_255) rfl rfl rfl ?_
          refine Go.pureV X143 hx hZ hown (wd 38 rfl) (wd 39 rfl) (notFace_of_selects (args := #[]) (mvT hZ (wd 41 rfl))) (wd 41 rfl) (wd 40 rfl) (wd 11 rfl) (wd 42 rfl) (by decide) [] [] E138 (rmC l Z a0 hw b138 (((0 : Int64) + (((x1).toInt64) * ((x1).toInt64))) + ((0 : Int64) * x5)) T138.heap Fc138) e143 rfl (by rw [hml]; rfl) pd_4 rfl (hb hby at_257) (Nat.le_of_ble_eq_true rfl) (Nat.le_of_ble_eq_true rfl) (Nat.le_of_ble_eq_true rfl) (Nat.le_of_ble_eq_true rfl) ?_
          intro T144 X144 e144
          refine Go.lload X144 hx (hb hby at_260) rfl rfl  ?_
          refine Go.lcmp X144 hx (hb hby at_262) rfl ?_
          refine Go.ifNo X144 hx (hb hby at_263) rfl ((if0 _ _).trans (teq ((lw_eq (((0 : Int64) + (((x1).toInt64) * ((x1).toInt64))) + ((0 : Int64) * x5)) (((0 : Int64) + (((x1).toInt64) * ((x1).toInt64))) + ((0 : Int64) * x5))).mpr (rfl : (((0 : Int64) + (((x1).toInt64) * ((x1).toInt64))) + ((0 : Int64) * x5)) = (((0 : Int64) + (((x1).toInt64) * ((x1).toInt64))) + ((0 : Int64) * x5))))).2) ?_
          refine Go.iconst X144 hx (hb hby at_266) rfl (1 : Int32) rfl ?_
          refine Go.goto X144 hx (hb hby at_267) rfl 271 (by decide) (by decide) ?_
          exact Go.retZ X144 hx (z' := (1 : Int32)) hret hlk (hb hby at_271) rfl (by decide) ⟨by first | rfl | simp [hc1, hc2, hc129], M139⟩ (Nat.le_of_ble_eq_true rfl) (Nat.le_of_ble_eq_true rfl)
      · show Go p e below _ s₁ (mkF m 38 #[.val (.int x0), .val (.int x1), .val (.int x2), .val (.int x3), .val (.int x4), .val (.long x5), .second, .val (.int (0 : Int32)), .val (.int (1 : Int32)), .unset, .unset, .unset, .unset, .unset, .unset, .unset, .unset, .unset, .unset, .unset, .unset, .unset, .unset] [(.int (((((x0).toUInt32 >>> ((2 : Int32) &&& 31).toUInt32).toInt32) &&& (3 : Int32)) % (3 : Int32)))])
        rw [hk]
        refine Go.istore X0 hx (hb hby at_38) rfl  #[.val (.int x0), .val (.int x1), .val (.int x2), .val (.int x3), .val (.int x4), .val (.long x5), .second, .val (.int (0 : Int32)), .val (.int (1 : Int32)), .val (.int (2 : Int32)), .unset, .unset, .unset, .unset, .unset, .unset, .unset, .unset, .unset, .unset, .unset, .unset, .unset] rfl ?_
        refine Go.iloadN X0 hx (hb hby at_40) rfl rfl  ?_
        refine Go.iconst X0 hx (hb hby at_41) rfl (4 : Int32) rfl ?_
        refine Go.ishr X0 hx (hb hby at_42) rfl ?_
        refine Go.istore X0 hx (hb hby at_43) rfl  #[.val (.int x0), .val (.int x1), .val (.int x2), .val (.int x3), .val (.int x4), .val (.long x5), .second, .val (.int (0 : Int32)), .val (.int (1 : Int32)), .val (.int (2 : Int32)), .val (.int ((x0 >>> ((4 : Int32) &&& 31)))), .unset, .unset, .unset, .unset, .unset, .unset, .unset, .unset, .unset, .unset, .unset, .unset] rfl ?_
        refine Go.iload X0 hx (hb hby at_45) rfl rfl  ?_
        refine Go.ifYes X0 hx (hb hby at_47) rfl 56 ((if0 _ _).trans (teq (by decide : (0 : Int32) = (0 : Int32))).1) (by decide) (by decide) ?_
        refine Go.getS X0 hx hZ hown (host := "") (Or.inl (wd 0 rfl)) Via.refl e0 (S_DM.ext O0.2) (hb hby at_56) rfl ?_
        intro T145 X145 e145
        refine Go.astore X145 hx (hb hby at_59) rfl rfl #[.val (.int x0), .val (.int x1), .val (.int x2), .val (.int x3), .val (.int x4), .val (.long x5), .second, .val (.int (0 : Int32)), .val (.int (1 : Int32)), .val (.int (2 : Int32)), .val (.int ((x0 >>> ((4 : Int32) &&& 31)))), .val (.ref a_DM), .unset, .unset, .unset, .unset, .unset, .unset, .unset, .unset, .unset, .unset, .unset] rfl ?_
        refine Go.iload X145 hx (hb hby at_61) rfl rfl  ?_
        refine Go.newP X145 hx hZ (wd 3 rfl) e145 2 (by decide) 2 (by decide) (by decide) (Nat.le_of_ble_eq_true rfl) (Nat.le_of_ble_eq_true rfl) "[I" (by decide) (hb hby at_63) rfl ?_
        intro T146 h146 b146 k146 g146 X146 e146 E146 V146' A146
        have V146 : Arv Z h146 b146 k146 .int (2 : Int32) [(.int (0 : Int32)), (.int (0 : Int32))] (.int (0 : Int32)) := V146'
        have q146 : Z.heap.size ≤ b146 := Nat.le_trans O0.2.1 (Nat.le_of_eq g146.symm)
        have O147 := O0.ext E146
        refine Go.astore X146 hx (hb hby at_65) rfl rfl #[.val (.int x0), .val (.int x1), .val (.int x2), .val (.int x3), .val (.int x4), .val (.long x5), .second, .val (.int (0 : Int32)), .val (.int (1 : Int32)), .val (.int (2 : Int32)), .val (.int ((x0 >>> ((4 : Int32) &&& 31)))), .val (.ref a_DM), .val (.ref b146), .unset, .unset, .unset, .unset, .unset, .unset, .unset, .unset, .unset, .unset] rfl ?_
        refine Go.iload X146 hx (hb hby at_67) rfl rfl  ?_
        refine Go.newP X146 hx hZ (wd 3 rfl) e146 2 (by decide) 2 (by decide) (by decide) (Nat.le_of_ble_eq_true rfl) (Nat.le_of_ble_eq_true rfl) "[I" (by decide) (hb hby at_69) rfl ?_
        intro T148 h148 b148 k148 g148 X148 e148 E148 V148' A148
        have V148 : Arv Z h148 b148 k148 .int (2 : Int32) [(.int (0 : Int32)), (.int (0 : Int32))] (.int (0 : Int32)) := V148'
        have q148 : Z.heap.size ≤ b148 := Nat.le_trans O147.2.1 (Nat.le_of_eq g148.symm)
        have ne_b146_b148 : b146 ≠ b148 := Nat.ne_of_lt (Nat.lt_of_lt_of_le V146.lt (Nat.le_of_eq g148.symm))
        have O149 := O147.ext E148
        have V150 := V146.ext E148
        refine Go.astore X148 hx (hb hby at_71) rfl rfl #[.val (.int x0), .val (.int x1), .val (.int x2), .val (.int x3), .val (.int x4), .val (.long x5), .second, .val (.int (0 : Int32)), .val (.int (1 : Int32)), .val (.int (2 : Int32)), .val (.int ((x0 >>> ((4 : Int32) &&& 31)))), .val (.ref a_DM), .val (.ref b146), .val (.ref b148), .unset, .unset, .unset, .unset, .unset, .unset, .unset, .unset, .unset] rfl ?_
        refine Go.iload X148 hx (hb hby at_73) rfl rfl  ?_
        refine Go.ifNo X148 hx (hb hby at_75) rfl ((if0 _ _).trans (tlt (by decide : (0 : Int32) < (2 : Int32))).2.2.2) ?_
        refine Go.aload X148 hx (hb hby at_78) rfl rfl rfl ?_
        refine Go.iconst X148 hx (hb hby at_80) rfl (0 : Int32) rfl ?_
        refine Go.iloadN X148 hx (hb hby at_81) rfl rfl  ?_
        refine Go.iastore X148 hx hZ V150 e148 ⟨by decide, by decide⟩ 0 (by decide) (Nat.le_of_ble_eq_true rfl)  (hb hby at_82) rfl ?_
        intro T151 h151 X151 e151 W151 V151'
        have V151 : Arv Z h151 b146 k146 .int (2 : Int32) [(.int x1), (.int (0 : Int32))] (.int (0 : Int32)) := V151'
        have O152 := O149.wr W151 q146
        have N153 := Fr.snoc X151 (Fr.nil _) q146
        have V154 := V148.other W151 (Ne.symm ne_b146_b148)
        refine Go.aload X151 hx (hb hby at_83) rfl rfl rfl ?_
        refine Go.iconst X151 hx (hb hby at_85) rfl (0 : Int32) rfl ?_
        refine Go.iloadN X151 hx (hb hby at_86) rfl rfl  ?_
        refine Go.iastore X151 hx hZ V154 e151 ⟨by decide, by decide⟩ 0 (by decide) (Nat.le_of_ble_eq_true rfl)  (hb hby at_87) rfl ?_
        intro T155 h155 X155 e155 W155 V155'
        have V155 : Arv Z h155 b148 k148 .int (2 : Int32) [(.int x3), (.int (0 : Int32))] (.int (0 : Int32)) := V155'
        have O156 := O152.wr W155 q148
        have N157 := Fr.snoc X155 N153 q148
        have V158 := V151.other W155 ne_b146_b148
        refine Go.iload X155 hx (hb hby at_88) rfl rfl  ?_
        refine Go.iconst X155 hx (hb hby at_90) rfl (1 : Int32) rfl ?_
        refine Go.icmpNo X155 hx (hb hby at_91) rfl (tlt (by decide : (1 : Int32) < (2 : Int32))).2.2.2 ?_
        refine Go.aload X155 hx (hb hby at_94) rfl rfl rfl ?_
        refine Go.iconst X155 hx (hb hby at_96) rfl (1 : Int32) rfl ?_
        refine Go.iloadN X155 hx (hb hby at_97) rfl rfl  ?_
        refine Go.iastore X155 hx hZ V158 e155 ⟨by decide, by decide⟩ 1 (by decide) (Nat.le_of_ble_eq_true rfl)  (hb hby at_98) rfl ?_
        intro T159 h159 X159 e159 W159 V159'
        have V159 : Arv Z h159 b146 k146 .int (2 : Int32) [(.int x1), (.int x2)] (.int (0 : Int32)) := V159'
        have O160 := O156.wr W159 q146
        have N161 := Fr.snoc X159 N157 q146
        have V162 := V155.other W159 (Ne.symm ne_b146_b148)
        refine Go.aload X159 hx (hb hby at_99) rfl rfl rfl ?_
        refine Go.iconst X159 hx (hb hby at_101) rfl (1 : Int32) rfl ?_
        refine Go.iload X159 hx (hb hby at_102) rfl rfl  ?_
        refine Go.iastore X159 hx hZ V162 e159 ⟨by decide, by decide⟩ 1 (by decide) (Nat.le_of_ble_eq_true rfl)  (hb hby at_104) rfl ?_
        intro T163 h163 X163 e163 W163 V163'
        have V163 : Arv Z h163 b148 k148 .int (2 : Int32) [(.int x3), (.int x4)] (.int (0 : Int32)) := V163'
        have O164 := O160.wr W163 q148
        have N165 := Fr.snoc X163 N161 q148
        have V166 := V159.other W163 ne_b146_b148
        refine Go.lconst X163 hx (hb hby at_105) rfl (0 : Int64) rfl ?_
        refine Go.lstore X163 hx (hb hby at_106) rfl  #[.val (.int x0), .val (.int x1), .val (.int x2), .val (.int x3), .val (.int x4), .val (.long x5), .second, .val (.int (0 : Int32)), .val (.int (1 : Int32)), .val (.int (2 : Int32)), .val (.int ((x0 >>> ((4 : Int32) &&& 31)))), .val (.ref a_DM), .val (.ref b146), .val (.ref b148), .val (.long (0 : Int64)), .second, .unset, .unset, .unset, .unset, .unset, .unset, .unset] rfl ?_
        refine Go.lconst X163 hx (hb hby at_108) rfl (0 : Int64) rfl ?_
        refine Go.lstore X163 hx (hb hby at_109) rfl  #[.val (.int x0), .val (.int x1), .val (.int x2), .val (.int x3), .val (.int x4), .val (.long x5), .second, .val (.int (0 : Int32)), .val (.int (1 : Int32)), .val (.int (2 : Int32)), .val (.int ((x0 >>> ((4 : Int32) &&& 31)))), .val (.ref a_DM), .val (.ref b146), .val (.ref b148), .val (.long (0 : Int64)), .second, .val (.long (0 : Int64)), .second, .unset, .unset, .unset, .unset, .unset] rfl ?_
        refine Go.iload X163 hx (hb hby at_111) rfl rfl  ?_
        refine Go.ifNo X163 hx (hb hby at_113) rfl ((if0 _ _).trans (tlt (by decide : (0 : Int32) < (2 : Int32))).2.2.2) ?_
        refine Go.iloadN X163 hx (hb hby at_116) rfl rfl  ?_
        refine Go.iload X163 hx (hb hby at_117) rfl rfl  ?_
        by_cases hc167 : x1 < ((x0 >>> ((4 : Int32) &&& 31)))
        · refine Go.icmpNo X163 hx (hb hby at_119) rfl (tlt hc167).2.1 ?_
          refine Go.lload X163 hx (hb hby at_122) rfl rfl  ?_
          refine Go.iloadN X163 hx (hb hby at_124) rfl rfl  ?_
          refine Go.i2l X163 hx (hb hby at_125) rfl ?_
          refine Go.ladd X163 hx (hb hby at_126) rfl ?_
          refine Go.lstore X163 hx (hb hby at_127) rfl  #[.val (.int x0), .val (.int x1), .val (.int x2), .val (.int x3), .val (.int x4), .val (.long x5), .second, .val (.int (0 : Int32)), .val (.int (1 : Int32)), .val (.int (2 : Int32)), .val (.int ((x0 >>> ((4 : Int32) &&& 31)))), .val (.ref a_DM), .val (.ref b146), .val (.ref b148), .val (.long ((0 : Int64) + ((x1).toInt64))), .second, .val (.long (0 : Int64)), .second, .unset, .unset, .unset, .unset, .unset] rfl ?_
          refine Go.goto X163 hx (hb hby at_129) rfl 153 (by decide) (by decide) ?_
          refine Go.iload X163 hx (hb hby at_153) rfl rfl  ?_
          refine Go.iconst X163 hx (hb hby at_155) rfl (1 : Int32) rfl ?_
          refine Go.icmpNo X163 hx (hb hby at_156) rfl (tlt (by decide : (1 : Int32) < (2 : Int32))).2.2.2 ?_
          refine Go.iloadN X163 hx (hb hby at_159) rfl rfl  ?_
          refine Go.iload X163 hx (hb hby at_160) rfl rfl  ?_
          by_cases hc168 : x2 < ((x0 >>> ((4 : Int32) &&& 31)))
          · refine Go.icmpNo X163 hx (hb hby at_162) rfl (tlt hc168).2.1 ?_
            refine Go.lload X163 hx (hb hby at_165) rfl rfl  ?_
            refine Go.iloadN X163 hx (hb hby at_167) rfl rfl  ?_
            refine Go.i2l X163 hx (hb hby at_168) rfl ?_
            refine Go.ladd X163 hx (hb hby at_169) rfl ?_
            refine Go.lstore X163 hx (hb hby at_170) rfl  #[.val (.int x0), .val (.int x1), .val (.int x2), .val (.int x3), .val (.int x4), .val (.long x5), .second, .val (.int (0 : Int32)), .val (.int (1 : Int32)), .val (.int (2 : Int32)), .val (.int ((x0 >>> ((4 : Int32) &&& 31)))), .val (.ref a_DM), .val (.ref b146), .val (.ref b148), .val (.long (((0 : Int64) + ((x1).toInt64)) + ((x2).toInt64))), .second, .val (.long (0 : Int64)), .second, .unset, .unset, .unset, .unset, .unset] rfl ?_
            refine Go.goto X163 hx (hb hby at_172) rfl 197 (by decide) (by decide) ?_
            refine Go.iload X163 hx (hb hby at_197) rfl rfl  ?_
            refine Go.ifYes X163 hx (hb hby at_199) rfl 206 ((if0 _ _).trans (teq (by decide : (0 : Int32) = (0 : Int32))).1) (by decide) (by decide) ?_
            refine Go.lload X163 hx (hb hby at_206) rfl rfl  ?_
            refine Go.lstore X163 hx (hb hby at_208) rfl  #[.val (.int x0), .val (.int x1), .val (.int x2), .val (.int x3), .val (.int x4), .val (.long x5), .second, .val (.int (0 : Int32)), .val (.int (1 : Int32)), .val (.int (2 : Int32)), .val (.int ((x0 >>> ((4 : Int32) &&& 31)))), .val (.ref a_DM), .val (.ref b146), .val (.ref b148), .val (.long (((0 : Int64) + ((x1).toInt64)) + ((x2).toInt64))), .second, .val (.long (0 : Int64)), .second, .val (.long x5), .second, .unset, .unset, .unset] rfl ?_
            refine Go.lload X163 hx (hb hby at_210) rfl rfl  ?_
            refine Go.lload X163 hx (hb hby at_212) rfl rfl  ?_
            refine Go.lload X163 hx (hb hby at_214) rfl rfl  ?_
            refine Go.lmul X163 hx (hb hby at_216) rfl ?_
            refine Go.ladd X163 hx (hb hby at_217) rfl ?_
            refine Go.lstore X163 hx (hb hby at_218) rfl  #[.val (.int x0), .val (.int x1), .val (.int x2), .val (.int x3), .val (.int x4), .val (.long x5), .second, .val (.int (0 : Int32)), .val (.int (1 : Int32)), .val (.int (2 : Int32)), .val (.int ((x0 >>> ((4 : Int32) &&& 31)))), .val (.ref a_DM), .val (.ref b146), .val (.ref b148), .val (.long (((0 : Int64) + ((x1).toInt64)) + ((x2).toInt64))), .second, .val (.long (0 : Int64)), .second, .val (.long x5), .second, .val (.long ((0 : Int64) + ((((0 : Int64) + ((x1).toInt64)) + ((x2).toInt64)) * x5))), .second, .unset] rfl ?_
            refine Go.aload X163 hx (hb hby at_220) rfl rfl rfl ?_
            refine Go.aload X163 hx (hb hby at_222) rfl rfl rfl ?_
            refine Go.iload X163 hx (hb hby at_224) rfl rfl  ?_
            refine Go.ifNo X163 hx (hb hby at_226) rfl ((if0 _ _).trans (feq (by decide : ¬ ((1 : Int32) = (0 : Int32)))).1) ?_
            refine Go.aconstNull X163 hx (hb hby at_229) rfl ?_
            refine Go.goto X163 hx (hb hby at_230) rfl 235 (by decide) (by decide) ?_
            refine Go.lload X163 hx (hb hby at_235) rfl rfl  ?_
            refine Go.iload X163 hx (hb hby at_237) rfl rfl  ?_
            refine Go.callV X163 hx hZ hown (wd 4 rfl) (wd 5 rfl) (notFace_of_selects (args := #[]) (mvT hZ (wd 7 rfl))) (wd 7 rfl) (wd 6 rfl) (wd 1 rfl) (wd 8 rfl) (by decide) [(.ref b146), .null, (.long x5), (.int ((x0 >>> ((4 : Int32) &&& 31))))] [] (E_DM.ext O164.2) (rmEv012tt l Z a0 hw b146 k146 x1 x2 x5 ((x0 >>> ((4 : Int32) &&& 31))) a_DM a_CM h163 O164 FF V166 hc167 hc168) e163 rfl (by rw [hml]; rfl) pd_3 rfl (hb hby at_239) (Nat.le_of_ble_eq_true rfl) (Nat.le_of_ble_eq_true rfl) (Nat.le_of_ble_eq_true rfl) (Nat.le_of_ble_eq_true rfl) ?_
            rintro vv169 T169 L169 X169 Q169
            obtain ⟨b169, rfl, N169, K169, sz169, E169, Fs169, Fc169⟩ := Q169
            have M170 := Fr.app N165 N169
            have q169 : Z.heap.size ≤ b169 := Nat.le_trans O164.2.1 sz169
            have ne_b146_b169 : b146 ≠ b169 := Nat.ne_of_lt (Nat.lt_of_lt_of_le V166.lt sz169)
            have ne_b148_b169 : b148 ≠ b169 := Nat.ne_of_lt (Nat.lt_of_lt_of_le V163.lt sz169)
            have O171 := O164.keep K169 (all0)
            have V172 := V166.keep K169 (nin0)
            have V173 := V163.keep K169 (nin0)
            refine Go.astore X169 hx (hb hby at_242) rfl rfl #[.val (.int x0), .val (.int x1), .val (.int x2), .val (.int x3), .val (.int x4), .val (.long x5), .second, .val (.int (0 : Int32)), .val (.int (1 : Int32)), .val (.int (2 : Int32)), .val (.int ((x0 >>> ((4 : Int32) &&& 31)))), .val (.ref a_DM), .val (.ref b146), .val (.ref b148), .val (.long (((0 : Int64) + ((x1).toInt64)) + ((x2).toInt64))), .second, .val (.long (0 : Int64)), .second, .val (.long x5), .second, .val (.long ((0 : Int64) + ((((0 : Int64) + ((x1).toInt64)) + ((x2).toInt64)) * x5))), .second, .val (.ref b169)] rfl ?_
            refine Go.aload X169 hx (hb hby at_244) rfl rfl rfl ?_
            refine Go.pureV X169 hx hZ hown (wd 33 rfl) (wd 34 rfl) (notFace_of_selects (args := #[]) (mvT hZ (wd 36 rfl))) (wd 36 rfl) (wd 35 rfl) (wd 11 rfl) (wd 37 rfl) (by decide) [] [] E169 (rmS l Z a0 hw b169 (((0 : Int64) + ((x1).toInt64)) + ((x2).toInt64)) T169.heap Fs169) rfl rfl (by rw [hml]; rfl) pd_4 rfl (hb hby at_246) (Nat.le_of_ble_eq_true rfl) (Nat.le_of_ble_eq_true rfl) (Nat.le_of_ble_eq_true rfl) (Nat.le_of_ble_eq_true rfl) ?_
            intro T174 X174 e174
            refine Go.lload X174 hx (hb hby at_249) rfl rfl  ?_
            refine Go.lcmp X174 hx (hb hby at_251) rfl ?_
            refine Go.ifNo X174 hx (hb hby at_252) rfl ((if0 _ _).trans (teq ((lw_eq (((0 : Int64) + ((x1).toInt64)) + ((x2).toInt64)) (((0 : Int64) + ((x1).toInt64)) + ((x2).toInt64))).mpr (rfl : (((0 : Int64) + ((x1).toInt64)) + ((x2).toInt64)) = (((0 : Int64) + ((x1).toInt64)) + ((x2).toInt64))))).2) ?_
            refine Go.aload X174 hx (hb hby at_255) rfl rfl rfl ?_
            refine Go.pureV X174 hx hZ hown (wd 38 rfl) (wd 39 rfl) (notFace_of_selects (args := #[]) (mvT hZ (wd 41 rfl))) (wd 41 rfl) (wd 40 rfl) (wd 11 rfl) (wd 42 rfl) (by decide) [] [] E169 (rmC l Z a0 hw b169 ((0 : Int64) + ((((0 : Int64) + ((x1).toInt64)) + ((x2).toInt64)) * x5)) T169.heap Fc169) e174 rfl (by rw [hml]; rfl) pd_4 rfl (hb hby at_257) (Nat.le_of_ble_eq_true rfl) (Nat.le_of_ble_eq_true rfl) (Nat.le_of_ble_eq_true rfl) (Nat.le_of_ble_eq_true rfl) ?_
            intro T175 X175 e175
            refine Go.lload X175 hx (hb hby at_260) rfl rfl  ?_
            refine Go.lcmp X175 hx (hb hby at_262) rfl ?_
            refine Go.ifNo X175 hx (hb hby at_263) rfl ((if0 _ _).trans (teq ((lw_eq ((0 : Int64) + ((((0 : Int64) + ((x1).toInt64)) + ((x2).toInt64)) * x5)) ((0 : Int64) + ((((0 : Int64) + ((x1).toInt64)) + ((x2).toInt64)) * x5))).mpr (rfl : ((0 : Int64) + ((((0 : Int64) + ((x1).toInt64)) + ((x2).toInt64)) * x5)) = ((0 : Int64) + ((((0 : Int64) + ((x1).toInt64)) + ((x2).toInt64)) * x5))))).2) ?_
            refine Go.iconst X175 hx (hb hby at_266) rfl (1 : Int32) rfl ?_
            refine Go.goto X175 hx (hb hby at_267) rfl 271 (by decide) (by decide) ?_
            exact Go.retZ X175 hx (z' := (1 : Int32)) hret hlk (hb hby at_271) rfl (by decide) ⟨by first | rfl | simp [hc1, hc2, hc167, hc168], M170⟩ (Nat.le_of_ble_eq_true rfl) (Nat.le_of_ble_eq_true rfl)
          · refine Go.icmpYes X163 hx (hb hby at_162) rfl 175 (flt hc168).2.1 (by decide) (by decide) ?_
            refine Go.lload X163 hx (hb hby at_175) rfl rfl  ?_
            refine Go.iload X163 hx (hb hby at_177) rfl rfl  ?_
            refine Go.iloadN X163 hx (hb hby at_179) rfl rfl  ?_
            refine Go.iload X163 hx (hb hby at_180) rfl rfl  ?_
            refine Go.ifNo X163 hx (hb hby at_182) rfl ((if0 _ _).trans (feq (by decide : ¬ ((1 : Int32) = (0 : Int32)))).1) ?_
            refine Go.iconst X163 hx (hb hby at_185) rfl (0 : Int32) rfl ?_
            refine Go.goto X163 hx (hb hby at_186) rfl 191 (by decide) (by decide) ?_
            refine Go.pureS X163 hx hZ hown (wd 43 rfl) (wd 44 rfl) (wd 45 rfl) (wd 46 rfl) (by decide) [(.int (0 : Int32)), (.int x2), (.int (0 : Int32))] [(.long (0 : Int64))] (rmP0 l Z a0 hw x2 (0 : Int32) h163) e163 rfl (by rw [hml]; rfl) pd_5 rfl (hb hby at_191) (Nat.le_of_ble_eq_true rfl) (Nat.le_of_ble_eq_true rfl) (Nat.le_of_ble_eq_true rfl) (Nat.le_of_ble_eq_true rfl) ?_
            intro T176 X176 e176
            refine Go.ladd X176 hx (hb hby at_194) rfl ?_
            refine Go.lstore X176 hx (hb hby at_195) rfl  #[.val (.int x0), .val (.int x1), .val (.int x2), .val (.int x3), .val (.int x4), .val (.long x5), .second, .val (.int (0 : Int32)), .val (.int (1 : Int32)), .val (.int (2 : Int32)), .val (.int ((x0 >>> ((4 : Int32) &&& 31)))), .val (.ref a_DM), .val (.ref b146), .val (.ref b148), .val (.long ((0 : Int64) + ((x1).toInt64))), .second, .val (.long ((0 : Int64) + (((x2).toInt64) * ((x2).toInt64)))), .second, .unset, .unset, .unset, .unset, .unset] rfl ?_
            refine Go.iload X176 hx (hb hby at_197) rfl rfl  ?_
            refine Go.ifYes X176 hx (hb hby at_199) rfl 206 ((if0 _ _).trans (teq (by decide : (0 : Int32) = (0 : Int32))).1) (by decide) (by decide) ?_
            refine Go.lload X176 hx (hb hby at_206) rfl rfl  ?_
            refine Go.lstore X176 hx (hb hby at_208) rfl  #[.val (.int x0), .val (.int x1), .val (.int x2), .val (.int x3), .val (.int x4), .val (.long x5), .second, .val (.int (0 : Int32)), .val (.int (1 : Int32)), .val (.int (2 : Int32)), .val (.int ((x0 >>> ((4 : Int32) &&& 31)))), .val (.ref a_DM), .val (.ref b146), .val (.ref b148), .val (.long ((0 : Int64) + ((x1).toInt64))), .second, .val (.long ((0 : Int64) + (((x2).toInt64) * ((x2).toInt64)))), .second, .val (.long x5), .second, .unset, .unset, .unset] rfl ?_
            refine Go.lload X176 hx (hb hby at_210) rfl rfl  ?_
            refine Go.lload X176 hx (hb hby at_212) rfl rfl  ?_
            refine Go.lload X176 hx (hb hby at_214) rfl rfl  ?_
            refine Go.lmul X176 hx (hb hby at_216) rfl ?_
            refine Go.ladd X176 hx (hb hby at_217) rfl ?_
            refine Go.lstore X176 hx (hb hby at_218) rfl  #[.val (.int x0), .val (.int x1), .val (.int x2), .val (.int x3), .val (.int x4), .val (.long x5), .second, .val (.int (0 : Int32)), .val (.int (1 : Int32)), .val (.int (2 : Int32)), .val (.int ((x0 >>> ((4 : Int32) &&& 31)))), .val (.ref a_DM), .val (.ref b146), .val (.ref b148), .val (.long ((0 : Int64) + ((x1).toInt64))), .second, .val (.long ((0 : Int64) + (((x2).toInt64) * ((x2).toInt64)))), .second, .val (.long x5), .second, .val (.long (((0 : Int64) + (((x2).toInt64) * ((x2).toInt64))) + (((0 : Int64) + ((x1).toInt64)) * x5))), .second, .unset] rfl ?_
            refine Go.aload X176 hx (hb hby at_220) rfl rfl rfl ?_
            refine Go.aload X176 hx (hb hby at_222) rfl rfl rfl ?_
            refine Go.iload X176 hx (hb hby at_224) rfl rfl  ?_
            refine Go.ifNo X176 hx (hb hby at_226) rfl ((if0 _ _).trans (feq (by decide : ¬ ((1 : Int32) = (0 : Int32)))).1) ?_
            refine Go.aconstNull X176 hx (hb hby at_229) rfl ?_
            refine Go.goto X176 hx (hb hby at_230) rfl 235 (by decide) (by decide) ?_
            refine Go.lload X176 hx (hb hby at_235) rfl rfl  ?_
            refine Go.iload X176 hx (hb hby at_237) rfl rfl  ?_
            refine Go.callV X176 hx hZ hown (wd 4 rfl) (wd 5 rfl) (notFace_of_selects (args := #[]) (mvT hZ (wd 7 rfl))) (wd 7 rfl) (wd 6 rfl) (wd 1 rfl) (wd 8 rfl) (by decide) [(.ref b146), .null, (.long x5), (.int ((x0 >>> ((4 : Int32) &&& 31))))] [] (E_DM.ext O164.2) (rmEv012tf l Z a0 hw b146 k146 x1 x2 x5 ((x0 >>> ((4 : Int32) &&& 31))) a_DM a_CM h163 O164 FF V166 hc167 hc168) e176 rfl (by rw [hml]; rfl) pd_3 rfl (hb hby at_239) (Nat.le_of_ble_eq_true rfl) (Nat.le_of_ble_eq_true rfl) (Nat.le_of_ble_eq_true rfl) (Nat.le_of_ble_eq_true rfl) ?_
            rintro vv177 T177 L177 X177 Q177
            obtain ⟨b177, rfl, N177, K177, sz177, E177, Fs177, Fc177⟩ := Q177
            have M178 := Fr.app N165 N177
            have q177 : Z.heap.size ≤ b177 := Nat.le_trans O164.2.1 sz177
            have ne_b146_b177 : b146 ≠ b177 := Nat.ne_of_lt (Nat.lt_of_lt_of_le V166.lt sz177)
            have ne_b148_b177 : b148 ≠ b177 := Nat.ne_of_lt (Nat.lt_of_lt_of_le V163.lt sz177)
            have O179 := O164.keep K177 (all0)
            have V180 := V166.keep K177 (nin0)
            have V181 := V163.keep K177 (nin0)
            refine Go.astore X177 hx (hb hby at_242) rfl rfl #[.val (.int x0), .val (.int x1), .val (.int x2), .val (.int x3), .val (.int x4), .val (.long x5), .second, .val (.int (0 : Int32)), .val (.int (1 : Int32)), .val (.int (2 : Int32)), .val (.int ((x0 >>> ((4 : Int32) &&& 31)))), .val (.ref a_DM), .val (.ref b146), .val (.ref b148), .val (.long ((0 : Int64) + ((x1).toInt64))), .second, .val (.long ((0 : Int64) + (((x2).toInt64) * ((x2).toInt64)))), .second, .val (.long x5), .second, .val (.long (((0 : Int64) + (((x2).toInt64) * ((x2).toInt64))) + (((0 : Int64) + ((x1).toInt64)) * x5))), .second, .val (.ref b177)] rfl ?_
            refine Go.aload X177 hx (hb hby at_244) rfl rfl rfl ?_
            refine Go.pureV X177 hx hZ hown (wd 33 rfl) (wd 34 rfl) (notFace_of_selects (args := #[]) (mvT hZ (wd 36 rfl))) (wd 36 rfl) (wd 35 rfl) (wd 11 rfl) (wd 37 rfl) (by decide) [] [] E177 (rmS l Z a0 hw b177 ((0 : Int64) + ((x1).toInt64)) T177.heap Fs177) rfl rfl (by rw [hml]; rfl) pd_4 rfl (hb hby at_246) (Nat.le_of_ble_eq_true rfl) (Nat.le_of_ble_eq_true rfl) (Nat.le_of_ble_eq_true rfl) (Nat.le_of_ble_eq_true rfl) ?_
            intro T182 X182 e182
            refine Go.lload X182 hx (hb hby at_249) rfl rfl  ?_
            refine Go.lcmp X182 hx (hb hby at_251) rfl ?_
            refine Go.ifNo X182 hx (hb hby at_252) rfl ((if0 _ _).trans (teq ((lw_eq ((0 : Int64) + ((x1).toInt64)) ((0 : Int64) + ((x1).toInt64))).mpr (rfl : ((0 : Int64) + ((x1).toInt64)) = ((0 : Int64) + ((x1).toInt64))))).2) ?_
            refine Go.aload X182 hx (hb hby at_255) rfl rfl rfl ?_
            refine Go.pureV X182 hx hZ hown (wd 38 rfl) (wd 39 rfl) (notFace_of_selects (args := #[]) (mvT hZ (wd 41 rfl))) (wd 41 rfl) (wd 40 rfl) (wd 11 rfl) (wd 42 rfl) (by decide) [] [] E177 (rmC l Z a0 hw b177 (((0 : Int64) + (((x2).toInt64) * ((x2).toInt64))) + (((0 : Int64) + ((x1).toInt64)) * x5)) T177.heap Fc177) e182 rfl (by rw [hml]; rfl) pd_4 rfl (hb hby at_257) (Nat.le_of_ble_eq_true rfl) (Nat.le_of_ble_eq_true rfl) (Nat.le_of_ble_eq_true rfl) (Nat.le_of_ble_eq_true rfl) ?_
            intro T183 X183 e183
            refine Go.lload X183 hx (hb hby at_260) rfl rfl  ?_
            refine Go.lcmp X183 hx (hb hby at_262) rfl ?_
            refine Go.ifNo X183 hx (hb hby at_263) rfl ((if0 _ _).trans (teq ((lw_eq (((0 : Int64) + (((x2).toInt64) * ((x2).toInt64))) + (((0 : Int64) + ((x1).toInt64)) * x5)) (((0 : Int64) + (((x2).toInt64) * ((x2).toInt64))) + (((0 : Int64) + ((x1).toInt64)) * x5))).mpr (rfl : (((0 : Int64) + (((x2).toInt64) * ((x2).toInt64))) + (((0 : Int64) + ((x1).toInt64)) * x5)) = (((0 : Int64) + (((x2).toInt64) * ((x2).toInt64))) + (((0 : Int64) + ((x1).toInt64)) * x5))))).2) ?_
            refine Go.iconst X183 hx (hb hby at_266) rfl (1 : Int32) rfl ?_
            refine Go.goto X183 hx (hb hby at_267) rfl 271 (by decide) (by decide) ?_
            exact Go.retZ X183 hx (z' := (1 : Int32)) hret hlk (hb hby at_271) rfl (by decide) ⟨by first | rfl | simp [hc1, hc2, hc167, hc168], M178⟩ (Nat.le_of_ble_eq_true rfl) (Nat.le_of_ble_eq_true rfl)
        · refine Go.icmpYes X163 hx (hb hby at_119) rfl 132 (flt hc167).2.1 (by decide) (by decide) ?_
          refine Go.lload X163 hx (hb hby at_132) rfl rfl  ?_
          refine Go.iload X163 hx (hb hby at_134) rfl rfl  ?_
          refine Go.iloadN X163 hx (hb hby at_136) rfl rfl  ?_
          refine Go.iload X163 hx (hb hby at_137) rfl rfl  ?_
          refine Go.ifNo X163 hx (hb hby at_139) rfl ((if0 _ _).trans (feq (by decide : ¬ ((1 : Int32) = (0 : Int32)))).1) ?_
          refine Go.iconst X163 hx (hb hby at_142) rfl (0 : Int32) rfl ?_
          refine Go.goto X163 hx (hb hby at_143) rfl 147 (by decide) (by decide) ?_
          refine Go.pureS X163 hx hZ hown (wd 43 rfl) (wd 44 rfl) (wd 45 rfl) (wd 46 rfl) (by decide) [(.int (0 : Int32)), (.int x1), (.int (0 : Int32))] [(.long (0 : Int64))] (rmP0 l Z a0 hw x1 (0 : Int32) h163) e163 rfl (by rw [hml]; rfl) pd_5 rfl (hb hby at_147) (Nat.le_of_ble_eq_true rfl) (Nat.le_of_ble_eq_true rfl) (Nat.le_of_ble_eq_true rfl) (Nat.le_of_ble_eq_true rfl) ?_
          intro T184 X184 e184
          refine Go.ladd X184 hx (hb hby at_150) rfl ?_
          refine Go.lstore X184 hx (hb hby at_151) rfl  #[.val (.int x0), .val (.int x1), .val (.int x2), .val (.int x3), .val (.int x4), .val (.long x5), .second, .val (.int (0 : Int32)), .val (.int (1 : Int32)), .val (.int (2 : Int32)), .val (.int ((x0 >>> ((4 : Int32) &&& 31)))), .val (.ref a_DM), .val (.ref b146), .val (.ref b148), .val (.long (0 : Int64)), .second, .val (.long ((0 : Int64) + (((x1).toInt64) * ((x1).toInt64)))), .second, .unset, .unset, .unset, .unset, .unset] rfl ?_
          refine Go.iload X184 hx (hb hby at_153) rfl rfl  ?_
          refine Go.iconst X184 hx (hb hby at_155) rfl (1 : Int32) rfl ?_
          refine Go.icmpNo X184 hx (hb hby at_156) rfl (tlt (by decide : (1 : Int32) < (2 : Int32))).2.2.2 ?_
          refine Go.iloadN X184 hx (hb hby at_159) rfl rfl  ?_
          refine Go.iload X184 hx (hb hby at_160) rfl rfl  ?_
          by_cases hc185 : x2 < ((x0 >>> ((4 : Int32) &&& 31)))
          · refine Go.icmpNo X184 hx (hb hby at_162) rfl (tlt hc185).2.1 ?_
            refine Go.lload X184 hx (hb hby at_165) rfl rfl  ?_
            refine Go.iloadN X184 hx (hb hby at_167) rfl rfl  ?_
            refine Go.i2l X184 hx (hb hby at_168) rfl ?_
            refine Go.ladd X184 hx (hb hby at_169) rfl ?_
            refine Go.lstore X184 hx (hb hby at_170) rfl  #[.val (.int x0), .val (.int x1), .val (.int x2), .val (.int x3), .val (.int x4), .val (.long x5), .second, .val (.int (0 : Int32)), .val (.int (1 : Int32)), .val (.int (2 : Int32)), .val (.int ((x0 >>> ((4 : Int32) &&& 31)))), .val (.ref a_DM), .val (.ref b146), .val (.ref b148), .val (.long ((0 : Int64) + ((x2).toInt64))), .second, .val (.long ((0 : Int64) + (((x1).toInt64) * ((x1).toInt64)))), .second, .unset, .unset, .unset, .unset, .unset] rfl ?_
            refine Go.goto X184 hx (hb hby at_172) rfl 197 (by decide) (by decide) ?_
            refine Go.iload X184 hx (hb hby at_197) rfl rfl  ?_
            refine Go.ifYes X184 hx (hb hby at_199) rfl 206 ((if0 _ _).trans (teq (by decide : (0 : Int32) = (0 : Int32))).1) (by decide) (by decide) ?_
            refine Go.lload X184 hx (hb hby at_206) rfl rfl  ?_
            refine Go.lstore X184 hx (hb hby at_208) rfl  #[.val (.int x0), .val (.int x1), .val (.int x2), .val (.int x3), .val (.int x4), .val (.long x5), .second, .val (.int (0 : Int32)), .val (.int (1 : Int32)), .val (.int (2 : Int32)), .val (.int ((x0 >>> ((4 : Int32) &&& 31)))), .val (.ref a_DM), .val (.ref b146), .val (.ref b148), .val (.long ((0 : Int64) + ((x2).toInt64))), .second, .val (.long ((0 : Int64) + (((x1).toInt64) * ((x1).toInt64)))), .second, .val (.long x5), .second, .unset, .unset, .unset] rfl ?_
            refine Go.lload X184 hx (hb hby at_210) rfl rfl  ?_
            refine Go.lload X184 hx (hb hby at_212) rfl rfl  ?_
            refine Go.lload X184 hx (hb hby at_214) rfl rfl  ?_
            refine Go.lmul X184 hx (hb hby at_216) rfl ?_
            refine Go.ladd X184 hx (hb hby at_217) rfl ?_
            refine Go.lstore X184 hx (hb hby at_218) rfl  #[.val (.int x0), .val (.int x1), .val (.int x2), .val (.int x3), .val (.int x4), .val (.long x5), .second, .val (.int (0 : Int32)), .val (.int (1 : Int32)), .val (.int (2 : Int32)), .val (.int ((x0 >>> ((4 : Int32) &&& 31)))), .val (.ref a_DM), .val (.ref b146), .val (.ref b148), .val (.long ((0 : Int64) + ((x2).toInt64))), .second, .val (.long ((0 : Int64) + (((x1).toInt64) * ((x1).toInt64)))), .second, .val (.long x5), .second, .val (.long (((0 : Int64) + (((x1).toInt64) * ((x1).toInt64))) + (((0 : Int64) + ((x2).toInt64)) * x5))), .second, .unset] rfl ?_
            refine Go.aload X184 hx (hb hby at_220) rfl rfl rfl ?_
            refine Go.aload X184 hx (hb hby at_222) rfl rfl rfl ?_
            refine Go.iload X184 hx (hb hby at_224) rfl rfl  ?_
            refine Go.ifNo X184 hx (hb hby at_226) rfl ((if0 _ _).trans (feq (by decide : ¬ ((1 : Int32) = (0 : Int32)))).1) ?_
            refine Go.aconstNull X184 hx (hb hby at_229) rfl ?_
            refine Go.goto X184 hx (hb hby at_230) rfl 235 (by decide) (by decide) ?_
            refine Go.lload X184 hx (hb hby at_235) rfl rfl  ?_
            refine Go.iload X184 hx (hb hby at_237) rfl rfl  ?_
            refine Go.callV X184 hx hZ hown (wd 4 rfl) (wd 5 rfl) (notFace_of_selects (args := #[]) (mvT hZ (wd 7 rfl))) (wd 7 rfl) (wd 6 rfl) (wd 1 rfl) (wd 8 rfl) (by decide) [(.ref b146), .null, (.long x5), (.int ((x0 >>> ((4 : Int32) &&& 31))))] [] (E_DM.ext O164.2) (rmEv012ft l Z a0 hw b146 k146 x1 x2 x5 ((x0 >>> ((4 : Int32) &&& 31))) a_DM a_CM h163 O164 FF V166 hc167 hc185) e184 rfl (by rw [hml]; rfl) pd_3 rfl (hb hby at_239) (Nat.le_of_ble_eq_true rfl) (Nat.le_of_ble_eq_true rfl) (Nat.le_of_ble_eq_true rfl) (Nat.le_of_ble_eq_true rfl) ?_
            rintro vv186 T186 L186 X186 Q186
            obtain ⟨b186, rfl, N186, K186, sz186, E186, Fs186, Fc186⟩ := Q186
            have M187 := Fr.app N165 N186
            have q186 : Z.heap.size ≤ b186 := Nat.le_trans O164.2.1 sz186
            have ne_b146_b186 : b146 ≠ b186 := Nat.ne_of_lt (Nat.lt_of_lt_of_le V166.lt sz186)
            have ne_b148_b186 : b148 ≠ b186 := Nat.ne_of_lt (Nat.lt_of_lt_of_le V163.lt sz186)
            have O188 := O164.keep K186 (all0)
            have V189 := V166.keep K186 (nin0)
            have V190 := V163.keep K186 (nin0)
            refine Go.astore X186 hx (hb hby at_242) rfl rfl #[.val (.int x0), .val (.int x1), .val (.int x2), .val (.int x3), .val (.int x4), .val (.long x5), .second, .val (.int (0 : Int32)), .val (.int (1 : Int32)), .val (.int (2 : Int32)), .val (.int ((x0 >>> ((4 : Int32) &&& 31)))), .val (.ref a_DM), .val (.ref b146), .val (.ref b148), .val (.long ((0 : Int64) + ((x2).toInt64))), .second, .val (.long ((0 : Int64) + (((x1).toInt64) * ((x1).toInt64)))), .second, .val (.long x5), .second, .val (.long (((0 : Int64) + (((x1).toInt64) * ((x1).toInt64))) + (((0 : Int64) + ((x2).toInt64)) * x5))), .second, .val (.ref b186)] rfl ?_
            refine Go.aload X186 hx (hb hby at_244) rfl rfl rfl ?_
            refine Go.pureV X186 hx hZ hown (wd 33 rfl) (wd 34 rfl) (notFace_of_selects (args := #[]) (mvT hZ (wd 36 rfl))) (wd 36 rfl) (wd 35 rfl) (wd 11 rfl) (wd 37 rfl) (by decide) [] [] E186 (rmS l Z a0 hw b186 ((0 : Int64) + ((x2).toInt64)) T186.heap Fs186) rfl rfl (by rw [hml]; rfl) pd_4 rfl (hb hby at_246) (Nat.le_of_ble_eq_true rfl) (Nat.le_of_ble_eq_true rfl) (Nat.le_of_ble_eq_true rfl) (Nat.le_of_ble_eq_true rfl) ?_
            intro T191 X191 e191
            refine Go.lload X191 hx (hb hby at_249) rfl rfl  ?_
            refine Go.lcmp X191 hx (hb hby at_251) rfl ?_
            refine Go.ifNo X191 hx (hb hby at_252) rfl ((if0 _ _).trans (teq ((lw_eq ((0 : Int64) + ((x2).toInt64)) ((0 : Int64) + ((x2).toInt64))).mpr (rfl : ((0 : Int64) + ((x2).toInt64)) = ((0 : Int64) + ((x2).toInt64))))).2) ?_
            refine Go.aload X191 hx (hb hby at_255) rfl rfl rfl ?_
            refine Go.pureV X191 hx hZ hown (wd 38 rfl) (wd 39 rfl) (notFace_of_selects (args := #[]) (mvT hZ (wd 41 rfl))) (wd 41 rfl) (wd 40 rfl) (wd 11 rfl) (wd 42 rfl) (by decide) [] [] E186 (rmC l Z a0 hw b186 (((0 : Int64) + (((x1).toInt64) * ((x1).toInt64))) + (((0 : Int64) + ((x2).toInt64)) * x5)) T186.heap Fc186) e191 rfl (by rw [hml]; rfl) pd_4 rfl (hb hby at_257) (Nat.le_of_ble_eq_true rfl) (Nat.le_of_ble_eq_true rfl) (Nat.le_of_ble_eq_true rfl) (Nat.le_of_ble_eq_true rfl) ?_
            intro T192 X192 e192
            refine Go.lload X192 hx (hb hby at_260) rfl rfl  ?_
            refine Go.lcmp X192 hx (hb hby at_262) rfl ?_
            refine Go.ifNo X192 hx (hb hby at_263) rfl ((if0 _ _).trans (teq ((lw_eq (((0 : Int64) + (((x1).toInt64) * ((x1).toInt64))) + (((0 : Int64) + ((x2).toInt64)) * x5)) (((0 : Int64) + (((x1).toInt64) * ((x1).toInt64))) + (((0 : Int64) + ((x2).toInt64)) * x5))).mpr (rfl : (((0 : Int64) + (((x1).toInt64) * ((x1).toInt64))) + (((0 : Int64) + ((x2).toInt64)) * x5)) = (((0 : Int64) + (((x1).toInt64) * ((x1).toInt64))) + (((0 : Int64) + ((x2).toInt64)) * x5))))).2) ?_
            refine Go.iconst X192 hx (hb hby at_266) rfl (1 : Int32) rfl ?_
            refine Go.goto X192 hx (hb hby at_267) rfl 271 (by decide) (by decide) ?_
            exact Go.retZ X192 hx (z' := (1 : Int32)) hret hlk (hb hby at_271) rfl (by decide) ⟨by first | rfl | simp [hc1, hc2, hc167, hc185], M187⟩ (Nat.le_of_ble_eq_true rfl) (Nat.le_of_ble_eq_true rfl)
          · refine Go.icmpYes X184 hx (hb hby at_162) rfl 175 (flt hc185).2.1 (by decide) (by decide) ?_
            refine Go.lload X184 hx (hb hby at_175) rfl rfl  ?_
            refine Go.iload X184 hx (hb hby at_177) rfl rfl  ?_
            refine Go.iloadN X184 hx (hb hby at_179) rfl rfl  ?_
            refine Go.iload X184 hx (hb hby at_180) rfl rfl  ?_
            refine Go.ifNo X184 hx (hb hby at_182) rfl ((if0 _ _).trans (feq (by decide : ¬ ((1 : Int32) = (0 : Int32)))).1) ?_
            refine Go.iconst X184 hx (hb hby at_185) rfl (0 : Int32) rfl ?_
            refine Go.goto X184 hx (hb hby at_186) rfl 191 (by decide) (by decide) ?_
            refine Go.pureS X184 hx hZ hown (wd 43 rfl) (wd 44 rfl) (wd 45 rfl) (wd 46 rfl) (by decide) [(.int (0 : Int32)), (.int x2), (.int (0 : Int32))] [(.long ((0 : Int64) + (((x1).toInt64) * ((x1).toInt64))))] (rmP0 l Z a0 hw x2 (0 : Int32) h163) e184 rfl (by rw [hml]; rfl) pd_5 rfl (hb hby at_191) (Nat.le_of_ble_eq_true rfl) (Nat.le_of_ble_eq_true rfl) (Nat.le_of_ble_eq_true rfl) (Nat.le_of_ble_eq_true rfl) ?_
            intro T193 X193 e193
            refine Go.ladd X193 hx (hb hby at_194) rfl ?_
            refine Go.lstore X193 hx (hb hby at_195) rfl  #[.val (.int x0), .val (.int x1), .val (.int x2), .val (.int x3), .val (.int x4), .val (.long x5), .second, .val (.int (0 : Int32)), .val (.int (1 : Int32)), .val (.int (2 : Int32)), .val (.int ((x0 >>> ((4 : Int32) &&& 31)))), .val (.ref a_DM), .val (.ref b146), .val (.ref b148), .val (.long (0 : Int64)), .second, .val (.long (((0 : Int64) + (((x1).toInt64) * ((x1).toInt64))) + (((x2).toInt64) * ((x2).toInt64)))), .second, .unset, .unset, .unset, .unset, .unset] rfl ?_
            refine Go.iload X193 hx (hb hby at_197) rfl rfl  ?_
            refine Go.ifYes X193 hx (hb hby at_199) rfl 206 ((if0 _ _).trans (teq (by decide : (0 : Int32) = (0 : Int32))).1) (by decide) (by decide) ?_
            refine Go.lload X193 hx (hb hby at_206) rfl rfl  ?_
            refine Go.lstore X193 hx (hb hby at_208) rfl  #[.val (.int x0), .val (.int x1), .val (.int x2), .val (.int x3), .val (.int x4), .val (.long x5), .second, .val (.int (0 : Int32)), .val (.int (1 : Int32)), .val (.int (2 : Int32)), .val (.int ((x0 >>> ((4 : Int32) &&& 31)))), .val (.ref a_DM), .val (.ref b146), .val (.ref b148), .val (.long (0 : Int64)), .second, .val (.long (((0 : Int64) + (((x1).toInt64) * ((x1).toInt64))) + (((x2).toInt64) * ((x2).toInt64)))), .second, .val (.long x5), .second, .unset, .unset, .unset] rfl ?_
            refine Go.lload X193 hx (hb hby at_210) rfl rfl  ?_
            refine Go.lload X193 hx (hb hby at_212) rfl rfl  ?_
            refine Go.lload X193 hx (hb hby at_214) rfl rfl  ?_
            refine Go.lmul X193 hx (hb hby at_216) rfl ?_
            refine Go.ladd X193 hx (hb hby at_217) rfl ?_
            refine Go.lstore X193 hx (hb hby at_218) rfl  #[.val (.int x0), .val (.int x1), .val (.int x2), .val (.int x3), .val (.int x4), .val (.long x5), .second, .val (.int (0 : Int32)), .val (.int (1 : Int32)), .val (.int (2 : Int32)), .val (.int ((x0 >>> ((4 : Int32) &&& 31)))), .val (.ref a_DM), .val (.ref b146), .val (.ref b148), .val (.long (0 : Int64)), .second, .val (.long (((0 : Int64) + (((x1).toInt64) * ((x1).toInt64))) + (((x2).toInt64) * ((x2).toInt64)))), .second, .val (.long x5), .second, .val (.long ((((0 : Int64) + (((x1).toInt64) * ((x1).toInt64))) + (((x2).toInt64) * ((x2).toInt64))) + ((0 : Int64) * x5))), .second, .unset] rfl ?_
            refine Go.aload X193 hx (hb hby at_220) rfl rfl rfl ?_
            refine Go.aload X193 hx (hb hby at_222) rfl rfl rfl ?_
            refine Go.iload X193 hx (hb hby at_224) rfl rfl  ?_
            refine Go.ifNo X193 hx (hb hby at_226) rfl ((if0 _ _).trans (feq (by decide : ¬ ((1 : Int32) = (0 : Int32)))).1) ?_
            refine Go.aconstNull X193 hx (hb hby at_229) rfl ?_
            refine Go.goto X193 hx (hb hby at_230) rfl 235 (by decide) (by decide) ?_
            refine Go.lload X193 hx (hb hby at_235) rfl rfl  ?_
            refine Go.iload X193 hx (hb hby at_237) rfl rfl  ?_
            refine Go.callV X193 hx hZ hown (wd 4 rfl) (wd 5 rfl) (notFace_of_selects (args := #[]) (mvT hZ (wd 7 rfl))) (wd 7 rfl) (wd 6 rfl) (wd 1 rfl) (wd 8 rfl) (by decide) [(.ref b146), .null, (.long x5), (.int ((x0 >>> ((4 : Int32) &&& 31))))] [] (E_DM.ext O164.2) (rmEv012ff l Z a0 hw b146 k146 x1 x2 x5 ((x0 >>> ((4 : Int32) &&& 31))) a_DM a_CM h163 O164 FF V166 hc167 hc185) e193 rfl (by rw [hml]; rfl) pd_3 rfl (hb hby at_239) (Nat.le_of_ble_eq_true rfl) (Nat.le_of_ble_eq_true rfl) (Nat.le_of_ble_eq_true rfl) (Nat.le_of_ble_eq_true rfl) ?_
            rintro vv194 T194 L194 X194 Q194
            obtain ⟨b194, rfl, N194, K194, sz194, E194, Fs194, Fc194⟩ := Q194
            have M195 := Fr.app N165 N194
            have q194 : Z.heap.size ≤ b194 := Nat.le_trans O164.2.1 sz194
            have ne_b146_b194 : b146 ≠ b194 := Nat.ne_of_lt (Nat.lt_of_lt_of_le V166.lt sz194)
            have ne_b148_b194 : b148 ≠ b194 := Nat.ne_of_lt (Nat.lt_of_lt_of_le V163.lt sz194)
            have O196 := O164.keep K194 (all0)
            have V197 := V166.keep K194 (nin0)
            have V198 := V163.keep K194 (nin0)
            refine Go.astore X194 hx (hb hby at_242) rfl rfl #[.val (.int x0), .val (.int x1), .val (.int x2), .val (.int x3), .val (.int x4), .val (.long x5), .second, .val (.int (0 : Int32)), .val (.int (1 : Int32)), .val (.int (2 : Int32)), .val (.int ((x0 >>> ((4 : Int32) &&& 31)))), .val (.ref a_DM), .val (.ref b146), .val (.ref b148), .val (.long (0 : Int64)), .second, .val (.long (((0 : Int64) + (((x1).toInt64) * ((x1).toInt64))) + (((x2).toInt64) * ((x2).toInt64)))), .second, .val (.long x5), .second, .val (.long ((((0 : Int64) + (((x1).toInt64) * ((x1).toInt64))) + (((x2).toInt64) * ((x2).toInt64))) + ((0 : Int64) * x5))), .second, .val (.ref b194)] rfl ?_
            refine Go.aload X194 hx (hb hby at_244) rfl rfl rfl ?_
            refine Go.pureV X194 hx hZ hown (wd 33 rfl) (wd 34 rfl) (notFace_of_selects (args := #[]) (mvT hZ (wd 36 rfl))) (wd 36 rfl) (wd 35 rfl) (wd 11 rfl) (wd 37 rfl) (by decide) [] [] E194 (rmS l Z a0 hw b194 (0 : Int64) T194.heap Fs194) rfl rfl (by rw [hml]; rfl) pd_4 rfl (hb hby at_246) (Nat.le_of_ble_eq_true rfl) (Nat.le_of_ble_eq_true rfl) (Nat.le_of_ble_eq_true rfl) (Nat.le_of_ble_eq_true rfl) ?_
            intro T199 X199 e199
            refine Go.lload X199 hx (hb hby at_249) rfl rfl  ?_
            refine Go.lcmp X199 hx (hb hby at_251) rfl ?_
            refine Go.ifNo X199 hx (hb hby at_252) rfl ((if0 _ _).trans (teq ((lw_eq (0 : Int64) (0 : Int64)).mpr (by decide : (0 : Int64) = (0 : Int64)))).2) ?_
            refine Go.aload X199 hx (hb hby at_255) rfl rfl rfl ?_
            refine Go.pureV X199 hx hZ hown (wd 38 rfl) (wd 39 rfl) (notFace_of_selects (args := #[]) (mvT hZ (wd 41 rfl))) (wd 41 rfl) (wd 40 rfl) (wd 11 rfl) (wd 42 rfl) (by decide) [] [] E194 (rmC l Z a0 hw b194 ((((0 : Int64) + (((x1).toInt64) * ((x1).toInt64))) + (((x2).toInt64) * ((x2).toInt64))) + ((0 : Int64) * x5)) T194.heap Fc194) e199 rfl (by rw [hml]; rfl) pd_4 rfl (hb hby at_257) (Nat.le_of_ble_eq_true rfl) (Nat.le_of_ble_eq_true rfl) (Nat.le_of_ble_eq_true rfl) (Nat.le_of_ble_eq_true rfl) ?_
            intro T200 X200 e200
            refine Go.lload X200 hx (hb hby at_260) rfl rfl  ?_
            refine Go.lcmp X200 hx (hb hby at_262) rfl ?_
            refine Go.ifNo X200 hx (hb hby at_263) rfl ((if0 _ _).trans (teq ((lw_eq ((((0 : Int64) + (((x1).toInt64) * ((x1).toInt64))) + (((x2).toInt64) * ((x2).toInt64))) + ((0 : Int64) * x5)) ((((0 : Int64) + (((x1).toInt64) * ((x1).toInt64))) + (((x2).toInt64) * ((x2).toInt64))) + ((0 : Int64) * x5))).mpr (rfl : ((((0 : Int64) + (((x1).toInt64) * ((x1).toInt64))) + (((x2).toInt64) * ((x2).toInt64))) + ((0 : Int64) * x5)) = ((((0 : Int64) + (((x1).toInt64) * ((x1).toInt64))) + (((x2).toInt64) * ((x2).toInt64))) + ((0 : Int64) * x5))))).2) ?_
            refine Go.iconst X200 hx (hb hby at_266) rfl (1 : Int32) rfl ?_
            refine Go.goto X200 hx (hb hby at_267) rfl 271 (by decide) (by decide) ?_
            exact Go.retZ X200 hx (z' := (1 : Int32)) hret hlk (hb hby at_271) rfl (by decide) ⟨by first | rfl | simp [hc1, hc2, hc167, hc185], M195⟩ (Nat.le_of_ble_eq_true rfl) (Nat.le_of_ble_eq_true rfl)
  · refine Go.ifNo X0 hx (hb hby at_3) rfl ((if0 _ _).trans (feq hc1).1) ?_
    refine Go.iconst X0 hx (hb hby at_6) rfl (1 : Int32) rfl ?_
    refine Go.goto X0 hx (hb hby at_7) rfl 11 (by decide) (by decide) ?_
    refine Go.istore X0 hx (hb hby at_11) rfl  #[.val (.int x0), .val (.int x1), .val (.int x2), .val (.int x3), .val (.int x4), .val (.long x5), .second, .val (.int (1 : Int32)), .unset, .unset, .unset, .unset, .unset, .unset, .unset, .unset, .unset, .unset, .unset, .unset, .unset, .unset, .unset] rfl ?_
    refine Go.iload X0 hx (hb hby at_13) rfl rfl  ?_
    refine Go.ifYes X0 hx (hb hby at_15) rfl 28 ((if0 _ _).trans (feq (by decide : ¬ ((1 : Int32) = (0 : Int32)))).2) (by decide) (by decide) ?_
    refine Go.iconst X0 hx (hb hby at_28) rfl (0 : Int32) rfl ?_
    refine Go.istore X0 hx (hb hby at_29) rfl  #[.val (.int x0), .val (.int x1), .val (.int x2), .val (.int x3), .val (.int x4), .val (.long x5), .second, .val (.int (1 : Int32)), .val (.int (0 : Int32)), .unset, .unset, .unset, .unset, .unset, .unset, .unset, .unset, .unset, .unset, .unset, .unset, .unset, .unset] rfl ?_
    refine Go.iloadN X0 hx (hb hby at_31) rfl rfl  ?_
    refine Go.iconst X0 hx (hb hby at_32) rfl (2 : Int32) rfl ?_
    refine Go.iushr X0 hx (hb hby at_33) rfl ?_
    refine Go.iconst X0 hx (hb hby at_34) rfl (3 : Int32) rfl ?_
    refine Go.iand X0 hx (hb hby at_35) rfl ?_
    refine Go.iconst X0 hx (hb hby at_36) rfl (3 : Int32) rfl ?_
    refine Go.irem X0 hx (hb hby at_37) rfl (by decide) ?_
    rcases own_len3 x0 with hk | hk | hk
    · show Go p e below _ s₁ (mkF m 38 #[.val (.int x0), .val (.int x1), .val (.int x2), .val (.int x3), .val (.int x4), .val (.long x5), .second, .val (.int (1 : Int32)), .val (.int (0 : Int32)), .unset, .unset, .unset, .unset, .unset, .unset, .unset, .unset, .unset, .unset, .unset, .unset, .unset, .unset] [(.int (((((x0).toUInt32 >>> ((2 : Int32) &&& 31).toUInt32).toInt32) &&& (3 : Int32)) % (3 : Int32)))])
      rw [hk]
      refine Go.istore X0 hx (hb hby at_38) rfl  #[.val (.int x0), .val (.int x1), .val (.int x2), .val (.int x3), .val (.int x4), .val (.long x5), .second, .val (.int (1 : Int32)), .val (.int (0 : Int32)), .val (.int (0 : Int32)), .unset, .unset, .unset, .unset, .unset, .unset, .unset, .unset, .unset, .unset, .unset, .unset, .unset] rfl ?_
      refine Go.iloadN X0 hx (hb hby at_40) rfl rfl  ?_
      refine Go.iconst X0 hx (hb hby at_41) rfl (4 : Int32) rfl ?_
      refine Go.ishr X0 hx (hb hby at_42) rfl ?_
      refine Go.istore X0 hx (hb hby at_43) rfl  #[.val (.int x0), .val (.int x1), .val (.int x2), .val (.int x3), .val (.int x4), .val (.long x5), .second, .val (.int (1 : Int32)), .val (.int (0 : Int32)), .val (.int (0 : Int32)), .val (.int ((x0 >>> ((4 : Int32) &&& 31)))), .unset, .unset, .unset, .unset, .unset, .unset, .unset, .unset, .unset, .unset, .unset, .unset] rfl ?_
      refine Go.iload X0 hx (hb hby at_45) rfl rfl  ?_
      refine Go.ifNo X0 hx (hb hby at_47) rfl ((if0 _ _).trans (feq (by decide : ¬ ((1 : Int32) = (0 : Int32)))).1) ?_
      refine Go.getS X0 hx hZ hown (host := "") (Or.inl (wd 52 rfl)) Via.refl e0 (S_CM.ext O0.2) (hb hby at_50) rfl ?_
      intro T201 X201 e201
      refine Go.goto X201 hx (hb hby at_53) rfl 59 (by decide) (by decide) ?_
      refine Go.astore X201 hx (hb hby at_59) rfl rfl #[.val (.int x0), .val (.int x1), .val (.int x2), .val (.int x3), .val (.int x4), .val (.long x5), .second, .val (.int (1 : Int32)), .val (.int (0 : Int32)), .val (.int (0 : Int32)), .val (.int ((x0 >>> ((4 : Int32) &&& 31)))), .val (.ref a_CM), .unset, .unset, .unset, .unset, .unset, .unset, .unset, .unset, .unset, .unset, .unset] rfl ?_
      refine Go.iload X201 hx (hb hby at_61) rfl rfl  ?_
      refine Go.newP X201 hx hZ (wd 3 rfl) e201 0 (by decide) 0 (by decide) (by decide) (Nat.le_of_ble_eq_true rfl) (Nat.le_of_ble_eq_true rfl) "[I" (by decide) (hb hby at_63) rfl ?_
      intro T202 h202 b202 k202 g202 X202 e202 E202 V202' A202
      have V202 : Arv Z h202 b202 k202 .int (0 : Int32) [] (.int (0 : Int32)) := V202'
      have q202 : Z.heap.size ≤ b202 := Nat.le_trans O0.2.1 (Nat.le_of_eq g202.symm)
      have O203 := O0.ext E202
      refine Go.astore X202 hx (hb hby at_65) rfl rfl #[.val (.int x0), .val (.int x1), .val (.int x2), .val (.int x3), .val (.int x4), .val (.long x5), .second, .val (.int (1 : Int32)), .val (.int (0 : Int32)), .val (.int (0 : Int32)), .val (.int ((x0 >>> ((4 : Int32) &&& 31)))), .val (.ref a_CM), .val (.ref b202), .unset, .unset, .unset, .unset, .unset, .unset, .unset, .unset, .unset, .unset] rfl ?_
      refine Go.iload X202 hx (hb hby at_67) rfl rfl  ?_
      refine Go.newP X202 hx hZ (wd 3 rfl) e202 0 (by decide) 0 (by decide) (by decide) (Nat.le_of_ble_eq_true rfl) (Nat.le_of_ble_eq_true rfl) "[I" (by decide) (hb hby at_69) rfl ?_
      intro T204 h204 b204 k204 g204 X204 e204 E204 V204' A204
      have V204 : Arv Z h204 b204 k204 .int (0 : Int32) [] (.int (0 : Int32)) := V204'
      have q204 : Z.heap.size ≤ b204 := Nat.le_trans O203.2.1 (Nat.le_of_eq g204.symm)
      have ne_b202_b204 : b202 ≠ b204 := Nat.ne_of_lt (Nat.lt_of_lt_of_le V202.lt (Nat.le_of_eq g204.symm))
      have O205 := O203.ext E204
      have V206 := V202.ext E204
      refine Go.astore X204 hx (hb hby at_71) rfl rfl #[.val (.int x0), .val (.int x1), .val (.int x2), .val (.int x3), .val (.int x4), .val (.long x5), .second, .val (.int (1 : Int32)), .val (.int (0 : Int32)), .val (.int (0 : Int32)), .val (.int ((x0 >>> ((4 : Int32) &&& 31)))), .val (.ref a_CM), .val (.ref b202), .val (.ref b204), .unset, .unset, .unset, .unset, .unset, .unset, .unset, .unset, .unset] rfl ?_
      refine Go.iload X204 hx (hb hby at_73) rfl rfl  ?_
      refine Go.ifYes X204 hx (hb hby at_75) rfl 88 ((if0 _ _).trans (flt (by decide : ¬ ((0 : Int32) < (0 : Int32)))).2.2.2) (by decide) (by decide) ?_
      refine Go.iload X204 hx (hb hby at_88) rfl rfl  ?_
      refine Go.iconst X204 hx (hb hby at_90) rfl (1 : Int32) rfl ?_
      refine Go.icmpYes X204 hx (hb hby at_91) rfl 105 (flt (by decide : ¬ ((1 : Int32) < (0 : Int32)))).2.2.2 (by decide) (by decide) ?_
      refine Go.lconst X204 hx (hb hby at_105) rfl (0 : Int64) rfl ?_
      refine Go.lstore X204 hx (hb hby at_106) rfl  #[.val (.int x0), .val (.int x1), .val (.int x2), .val (.int x3), .val (.int x4), .val (.long x5), .second, .val (.int (1 : Int32)), .val (.int (0 : Int32)), .val (.int (0 : Int32)), .val (.int ((x0 >>> ((4 : Int32) &&& 31)))), .val (.ref a_CM), .val (.ref b202), .val (.ref b204), .val (.long (0 : Int64)), .second, .unset, .unset, .unset, .unset, .unset, .unset, .unset] rfl ?_
      refine Go.lconst X204 hx (hb hby at_108) rfl (0 : Int64) rfl ?_
      refine Go.lstore X204 hx (hb hby at_109) rfl  #[.val (.int x0), .val (.int x1), .val (.int x2), .val (.int x3), .val (.int x4), .val (.long x5), .second, .val (.int (1 : Int32)), .val (.int (0 : Int32)), .val (.int (0 : Int32)), .val (.int ((x0 >>> ((4 : Int32) &&& 31)))), .val (.ref a_CM), .val (.ref b202), .val (.ref b204), .val (.long (0 : Int64)), .second, .val (.long (0 : Int64)), .second, .unset, .unset, .unset, .unset, .unset] rfl ?_
      refine Go.iload X204 hx (hb hby at_111) rfl rfl  ?_
      refine Go.ifYes X204 hx (hb hby at_113) rfl 153 ((if0 _ _).trans (flt (by decide : ¬ ((0 : Int32) < (0 : Int32)))).2.2.2) (by decide) (by decide) ?_
      refine Go.iload X204 hx (hb hby at_153) rfl rfl  ?_
      refine Go.iconst X204 hx (hb hby at_155) rfl (1 : Int32) rfl ?_
      refine Go.icmpYes X204 hx (hb hby at_156) rfl 197 (flt (by decide : ¬ ((1 : Int32) < (0 : Int32)))).2.2.2 (by decide) (by decide) ?_
      refine Go.iload X204 hx (hb hby at_197) rfl rfl  ?_
      refine Go.ifNo X204 hx (hb hby at_199) rfl ((if0 _ _).trans (feq (by decide : ¬ ((1 : Int32) = (0 : Int32)))).1) ?_
      refine Go.lconst X204 hx (hb hby at_202) rfl (1 : Int64) rfl ?_
      refine Go.goto X204 hx (hb hby at_203) rfl 208 (by decide) (by decide) ?_
      refine Go.lstore X204 hx (hb hby at_208) rfl  #[.val (.int x0), .val (.int x1), .val (.int x2), .val (.int x3), .val (.int x4), .val (.long x5), .second, .val (.int (1 : Int32)), .val (.int (0 : Int32)), .val (.int (0 : Int32)), .val (.int ((x0 >>> ((4 : Int32) &&& 31)))), .val (.ref a_CM), .val (.ref b202), .val (.ref b204), .val (.long (0 : Int64)), .second, .val (.long (0 : Int64)), .second, .val (.long (1 : Int64)), .second, .unset, .unset, .unset] rfl ?_
      refine Go.lload X204 hx (hb hby at_210) rfl rfl  ?_
      refine Go.lload X204 hx (hb hby at_212) rfl rfl  ?_
      refine Go.lload X204 hx (hb hby at_214) rfl rfl  ?_
      refine Go.lmul X204 hx (hb hby at_216) rfl ?_
      show Go p e below _ T204 (mkF m 217 #[.val (.int x0), .val (.int x1), .val (.int x2), .val (.int x3), .val (.int x4), .val (.long x5), .second, .val (.int (1 : Int32)), .val (.int (0 : Int32)), .val (.int (0 : Int32)), .val (.int ((x0 >>> ((4 : Int32) &&& 31)))), .val (.ref a_CM), .val (.ref b202), .val (.ref b204), .val (.long (0 : Int64)), .second, .val (.long (0 : Int64)), .second, .val (.long (1 : Int64)), .second, .unset, .unset, .unset] [(.long ((0 : Int64) * (1 : Int64))), (.long (0 : Int64))])
      rw [show ((0 : Int64) * (1 : Int64)) = (0 : Int64) from by decide]
      refine Go.ladd X204 hx (hb hby at_217) rfl ?_
      show Go p e below _ T204 (mkF m 218 #[.val (.int x0), .val (.int x1), .val (.int x2), .val (.int x3), .val (.int x4), .val (.long x5), .second, .val (.int (1 : Int32)), .val (.int (0 : Int32)), .val (.int (0 : Int32)), .val (.int ((x0 >>> ((4 : Int32) &&& 31)))), .val (.ref a_CM), .val (.ref b202), .val (.ref b204), .val (.long (0 : Int64)), .second, .val (.long (0 : Int64)), .second, .val (.long (1 : Int64)), .second, .unset, .unset, .unset] [(.long ((0 : Int64) + (0 : Int64)))])
      rw [show ((0 : Int64) + (0 : Int64)) = (0 : Int64) from by decide]
      refine Go.lstore X204 hx (hb hby at_218) rfl  #[.val (.int x0), .val (.int x1), .val (.int x2), .val (.int x3), .val (.int x4), .val (.long x5), .second, .val (.int (1 : Int32)), .val (.int (0 : Int32)), .val (.int (0 : Int32)), .val (.int ((x0 >>> ((4 : Int32) &&& 31)))), .val (.ref a_CM), .val (.ref b202), .val (.ref b204), .val (.long (0 : Int64)), .second, .val (.long (0 : Int64)), .second, .val (.long (1 : Int64)), .second, .val (.long (0 : Int64)), .second, .unset] rfl ?_
      refine Go.aload X204 hx (hb hby at_220) rfl rfl rfl ?_
      refine Go.aload X204 hx (hb hby at_222) rfl rfl rfl ?_
      refine Go.iload X204 hx (hb hby at_224) rfl rfl  ?_
      refine Go.ifYes X204 hx (hb hby at_226) rfl 233 ((if0 _ _).trans (teq (by decide : (0 : Int32) = (0 : Int32))).1) (by decide) (by decide) ?_
      refine Go.aload X204 hx (hb hby at_233) rfl rfl rfl ?_
      refine Go.lload X204 hx (hb hby at_235) rfl rfl  ?_
      refine Go.iload X204 hx (hb hby at_237) rfl rfl  ?_
      refine Go.callV X204 hx hZ hown (wd 4 rfl) (wd 5 rfl) (notFace_of_selects (args := #[]) (mvT hZ (wd 54 rfl))) (wd 54 rfl) (wd 6 rfl) (wd 1 rfl) (wd 8 rfl) (by decide) [(.ref b202), (.ref b204), (.long x5), (.int ((x0 >>> ((4 : Int32) &&& 31))))] [] (E_CM.ext O205.2) (rmEv100 l Z a0 hw b202 b204 k202 k204 x5 ((x0 >>> ((4 : Int32) &&& 31))) a_DM a_CM h204 O205 FF V206 V204) e204 rfl (by rw [hml]; rfl) pd_3 rfl (hb hby at_239) (Nat.le_of_ble_eq_true rfl) (Nat.le_of_ble_eq_true rfl) (Nat.le_of_ble_eq_true rfl) (Nat.le_of_ble_eq_true rfl) ?_
      rintro vv207 T207 L207 X207 Q207
      obtain ⟨b207, rfl, N207, K207, sz207, E207, Fs207, Fc207⟩ := Q207
      have M208 := Fr.app (Fr.nil _) N207
      have q207 : Z.heap.size ≤ b207 := Nat.le_trans O205.2.1 sz207
      have ne_b202_b207 : b202 ≠ b207 := Nat.ne_of_lt (Nat.lt_of_lt_of_le V206.lt sz207)
      have ne_b204_b207 : b204 ≠ b207 := Nat.ne_of_lt (Nat.lt_of_lt_of_le V204.lt sz207)
      have O209 := O205.keep K207 (all0)
      have V210 := V206.keep K207 (nin0)
      have V211 := V204.keep K207 (nin0)
      refine Go.astore X207 hx (hb hby at_242) rfl rfl #[.val (.int x0), .val (.int x1), .val (.int x2), .val (.int x3), .val (.int x4), .val (.long x5), .second, .val (.int (1 : Int32)), .val (.int (0 : Int32)), .val (.int (0 : Int32)), .val (.int ((x0 >>> ((4 : Int32) &&& 31)))), .val (.ref a_CM), .val (.ref b202), .val (.ref b204), .val (.long (0 : Int64)), .second, .val (.long (0 : Int64)), .second, .val (.long (1 : Int64)), .second, .val (.long (0 : Int64)), .second, .val (.ref b207)] rfl ?_
      refine Go.aload X207 hx (hb hby at_244) rfl rfl rfl ?_
      refine Go.pureV X207 hx hZ hown (wd 33 rfl) (wd 34 rfl) (notFace_of_selects (args := #[]) (mvT hZ (wd 36 rfl))) (wd 36 rfl) (wd 35 rfl) (wd 11 rfl) (wd 37 rfl) (by decide) [] [] E207 (rmS l Z a0 hw b207 (0 : Int64) T207.heap Fs207) rfl rfl (by rw [hml]; rfl) pd_4 rfl (hb hby at_246) (Nat.le_of_ble_eq_true rfl) (Nat.le_of_ble_eq_true rfl) (Nat.le_of_ble_eq_true rfl) (Nat.le_of_ble_eq_true rfl) ?_
      intro T212 X212 e212
      refine Go.lload X212 hx (hb hby at_249) rfl rfl  ?_
      refine Go.lcmp X212 hx (hb hby at_251) rfl ?_
      refine Go.ifNo X212 hx (hb hby at_252) rfl ((if0 _ _).trans (teq ((lw_eq (0 : Int64) (0 : Int64)).mpr (by decide : (0 : Int64) = (0 : Int64)))).2) ?_
      refine Go.aload X212 hx (hb hby at_255) rfl rfl rfl ?_
      refine Go.pureV X212 hx hZ hown (wd 38 rfl) (wd 39 rfl) (notFace_of_selects (args := #[]) (mvT hZ (wd 41 rfl))) (wd 41 rfl) (wd 40 rfl) (wd 11 rfl) (wd 42 rfl) (by decide) [] [] E207 (rmC l Z a0 hw b207 (0 : Int64) T207.heap Fc207) e212 rfl (by rw [hml]; rfl) pd_4 rfl (hb hby at_257) (Nat.le_of_ble_eq_true rfl) (Nat.le_of_ble_eq_true rfl) (Nat.le_of_ble_eq_true rfl) (Nat.le_of_ble_eq_true rfl) ?_
      intro T213 X213 e213
      refine Go.lload X213 hx (hb hby at_260) rfl rfl  ?_
      refine Go.lcmp X213 hx (hb hby at_262) rfl ?_
      refine Go.ifNo X213 hx (hb hby at_263) rfl ((if0 _ _).trans (teq ((lw_eq (0 : Int64) (0 : Int64)).mpr (by decide : (0 : Int64) = (0 : Int64)))).2) ?_
      refine Go.iconst X213 hx (hb hby at_266) rfl (1 : Int32) rfl ?_
      refine Go.goto X213 hx (hb hby at_267) rfl 271 (by decide) (by decide) ?_
      exact Go.retZ X213 hx (z' := (1 : Int32)) hret hlk (hb hby at_271) rfl (by decide) ⟨by first | rfl | simp [hc1], M208⟩ (Nat.le_of_ble_eq_true rfl) (Nat.le_of_ble_eq_true rfl)
    · show Go p e below _ s₁ (mkF m 38 #[.val (.int x0), .val (.int x1), .val (.int x2), .val (.int x3), .val (.int x4), .val (.long x5), .second, .val (.int (1 : Int32)), .val (.int (0 : Int32)), .unset, .unset, .unset, .unset, .unset, .unset, .unset, .unset, .unset, .unset, .unset, .unset, .unset, .unset] [(.int (((((x0).toUInt32 >>> ((2 : Int32) &&& 31).toUInt32).toInt32) &&& (3 : Int32)) % (3 : Int32)))])
      rw [hk]
      refine Go.istore X0 hx (hb hby at_38) rfl  #[.val (.int x0), .val (.int x1), .val (.int x2), .val (.int x3), .val (.int x4), .val (.long x5), .second, .val (.int (1 : Int32)), .val (.int (0 : Int32)), .val (.int (1 : Int32)), .unset, .unset, .unset, .unset, .unset, .unset, .unset, .unset, .unset, .unset, .unset, .unset, .unset] rfl ?_
      refine Go.iloadN X0 hx (hb hby at_40) rfl rfl  ?_
      refine Go.iconst X0 hx (hb hby at_41) rfl (4 : Int32) rfl ?_
      refine Go.ishr X0 hx (hb hby at_42) rfl ?_
      refine Go.istore X0 hx (hb hby at_43) rfl  #[.val (.int x0), .val (.int x1), .val (.int x2), .val (.int x3), .val (.int x4), .val (.long x5), .second, .val (.int (1 : Int32)), .val (.int (0 : Int32)), .val (.int (1 : Int32)), .val (.int ((x0 >>> ((4 : Int32) &&& 31)))), .unset, .unset, .unset, .unset, .unset, .unset, .unset, .unset, .unset, .unset, .unset, .unset] rfl ?_
      refine Go.iload X0 hx (hb hby at_45) rfl rfl  ?_
      refine Go.ifNo X0 hx (hb hby at_47) rfl ((if0 _ _).trans (feq (by decide : ¬ ((1 : Int32) = (0 : Int32)))).1) ?_
      refine Go.getS X0 hx hZ hown (host := "") (Or.inl (wd 52 rfl)) Via.refl e0 (S_CM.ext O0.2) (hb hby at_50) rfl ?_
      intro T214 X214 e214
      refine Go.goto X214 hx (hb hby at_53) rfl 59 (by decide) (by decide) ?_
      refine Go.astore X214 hx (hb hby at_59) rfl rfl #[.val (.int x0), .val (.int x1), .val (.int x2), .val (.int x3), .val (.int x4), .val (.long x5), .second, .val (.int (1 : Int32)), .val (.int (0 : Int32)), .val (.int (1 : Int32)), .val (.int ((x0 >>> ((4 : Int32) &&& 31)))), .val (.ref a_CM), .unset, .unset, .unset, .unset, .unset, .unset, .unset, .unset, .unset, .unset, .unset] rfl ?_
      refine Go.iload X214 hx (hb hby at_61) rfl rfl  ?_
      refine Go.newP X214 hx hZ (wd 3 rfl) e214 1 (by decide) 1 (by decide) (by decide) (Nat.le_of_ble_eq_true rfl) (Nat.le_of_ble_eq_true rfl) "[I" (by decide) (hb hby at_63) rfl ?_
      intro T215 h215 b215 k215 g215 X215 e215 E215 V215' A215
      have V215 : Arv Z h215 b215 k215 .int (1 : Int32) [(.int (0 : Int32))] (.int (0 : Int32)) := V215'
      have q215 : Z.heap.size ≤ b215 := Nat.le_trans O0.2.1 (Nat.le_of_eq g215.symm)
      have O216 := O0.ext E215
      refine Go.astore X215 hx (hb hby at_65) rfl rfl #[.val (.int x0), .val (.int x1), .val (.int x2), .val (.int x3), .val (.int x4), .val (.long x5), .second, .val (.int (1 : Int32)), .val (.int (0 : Int32)), .val (.int (1 : Int32)), .val (.int ((x0 >>> ((4 : Int32) &&& 31)))), .val (.ref a_CM), .val (.ref b215), .unset, .unset, .unset, .unset, .unset, .unset, .unset, .unset, .unset, .unset] rfl ?_
      refine Go.iload X215 hx (hb hby at_67) rfl rfl  ?_
      refine Go.newP X215 hx hZ (wd 3 rfl) e215 1 (by decide) 1 (by decide) (by decide) (Nat.le_of_ble_eq_true rfl) (Nat.le_of_ble_eq_true rfl) "[I" (by decide) (hb hby at_69) rfl ?_
      intro T217 h217 b217 k217 g217 X217 e217 E217 V217' A217
      have V217 : Arv Z h217 b217 k217 .int (1 : Int32) [(.int (0 : Int32))] (.int (0 : Int32)) := V217'
      have q217 : Z.heap.size ≤ b217 := Nat.le_trans O216.2.1 (Nat.le_of_eq g217.symm)
      have ne_b215_b217 : b215 ≠ b217 := Nat.ne_of_lt (Nat.lt_of_lt_of_le V215.lt (Nat.le_of_eq g217.symm))
      have O218 := O216.ext E217
      have V219 := V215.ext E217
      refine Go.astore X217 hx (hb hby at_71) rfl rfl #[.val (.int x0), .val (.int x1), .val (.int x2), .val (.int x3), .val (.int x4), .val (.long x5), .second, .val (.int (1 : Int32)), .val (.int (0 : Int32)), .val (.int (1 : Int32)), .val (.int ((x0 >>> ((4 : Int32) &&& 31)))), .val (.ref a_CM), .val (.ref b215), .val (.ref b217), .unset, .unset, .unset, .unset, .unset, .unset, .unset, .unset, .unset] rfl ?_
      refine Go.iload X217 hx (hb hby at_73) rfl rfl  ?_
      refine Go.ifNo X217 hx (hb hby at_75) rfl ((if0 _ _).trans (tlt (by decide : (0 : Int32) < (1 : Int32))).2.2.2) ?_
      refine Go.aload X217 hx (hb hby at_78) rfl rfl rfl ?_
      refine Go.iconst X217 hx (hb hby at_80) rfl (0 : Int32) rfl ?_
      refine Go.iloadN X217 hx (hb hby at_81) rfl rfl  ?_
      refine Go.iastore X217 hx hZ V219 e217 ⟨by decide, by decide⟩ 0 (by decide) (Nat.le_of_ble_eq_true rfl)  (hb hby at_82) rfl ?_
      intro T220 h220 X220 e220 W220 V220'
      have V220 : Arv Z h220 b215 k215 .int (1 : Int32) [(.int x1)] (.int (0 : Int32)) := V220'
      have O221 := O218.wr W220 q215
      have N222 := Fr.snoc X220 (Fr.nil _) q215
      have V223 := V217.other W220 (Ne.symm ne_b215_b217)
      refine Go.aload X220 hx (hb hby at_83) rfl rfl rfl ?_
      refine Go.iconst X220 hx (hb hby at_85) rfl (0 : Int32) rfl ?_
      refine Go.iloadN X220 hx (hb hby at_86) rfl rfl  ?_
      refine Go.iastore X220 hx hZ V223 e220 ⟨by decide, by decide⟩ 0 (by decide) (Nat.le_of_ble_eq_true rfl)  (hb hby at_87) rfl ?_
      intro T224 h224 X224 e224 W224 V224'
      have V224 : Arv Z h224 b217 k217 .int (1 : Int32) [(.int x3)] (.int (0 : Int32)) := V224'
      have O225 := O221.wr W224 q217
      have N226 := Fr.snoc X224 N222 q217
      have V227 := V220.other W224 ne_b215_b217
      refine Go.iload X224 hx (hb hby at_88) rfl rfl  ?_
      refine Go.iconst X224 hx (hb hby at_90) rfl (1 : Int32) rfl ?_
      refine Go.icmpYes X224 hx (hb hby at_91) rfl 105 (flt (by decide : ¬ ((1 : Int32) < (1 : Int32)))).2.2.2 (by decide) (by decide) ?_
      refine Go.lconst X224 hx (hb hby at_105) rfl (0 : Int64) rfl ?_
      refine Go.lstore X224 hx (hb hby at_106) rfl  #[.val (.int x0), .val (.int x1), .val (.int x2), .val (.int x3), .val (.int x4), .val (.long x5), .second, .val (.int (1 : Int32)), .val (.int (0 : Int32)), .val (.int (1 : Int32)), .val (.int ((x0 >>> ((4 : Int32) &&& 31)))), .val (.ref a_CM), .val (.ref b215), .val (.ref b217), .val (.long (0 : Int64)), .second, .unset, .unset, .unset, .unset, .unset, .unset, .unset] rfl ?_
      refine Go.lconst X224 hx (hb hby at_108) rfl (0 : Int64) rfl ?_
      refine Go.lstore X224 hx (hb hby at_109) rfl  #[.val (.int x0), .val (.int x1), .val (.int x2), .val (.int x3), .val (.int x4), .val (.long x5), .second, .val (.int (1 : Int32)), .val (.int (0 : Int32)), .val (.int (1 : Int32)), .val (.int ((x0 >>> ((4 : Int32) &&& 31)))), .val (.ref a_CM), .val (.ref b215), .val (.ref b217), .val (.long (0 : Int64)), .second, .val (.long (0 : Int64)), .second, .unset, .unset, .unset, .unset, .unset] rfl ?_
      refine Go.iload X224 hx (hb hby at_111) rfl rfl  ?_
      refine Go.ifNo X224 hx (hb hby at_113) rfl ((if0 _ _).trans (tlt (by decide : (0 : Int32) < (1 : Int32))).2.2.2) ?_
      refine Go.iloadN X224 hx (hb hby at_116) rfl rfl  ?_
      refine Go.iload X224 hx (hb hby at_117) rfl rfl  ?_
      by_cases hc228 : x1 < ((x0 >>> ((4 : Int32) &&& 31)))
      · refine Go.icmpNo X224 hx (hb hby at_119) rfl (tlt hc228).2.1 ?_
        refine Go.lload X224 hx (hb hby at_122) rfl rfl  ?_
        refine Go.iloadN X224 hx (hb hby at_124) rfl rfl  ?_
        refine Go.i2l X224 hx (hb hby at_125) rfl ?_
        refine Go.ladd X224 hx (hb hby at_126) rfl ?_
        refine Go.lstore X224 hx (hb hby at_127) rfl  #[.val (.int x0), .val (.int x1), .val (.int x2), .val (.int x3), .val (.int x4), .val (.long x5), .second, .val (.int (1 : Int32)), .val (.int (0 : Int32)), .val (.int (1 : Int32)), .val (.int ((x0 >>> ((4 : Int32) &&& 31)))), .val (.ref a_CM), .val (.ref b215), .val (.ref b217), .val (.long ((0 : Int64) + ((x1).toInt64))), .second, .val (.long (0 : Int64)), .second, .unset, .unset, .unset, .unset, .unset] rfl ?_
        refine Go.goto X224 hx (hb hby at_129) rfl 153 (by decide) (by decide) ?_
        refine Go.iload X224 hx (hb hby at_153) rfl rfl  ?_
        refine Go.iconst X224 hx (hb hby at_155) rfl (1 : Int32) rfl ?_
        refine Go.icmpYes X224 hx (hb hby at_156) rfl 197 (flt (by decide : ¬ ((1 : Int32) < (1 : Int32)))).2.2.2 (by decide) (by decide) ?_
        refine Go.iload X224 hx (hb hby at_197) rfl rfl  ?_
        refine Go.ifNo X224 hx (hb hby at_199) rfl ((if0 _ _).trans (feq (by decide : ¬ ((1 : Int32) = (0 : Int32)))).1) ?_
        refine Go.lconst X224 hx (hb hby at_202) rfl (1 : Int64) rfl ?_
        refine Go.goto X224 hx (hb hby at_203) rfl 208 (by decide) (by decide) ?_
        refine Go.lstore X224 hx (hb hby at_208) rfl  #[.val (.int x0), .val (.int x1), .val (.int x2), .val (.int x3), .val (.int x4), .val (.long x5), .second, .val (.int (1 : Int32)), .val (.int (0 : Int32)), .val (.int (1 : Int32)), .val (.int ((x0 >>> ((4 : Int32) &&& 31)))), .val (.ref a_CM), .val (.ref b215), .val (.ref b217), .val (.long ((0 : Int64) + ((x1).toInt64))), .second, .val (.long (0 : Int64)), .second, .val (.long (1 : Int64)), .second, .unset, .unset, .unset] rfl ?_
        refine Go.lload X224 hx (hb hby at_210) rfl rfl  ?_
        refine Go.lload X224 hx (hb hby at_212) rfl rfl  ?_
        refine Go.lload X224 hx (hb hby at_214) rfl rfl  ?_
        refine Go.lmul X224 hx (hb hby at_216) rfl ?_
        refine Go.ladd X224 hx (hb hby at_217) rfl ?_
        refine Go.lstore X224 hx (hb hby at_218) rfl  #[.val (.int x0), .val (.int x1), .val (.int x2), .val (.int x3), .val (.int x4), .val (.long x5), .second, .val (.int (1 : Int32)), .val (.int (0 : Int32)), .val (.int (1 : Int32)), .val (.int ((x0 >>> ((4 : Int32) &&& 31)))), .val (.ref a_CM), .val (.ref b215), .val (.ref b217), .val (.long ((0 : Int64) + ((x1).toInt64))), .second, .val (.long (0 : Int64)), .second, .val (.long (1 : Int64)), .second, .val (.long ((0 : Int64) + (((0 : Int64) + ((x1).toInt64)) * (1 : Int64)))), .second, .unset] rfl ?_
        refine Go.aload X224 hx (hb hby at_220) rfl rfl rfl ?_
        refine Go.aload X224 hx (hb hby at_222) rfl rfl rfl ?_
        refine Go.iload X224 hx (hb hby at_224) rfl rfl  ?_
        refine Go.ifYes X224 hx (hb hby at_226) rfl 233 ((if0 _ _).trans (teq (by decide : (0 : Int32) = (0 : Int32))).1) (by decide) (by decide) ?_
        refine Go.aload X224 hx (hb hby at_233) rfl rfl rfl ?_
        refine Go.lload X224 hx (hb hby at_235) rfl rfl  ?_
        refine Go.iload X224 hx (hb hby at_237) rfl rfl  ?_
        refine Go.callV X224 hx hZ hown (wd 4 rfl) (wd 5 rfl) (notFace_of_selects (args := #[]) (mvT hZ (wd 54 rfl))) (wd 54 rfl) (wd 6 rfl) (wd 1 rfl) (wd 8 rfl) (by decide) [(.ref b215), (.ref b217), (.long x5), (.int ((x0 >>> ((4 : Int32) &&& 31))))] [] (E_CM.ext O225.2) (rmEv101t l Z a0 hw b215 b217 k215 k217 x1 x3 x5 ((x0 >>> ((4 : Int32) &&& 31))) a_DM a_CM h224 O225 FF V227 V224 hc228) e224 rfl (by rw [hml]; rfl) pd_3 rfl (hb hby at_239) (Nat.le_of_ble_eq_true rfl) (Nat.le_of_ble_eq_true rfl) (Nat.le_of_ble_eq_true rfl) (Nat.le_of_ble_eq_true rfl) ?_
        rintro vv229 T229 L229 X229 Q229
        obtain ⟨b229, rfl, N229, K229, sz229, E229, Fs229, Fc229⟩ := Q229
        have M230 := Fr.app N226 N229
        have q229 : Z.heap.size ≤ b229 := Nat.le_trans O225.2.1 sz229
        have ne_b215_b229 : b215 ≠ b229 := Nat.ne_of_lt (Nat.lt_of_lt_of_le V227.lt sz229)
        have ne_b217_b229 : b217 ≠ b229 := Nat.ne_of_lt (Nat.lt_of_lt_of_le V224.lt sz229)
        have O231 := O225.keep K229 (all0)
        have V232 := V227.keep K229 (nin0)
        have V233 := V224.keep K229 (nin0)
        refine Go.astore X229 hx (hb hby at_242) rfl rfl #[.val (.int x0), .val (.int x1), .val (.int x2), .val (.int x3), .val (.int x4), .val (.long x5), .second, .val (.int (1 : Int32)), .val (.int (0 : Int32)), .val (.int (1 : Int32)), .val (.int ((x0 >>> ((4 : Int32) &&& 31)))), .val (.ref a_CM), .val (.ref b215), .val (.ref b217), .val (.long ((0 : Int64) + ((x1).toInt64))), .second, .val (.long (0 : Int64)), .second, .val (.long (1 : Int64)), .second, .val (.long ((0 : Int64) + (((0 : Int64) + ((x1).toInt64)) * (1 : Int64)))), .second, .val (.ref b229)] rfl ?_
        refine Go.aload X229 hx (hb hby at_244) rfl rfl rfl ?_
        refine Go.pureV X229 hx hZ hown (wd 33 rfl) (wd 34 rfl) (notFace_of_selects (args := #[]) (mvT hZ (wd 36 rfl))) (wd 36 rfl) (wd 35 rfl) (wd 11 rfl) (wd 37 rfl) (by decide) [] [] E229 (rmS l Z a0 hw b229 ((0 : Int64) + ((x1).toInt64)) T229.heap Fs229) rfl rfl (by rw [hml]; rfl) pd_4 rfl (hb hby at_246) (Nat.le_of_ble_eq_true rfl) (Nat.le_of_ble_eq_true rfl) (Nat.le_of_ble_eq_true rfl) (Nat.le_of_ble_eq_true rfl) ?_
        intro T234 X234 e234
        refine Go.lload X234 hx (hb hby at_249) rfl rfl  ?_
        refine Go.lcmp X234 hx (hb hby at_251) rfl ?_
        refine Go.ifNo X234 hx (hb hby at_252) rfl ((if0 _ _).trans (teq ((lw_eq ((0 : Int64) + ((x1).toInt64)) ((0 : Int64) + ((x1).toInt64))).mpr (rfl : ((0 : Int64) + ((x1).toInt64)) = ((0 : Int64) + ((x1).toInt64))))).2) ?_
        refine Go.aload X234 hx (hb hby at_255) rfl rfl rfl ?_
        refine Go.pureV X234 hx hZ hown (wd 38 rfl) (wd 39 rfl) (notFace_of_selects (args := #[]) (mvT hZ (wd 41 rfl))) (wd 41 rfl) (wd 40 rfl) (wd 11 rfl) (wd 42 rfl) (by decide) [] [] E229 (rmC l Z a0 hw b229 ((0 : Int64) + (((0 : Int64) + ((x1).toInt64)) * (1 : Int64))) T229.heap Fc229) e234 rfl (by rw [hml]; rfl) pd_4 rfl (hb hby at_257) (Nat.le_of_ble_eq_true rfl) (Nat.le_of_ble_eq_true rfl) (Nat.le_of_ble_eq_true rfl) (Nat.le_of_ble_eq_true rfl) ?_
        intro T235 X235 e235
        refine Go.lload X235 hx (hb hby at_260) rfl rfl  ?_
        refine Go.lcmp X235 hx (hb hby at_262) rfl ?_
        refine Go.ifNo X235 hx (hb hby at_263) rfl ((if0 _ _).trans (teq ((lw_eq ((0 : Int64) + (((0 : Int64) + ((x1).toInt64)) * (1 : Int64))) ((0 : Int64) + (((0 : Int64) + ((x1).toInt64)) * (1 : Int64)))).mpr (rfl : ((0 : Int64) + (((0 : Int64) + ((x1).toInt64)) * (1 : Int64))) = ((0 : Int64) + (((0 : Int64) + ((x1).toInt64)) * (1 : Int64)))))).2) ?_
        refine Go.iconst X235 hx (hb hby at_266) rfl (1 : Int32) rfl ?_
        refine Go.goto X235 hx (hb hby at_267) rfl 271 (by decide) (by decide) ?_
        exact Go.retZ X235 hx (z' := (1 : Int32)) hret hlk (hb hby at_271) rfl (by decide) ⟨by first | rfl | simp [hc1, hc228], M230⟩ (Nat.le_of_ble_eq_true rfl) (Nat.le_of_ble_eq_true rfl)
      · refine Go.icmpYes X224 hx (hb hby at_119) rfl 132 (flt hc228).2.1 (by decide) (by decide) ?_
        refine Go.lload X224 hx (hb hby at_132) rfl rfl  ?_
        refine Go.iload X224 hx (hb hby at_134) rfl rfl  ?_
        refine Go.iloadN X224 hx (hb hby at_136) rfl rfl  ?_
        refine Go.iload X224 hx (hb hby at_137) rfl rfl  ?_
        refine Go.ifYes X224 hx (hb hby at_139) rfl 146 ((if0 _ _).trans (teq (by decide : (0 : Int32) = (0 : Int32))).1) (by decide) (by decide) ?_
        refine Go.iloadN X224 hx (hb hby at_146) rfl rfl  ?_
        refine Go.pureS X224 hx hZ hown (wd 43 rfl) (wd 44 rfl) (wd 45 rfl) (wd 46 rfl) (by decide) [(.int (1 : Int32)), (.int x1), (.int x3)] [(.long (0 : Int64))] (rmP1 l Z a0 hw x1 x3 h224) e224 rfl (by rw [hml]; rfl) pd_5 rfl (hb hby at_147) (Nat.le_of_ble_eq_true rfl) (Nat.le_of_ble_eq_true rfl) (Nat.le_of_ble_eq_true rfl) (Nat.le_of_ble_eq_true rfl) ?_
        intro T236 X236 e236
        refine Go.ladd X236 hx (hb hby at_150) rfl ?_
        refine Go.lstore X236 hx (hb hby at_151) rfl  #[.val (.int x0), .val (.int x1), .val (.int x2), .val (.int x3), .val (.int x4), .val (.long x5), .second, .val (.int (1 : Int32)), .val (.int (0 : Int32)), .val (.int (1 : Int32)), .val (.int ((x0 >>> ((4 : Int32) &&& 31)))), .val (.ref a_CM), .val (.ref b215), .val (.ref b217), .val (.long (0 : Int64)), .second, .val (.long ((0 : Int64) + (((x1).toInt64) - ((x3).toInt64)))), .second, .unset, .unset, .unset, .unset, .unset] rfl ?_
        refine Go.iload X236 hx (hb hby at_153) rfl rfl  ?_
        refine Go.iconst X236 hx (hb hby at_155) rfl (1 : Int32) rfl ?_
        refine Go.icmpYes X236 hx (hb hby at_156) rfl 197 (flt (by decide : ¬ ((1 : Int32) < (1 : Int32)))).2.2.2 (by decide) (by decide) ?_
        refine Go.iload X236 hx (hb hby at_197) rfl rfl  ?_
        refine Go.ifNo X236 hx (hb hby at_199) rfl ((if0 _ _).trans (feq (by decide : ¬ ((1 : Int32) = (0 : Int32)))).1) ?_
        refine Go.lconst X236 hx (hb hby at_202) rfl (1 : Int64) rfl ?_
        refine Go.goto X236 hx (hb hby at_203) rfl 208 (by decide) (by decide) ?_
        refine Go.lstore X236 hx (hb hby at_208) rfl  #[.val (.int x0), .val (.int x1), .val (.int x2), .val (.int x3), .val (.int x4), .val (.long x5), .second, .val (.int (1 : Int32)), .val (.int (0 : Int32)), .val (.int (1 : Int32)), .val (.int ((x0 >>> ((4 : Int32) &&& 31)))), .val (.ref a_CM), .val (.ref b215), .val (.ref b217), .val (.long (0 : Int64)), .second, .val (.long ((0 : Int64) + (((x1).toInt64) - ((x3).toInt64)))), .second, .val (.long (1 : Int64)), .second, .unset, .unset, .unset] rfl ?_
        refine Go.lload X236 hx (hb hby at_210) rfl rfl  ?_
        refine Go.lload X236 hx (hb hby at_212) rfl rfl  ?_
        refine Go.lload X236 hx (hb hby at_214) rfl rfl  ?_
        refine Go.lmul X236 hx (hb hby at_216) rfl ?_
        show Go p e below _ T236 (mkF m 217 #[.val (.int x0), .val (.int x1), .val (.int x2), .val (.int x3), .val (.int x4), .val (.long x5), .second, .val (.int (1 : Int32)), .val (.int (0 : Int32)), .val (.int (1 : Int32)), .val (.int ((x0 >>> ((4 : Int32) &&& 31)))), .val (.ref a_CM), .val (.ref b215), .val (.ref b217), .val (.long (0 : Int64)), .second, .val (.long ((0 : Int64) + (((x1).toInt64) - ((x3).toInt64)))), .second, .val (.long (1 : Int64)), .second, .unset, .unset, .unset] [(.long ((0 : Int64) * (1 : Int64))), (.long ((0 : Int64) + (((x1).toInt64) - ((x3).toInt64))))])
        rw [show ((0 : Int64) * (1 : Int64)) = (0 : Int64) from by decide]
        refine Go.ladd X236 hx (hb hby at_217) rfl ?_
        refine Go.lstore X236 hx (hb hby at_218) rfl  #[.val (.int x0), .val (.int x1), .val (.int x2), .val (.int x3), .val (.int x4), .val (.long x5), .second, .val (.int (1 : Int32)), .val (.int (0 : Int32)), .val (.int (1 : Int32)), .val (.int ((x0 >>> ((4 : Int32) &&& 31)))), .val (.ref a_CM), .val (.ref b215), .val (.ref b217), .val (.long (0 : Int64)), .second, .val (.long ((0 : Int64) + (((x1).toInt64) - ((x3).toInt64)))), .second, .val (.long (1 : Int64)), .second, .val (.long (((0 : Int64) + (((x1).toInt64) - ((x3).toInt64))) + (0 : Int64))), .second, .unset] rfl ?_
        refine Go.aload X236 hx (hb hby at_220) rfl rfl rfl ?_
        refine Go.aload X236 hx (hb hby at_222) rfl rfl rfl ?_
        refine Go.iload X236 hx (hb hby at_224) rfl rfl  ?_
        refine Go.ifYes X236 hx (hb hby at_226) rfl 233 ((if0 _ _).trans (teq (by decide : (0 : Int32) = (0 : Int32))).1) (by decide) (by decide) ?_
        refine Go.aload X236 hx (hb hby at_233) rfl rfl rfl ?_
        refine Go.lload X236 hx (hb hby at_235) rfl rfl  ?_
        refine Go.iload X236 hx (hb hby at_237) rfl rfl  ?_
        refine Go.callV X236 hx hZ hown (wd 4 rfl) (wd 5 rfl) (notFace_of_selects (args := #[]) (mvT hZ (wd 54 rfl))) (wd 54 rfl) (wd 6 rfl) (wd 1 rfl) (wd 8 rfl) (by decide) [(.ref b215), (.ref b217), (.long x5), (.int ((x0 >>> ((4 : Int32) &&& 31))))] [] (E_CM.ext O225.2) (rmEv101f l Z a0 hw b215 b217 k215 k217 x1 x3 x5 ((x0 >>> ((4 : Int32) &&& 31))) a_DM a_CM h224 O225 FF V227 V224 hc228) e236 rfl (by rw [hml]; rfl) pd_3 rfl (hb hby at_239) (Nat.le_of_ble_eq_true rfl) (Nat.le_of_ble_eq_true rfl) (Nat.le_of_ble_eq_true rfl) (Nat.le_of_ble_eq_true rfl) ?_
        rintro vv237 T237 L237 X237 Q237
        obtain ⟨b237, rfl, N237, K237, sz237, E237, Fs237, Fc237⟩ := Q237
        have M238 := Fr.app N226 N237
        have q237 : Z.heap.size ≤ b237 := Nat.le_trans O225.2.1 sz237
        have ne_b215_b237 : b215 ≠ b237 := Nat.ne_of_lt (Nat.lt_of_lt_of_le V227.lt sz237)
        have ne_b217_b237 : b217 ≠ b237 := Nat.ne_of_lt (Nat.lt_of_lt_of_le V224.lt sz237)
        have O239 := O225.keep K237 (all0)
        have V240 := V227.keep K237 (nin0)
        have V241 := V224.keep K237 (nin0)
        refine Go.astore X237 hx (hb hby at_242) rfl rfl #[.val (.int x0), .val (.int x1), .val (.int x2), .val (.int x3), .val (.int x4), .val (.long x5), .second, .val (.int (1 : Int32)), .val (.int (0 : Int32)), .val (.int (1 : Int32)), .val (.int ((x0 >>> ((4 : Int32) &&& 31)))), .val (.ref a_CM), .val (.ref b215), .val (.ref b217), .val (.long (0 : Int64)), .second, .val (.long ((0 : Int64) + (((x1).toInt64) - ((x3).toInt64)))), .second, .val (.long (1 : Int64)), .second, .val (.long (((0 : Int64) + (((x1).toInt64) - ((x3).toInt64))) + (0 : Int64))), .second, .val (.ref b237)] rfl ?_
        refine Go.aload X237 hx (hb hby at_244) rfl rfl rfl ?_
        refine Go.pureV X237 hx hZ hown (wd 33 rfl) (wd 34 rfl) (notFace_of_selects (args := #[]) (mvT hZ (wd 36 rfl))) (wd 36 rfl) (wd 35 rfl) (wd 11 rfl) (wd 37 rfl) (by decide) [] [] E237 (rmS l Z a0 hw b237 (0 : Int64) T237.heap Fs237) rfl rfl (by rw [hml]; rfl) pd_4 rfl (hb hby at_246) (Nat.le_of_ble_eq_true rfl) (Nat.le_of_ble_eq_true rfl) (Nat.le_of_ble_eq_true rfl) (Nat.le_of_ble_eq_true rfl) ?_
        intro T242 X242 e242
        refine Go.lload X242 hx (hb hby at_249) rfl rfl  ?_
        refine Go.lcmp X242 hx (hb hby at_251) rfl ?_
        refine Go.ifNo X242 hx (hb hby at_252) rfl ((if0 _ _).trans (teq ((lw_eq (0 : Int64) (0 : Int64)).mpr (by decide : (0 : Int64) = (0 : Int64)))).2) ?_
        refine Go.aload X242 hx (hb hby at_255) rfl rfl rfl ?_
        refine Go.pureV X242 hx hZ hown (wd 38 rfl) (wd 39 rfl) (notFace_of_selects (args := #[]) (mvT hZ (wd 41 rfl))) (wd 41 rfl) (wd 40 rfl) (wd 11 rfl) (wd 42 rfl) (by decide) [] [] E237 (rmC l Z a0 hw b237 (((0 : Int64) + (((x1).toInt64) - ((x3).toInt64))) + (0 : Int64)) T237.heap Fc237) e242 rfl (by rw [hml]; rfl) pd_4 rfl (hb hby at_257) (Nat.le_of_ble_eq_true rfl) (Nat.le_of_ble_eq_true rfl) (Nat.le_of_ble_eq_true rfl) (Nat.le_of_ble_eq_true rfl) ?_
        intro T243 X243 e243
        refine Go.lload X243 hx (hb hby at_260) rfl rfl  ?_
        refine Go.lcmp X243 hx (hb hby at_262) rfl ?_
        refine Go.ifNo X243 hx (hb hby at_263) rfl ((if0 _ _).trans (teq ((lw_eq (((0 : Int64) + (((x1).toInt64) - ((x3).toInt64))) + (0 : Int64)) (((0 : Int64) + (((x1).toInt64) - ((x3).toInt64))) + (0 : Int64))).mpr (rfl : (((0 : Int64) + (((x1).toInt64) - ((x3).toInt64))) + (0 : Int64)) = (((0 : Int64) + (((x1).toInt64) - ((x3).toInt64))) + (0 : Int64))))).2) ?_
        refine Go.iconst X243 hx (hb hby at_266) rfl (1 : Int32) rfl ?_
        refine Go.goto X243 hx (hb hby at_267) rfl 271 (by decide) (by decide) ?_
        exact Go.retZ X243 hx (z' := (1 : Int32)) hret hlk (hb hby at_271) rfl (by decide) ⟨by first | rfl | simp [hc1, hc228], M238⟩ (Nat.le_of_ble_eq_true rfl) (Nat.le_of_ble_eq_true rfl)
    · show Go p e below _ s₁ (mkF m 38 #[.val (.int x0), .val (.int x1), .val (.int x2), .val (.int x3), .val (.int x4), .val (.long x5), .second, .val (.int (1 : Int32)), .val (.int (0 : Int32)), .unset, .unset, .unset, .unset, .unset, .unset, .unset, .unset, .unset, .unset, .unset, .unset, .unset, .unset] [(.int (((((x0).toUInt32 >>> ((2 : Int32) &&& 31).toUInt32).toInt32) &&& (3 : Int32)) % (3 : Int32)))])
      rw [hk]
      refine Go.istore X0 hx (hb hby at_38) rfl  #[.val (.int x0), .val (.int x1), .val (.int x2), .val (.int x3), .val (.int x4), .val (.long x5), .second, .val (.int (1 : Int32)), .val (.int (0 : Int32)), .val (.int (2 : Int32)), .unset, .unset, .unset, .unset, .unset, .unset, .unset, .unset, .unset, .unset, .unset, .unset, .unset] rfl ?_
      refine Go.iloadN X0 hx (hb hby at_40) rfl rfl  ?_
      refine Go.iconst X0 hx (hb hby at_41) rfl (4 : Int32) rfl ?_
      refine Go.ishr X0 hx (hb hby at_42) rfl ?_
      refine Go.istore X0 hx (hb hby at_43) rfl  #[.val (.int x0), .val (.int x1), .val (.int x2), .val (.int x3), .val (.int x4), .val (.long x5), .second, .val (.int (1 : Int32)), .val (.int (0 : Int32)), .val (.int (2 : Int32)), .val (.int ((x0 >>> ((4 : Int32) &&& 31)))), .unset, .unset, .unset, .unset, .unset, .unset, .unset, .unset, .unset, .unset, .unset, .unset] rfl ?_
      refine Go.iload X0 hx (hb hby at_45) rfl rfl  ?_
      refine Go.ifNo X0 hx (hb hby at_47) rfl ((if0 _ _).trans (feq (by decide : ¬ ((1 : Int32) = (0 : Int32)))).1) ?_
      refine Go.getS X0 hx hZ hown (host := "") (Or.inl (wd 52 rfl)) Via.refl e0 (S_CM.ext O0.2) (hb hby at_50) rfl ?_
      intro T244 X244 e244
      refine Go.goto X244 hx (hb hby at_53) rfl 59 (by decide) (by decide) ?_
      refine Go.astore X244 hx (hb hby at_59) rfl rfl #[.val (.int x0), .val (.int x1), .val (.int x2), .val (.int x3), .val (.int x4), .val (.long x5), .second, .val (.int (1 : Int32)), .val (.int (0 : Int32)), .val (.int (2 : Int32)), .val (.int ((x0 >>> ((4 : Int32) &&& 31)))), .val (.ref a_CM), .unset, .unset, .unset, .unset, .unset, .unset, .unset, .unset, .unset, .unset, .unset] rfl ?_
      refine Go.iload X244 hx (hb hby at_61) rfl rfl  ?_
      refine Go.newP X244 hx hZ (wd 3 rfl) e244 2 (by decide) 2 (by decide) (by decide) (Nat.le_of_ble_eq_true rfl) (Nat.le_of_ble_eq_true rfl) "[I" (by decide) (hb hby at_63) rfl ?_
      intro T245 h245 b245 k245 g245 X245 e245 E245 V245' A245
      have V245 : Arv Z h245 b245 k245 .int (2 : Int32) [(.int (0 : Int32)), (.int (0 : Int32))] (.int (0 : Int32)) := V245'
      have q245 : Z.heap.size ≤ b245 := Nat.le_trans O0.2.1 (Nat.le_of_eq g245.symm)
      have O246 := O0.ext E245
      refine Go.astore X245 hx (hb hby at_65) rfl rfl #[.val (.int x0), .val (.int x1), .val (.int x2), .val (.int x3), .val (.int x4), .val (.long x5), .second, .val (.int (1 : Int32)), .val (.int (0 : Int32)), .val (.int (2 : Int32)), .val (.int ((x0 >>> ((4 : Int32) &&& 31)))), .val (.ref a_CM), .val (.ref b245), .unset, .unset, .unset, .unset, .unset, .unset, .unset, .unset, .unset, .unset] rfl ?_
      refine Go.iload X245 hx (hb hby at_67) rfl rfl  ?_
      refine Go.newP X245 hx hZ (wd 3 rfl) e245 2 (by decide) 2 (by decide) (by decide) (Nat.le_of_ble_eq_true rfl) (Nat.le_of_ble_eq_true rfl) "[I" (by decide) (hb hby at_69) rfl ?_
      intro T247 h247 b247 k247 g247 X247 e247 E247 V247' A247
      have V247 : Arv Z h247 b247 k247 .int (2 : Int32) [(.int (0 : Int32)), (.int (0 : Int32))] (.int (0 : Int32)) := V247'
      have q247 : Z.heap.size ≤ b247 := Nat.le_trans O246.2.1 (Nat.le_of_eq g247.symm)
      have ne_b245_b247 : b245 ≠ b247 := Nat.ne_of_lt (Nat.lt_of_lt_of_le V245.lt (Nat.le_of_eq g247.symm))
      have O248 := O246.ext E247
      have V249 := V245.ext E247
      refine Go.astore X247 hx (hb hby at_71) rfl rfl #[.val (.int x0), .val (.int x1), .val (.int x2), .val (.int x3), .val (.int x4), .val (.long x5), .second, .val (.int (1 : Int32)), .val (.int (0 : Int32)), .val (.int (2 : Int32)), .val (.int ((x0 >>> ((4 : Int32) &&& 31)))), .val (.ref a_CM), .val (.ref b245), .val (.ref b247), .unset, .unset, .unset, .unset, .unset, .unset, .unset, .unset, .unset] rfl ?_
      refine Go.iload X247 hx (hb hby at_73) rfl rfl  ?_
      refine Go.ifNo X247 hx (hb hby at_75) rfl ((if0 _ _).trans (tlt (by decide : (0 : Int32) < (2 : Int32))).2.2.2) ?_
      refine Go.aload X247 hx (hb hby at_78) rfl rfl rfl ?_
      refine Go.iconst X247 hx (hb hby at_80) rfl (0 : Int32) rfl ?_
      refine Go.iloadN X247 hx (hb hby at_81) rfl rfl  ?_
      refine Go.iastore X247 hx hZ V249 e247 ⟨by decide, by decide⟩ 0 (by decide) (Nat.le_of_ble_eq_true rfl)  (hb hby at_82) rfl ?_
      intro T250 h250 X250 e250 W250 V250'
      have V250 : Arv Z h250 b245 k245 .int (2 : Int32) [(.int x1), (.int (0 : Int32))] (.int (0 : Int32)) := V250'
      have O251 := O248.wr W250 q245
      have N252 := Fr.snoc X250 (Fr.nil _) q245
      have V253 := V247.other W250 (Ne.symm ne_b245_b247)
      refine Go.aload X250 hx (hb hby at_83) rfl rfl rfl ?_
      refine Go.iconst X250 hx (hb hby at_85) rfl (0 : Int32) rfl ?_
      refine Go.iloadN X250 hx (hb hby at_86) rfl rfl  ?_
      refine Go.iastore X250 hx hZ V253 e250 ⟨by decide, by decide⟩ 0 (by decide) (Nat.le_of_ble_eq_true rfl)  (hb hby at_87) rfl ?_
      intro T254 h254 X254 e254 W254 V254'
      have V254 : Arv Z h254 b247 k247 .int (2 : Int32) [(.int x3), (.int (0 : Int32))] (.int (0 : Int32)) := V254'
      have O255 := O251.wr W254 q247
      have N256 := Fr.snoc X254 N252 q247
      have V257 := V250.other W254 ne_b245_b247
      refine Go.iload X254 hx (hb hby at_88) rfl rfl  ?_
      refine Go.iconst X254 hx (hb hby at_90) rfl (1 : Int32) rfl ?_
      refine Go.icmpNo X254 hx (hb hby at_91) rfl (tlt (by decide : (1 : Int32) < (2 : Int32))).2.2.2 ?_
      refine Go.aload X254 hx (hb hby at_94) rfl rfl rfl ?_
      refine Go.iconst X254 hx (hb hby at_96) rfl (1 : Int32) rfl ?_
      refine Go.iloadN X254 hx (hb hby at_97) rfl rfl  ?_
      refine Go.iastore X254 hx hZ V257 e254 ⟨by decide, by decide⟩ 1 (by decide) (Nat.le_of_ble_eq_true rfl)  (hb hby at_98) rfl ?_
      intro T258 h258 X258 e258 W258 V258'
      have V258 : Arv Z h258 b245 k245 .int (2 : Int32) [(.int x1), (.int x2)] (.int (0 : Int32)) := V258'
      have O259 := O255.wr W258 q245
      have N260 := Fr.snoc X258 N256 q245
      have V261 := V254.other W258 (Ne.symm ne_b245_b247)
      refine Go.aload X258 hx (hb hby at_99) rfl rfl rfl ?_
      refine Go.iconst X258 hx (hb hby at_101) rfl (1 : Int32) rfl ?_
      refine Go.iload X258 hx (hb hby at_102) rfl rfl  ?_
      refine Go.iastore X258 hx hZ V261 e258 ⟨by decide, by decide⟩ 1 (by decide) (Nat.le_of_ble_eq_true rfl)  (hb hby at_104) rfl ?_
      intro T262 h262 X262 e262 W262 V262'
      have V262 : Arv Z h262 b247 k247 .int (2 : Int32) [(.int x3), (.int x4)] (.int (0 : Int32)) := V262'
      have O263 := O259.wr W262 q247
      have N264 := Fr.snoc X262 N260 q247
      have V265 := V258.other W262 ne_b245_b247
      refine Go.lconst X262 hx (hb hby at_105) rfl (0 : Int64) rfl ?_
      refine Go.lstore X262 hx (hb hby at_106) rfl  #[.val (.int x0), .val (.int x1), .val (.int x2), .val (.int x3), .val (.int x4), .val (.long x5), .second, .val (.int (1 : Int32)), .val (.int (0 : Int32)), .val (.int (2 : Int32)), .val (.int ((x0 >>> ((4 : Int32) &&& 31)))), .val (.ref a_CM), .val (.ref b245), .val (.ref b247), .val (.long (0 : Int64)), .second, .unset, .unset, .unset, .unset, .unset, .unset, .unset] rfl ?_
      refine Go.lconst X262 hx (hb hby at_108) rfl (0 : Int64) rfl ?_
      refine Go.lstore X262 hx (hb hby at_109) rfl  #[.val (.int x0), .val (.int x1), .val (.int x2), .val (.int x3), .val (.int x4), .val (.long x5), .second, .val (.int (1 : Int32)), .val (.int (0 : Int32)), .val (.int (2 : Int32)), .val (.int ((x0 >>> ((4 : Int32) &&& 31)))), .val (.ref a_CM), .val (.ref b245), .val (.ref b247), .val (.long (0 : Int64)), .second, .val (.long (0 : Int64)), .second, .unset, .unset, .unset, .unset, .unset] rfl ?_
      refine Go.iload X262 hx (hb hby at_111) rfl rfl  ?_
      refine Go.ifNo X262 hx (hb hby at_113) rfl ((if0 _ _).trans (tlt (by decide : (0 : Int32) < (2 : Int32))).2.2.2) ?_
      refine Go.iloadN X262 hx (hb hby at_116) rfl rfl  ?_
      refine Go.iload X262 hx (hb hby at_117) rfl rfl  ?_
      by_cases hc266 : x1 < ((x0 >>> ((4 : Int32) &&& 31)))
      · refine Go.icmpNo X262 hx (hb hby at_119) rfl (tlt hc266).2.1 ?_
        refine Go.lload X262 hx (hb hby at_122) rfl rfl  ?_
        refine Go.iloadN X262 hx (hb hby at_124) rfl rfl  ?_
        refine Go.i2l X262 hx (hb hby at_125) rfl ?_
        refine Go.ladd X262 hx (hb hby at_126) rfl ?_
        refine Go.lstore X262 hx (hb hby at_127) rfl  #[.val (.int x0), .val (.int x1), .val (.int x2), .val (.int x3), .val (.int x4), .val (.long x5), .second, .val (.int (1 : Int32)), .val (.int (0 : Int32)), .val (.int (2 : Int32)), .val (.int ((x0 >>> ((4 : Int32) &&& 31)))), .val (.ref a_CM), .val (.ref b245), .val (.ref b247), .val (.long ((0 : Int64) + ((x1).toInt64))), .second, .val (.long (0 : Int64)), .second, .unset, .unset, .unset, .unset, .unset] rfl ?_
        refine Go.goto X262 hx (hb hby at_129) rfl 153 (by decide) (by decide) ?_
        refine Go.iload X262 hx (hb hby at_153) rfl rfl  ?_
        refine Go.iconst X262 hx (hb hby at_155) rfl (1 : Int32) rfl ?_
        refine Go.icmpNo X262 hx (hb hby at_156) rfl (tlt (by decide : (1 : Int32) < (2 : Int32))).2.2.2 ?_
        refine Go.iloadN X262 hx (hb hby at_159) rfl rfl  ?_
        refine Go.iload X262 hx (hb hby at_160) rfl rfl  ?_
        by_cases hc267 : x2 < ((x0 >>> ((4 : Int32) &&& 31)))
        · refine Go.icmpNo X262 hx (hb hby at_162) rfl (tlt hc267).2.1 ?_
          refine Go.lload X262 hx (hb hby at_165) rfl rfl  ?_
          refine Go.iloadN X262 hx (hb hby at_167) rfl rfl  ?_
          refine Go.i2l X262 hx (hb hby at_168) rfl ?_
          refine Go.ladd X262 hx (hb hby at_169) rfl ?_
          refine Go.lstore X262 hx (hb hby at_170) rfl  #[.val (.int x0), .val (.int x1), .val (.int x2), .val (.int x3), .val (.int x4), .val (.long x5), .second, .val (.int (1 : Int32)), .val (.int (0 : Int32)), .val (.int (2 : Int32)), .val (.int ((x0 >>> ((4 : Int32) &&& 31)))), .val (.ref a_CM), .val (.ref b245), .val (.ref b247), .val (.long (((0 : Int64) + ((x1).toInt64)) + ((x2).toInt64))), .second, .val (.long (0 : Int64)), .second, .unset, .unset, .unset, .unset, .unset] rfl ?_
          refine Go.goto X262 hx (hb hby at_172) rfl 197 (by decide) (by decide) ?_
          refine Go.iload X262 hx (hb hby at_197) rfl rfl  ?_
          refine Go.ifNo X262 hx (hb hby at_199) rfl ((if0 _ _).trans (feq (by decide : ¬ ((1 : Int32) = (0 : Int32)))).1) ?_
          refine Go.lconst X262 hx (hb hby at_202) rfl (1 : Int64) rfl ?_
          refine Go.goto X262 hx (hb hby at_203) rfl 208 (by decide) (by decide) ?_
          refine Go.lstore X262 hx (hb hby at_208) rfl  #[.val (.int x0), .val (.int x1), .val (.int x2), .val (.int x3), .val (.int x4), .val (.long x5), .second, .val (.int (1 : Int32)), .val (.int (0 : Int32)), .val (.int (2 : Int32)), .val (.int ((x0 >>> ((4 : Int32) &&& 31)))), .val (.ref a_CM), .val (.ref b245), .val (.ref b247), .val (.long (((0 : Int64) + ((x1).toInt64)) + ((x2).toInt64))), .second, .val (.long (0 : Int64)), .second, .val (.long (1 : Int64)), .second, .unset, .unset, .unset] rfl ?_
          refine Go.lload X262 hx (hb hby at_210) rfl rfl  ?_
          refine Go.lload X262 hx (hb hby at_212) rfl rfl  ?_
          refine Go.lload X262 hx (hb hby at_214) rfl rfl  ?_
          refine Go.lmul X262 hx (hb hby at_216) rfl ?_
          refine Go.ladd X262 hx (hb hby at_217) rfl ?_
          refine Go.lstore X262 hx (hb hby at_218) rfl  #[.val (.int x0), .val (.int x1), .val (.int x2), .val (.int x3), .val (.int x4), .val (.long x5), .second, .val (.int (1 : Int32)), .val (.int (0 : Int32)), .val (.int (2 : Int32)), .val (.int ((x0 >>> ((4 : Int32) &&& 31)))), .val (.ref a_CM), .val (.ref b245), .val (.ref b247), .val (.long (((0 : Int64) + ((x1).toInt64)) + ((x2).toInt64))), .second, .val (.long (0 : Int64)), .second, .val (.long (1 : Int64)), .second, .val (.long ((0 : Int64) + ((((0 : Int64) + ((x1).toInt64)) + ((x2).toInt64)) * (1 : Int64)))), .second, .unset] rfl ?_
          refine Go.aload X262 hx (hb hby at_220) rfl rfl rfl ?_
          refine Go.aload X262 hx (hb hby at_222) rfl rfl rfl ?_
          refine Go.iload X262 hx (hb hby at_224) rfl rfl  ?_
          refine Go.ifYes X262 hx (hb hby at_226) rfl 233 ((if0 _ _).trans (teq (by decide : (0 : Int32) = (0 : Int32))).1) (by decide) (by decide) ?_
          refine Go.aload X262 hx (hb hby at_233) rfl rfl rfl ?_
          refine Go.lload X262 hx (hb hby at_235) rfl rfl  ?_
          refine Go.iload X262 hx (hb hby at_237) rfl rfl  ?_
          refine Go.callV X262 hx hZ hown (wd 4 rfl) (wd 5 rfl) (notFace_of_selects (args := #[]) (mvT hZ (wd 54 rfl))) (wd 54 rfl) (wd 6 rfl) (wd 1 rfl) (wd 8 rfl) (by decide) [(.ref b245), (.ref b247), (.long x5), (.int ((x0 >>> ((4 : Int32) &&& 31))))] [] (E_CM.ext O263.2) (rmEv102tt l Z a0 hw b245 b247 k245 k247 x1 x2 x3 x4 x5 ((x0 >>> ((4 : Int32) &&& 31))) a_DM a_CM h262 O263 FF V265 V262 hc266 hc267) e262 rfl (by rw [hml]; rfl) pd_3 rfl (hb hby at_239) (Nat.le_of_ble_eq_true rfl) (Nat.le_of_ble_eq_true rfl) (Nat.le_of_ble_eq_true rfl) (Nat.le_of_ble_eq_true rfl) ?_
          rintro vv268 T268 L268 X268 Q268
          obtain ⟨b268, rfl, N268, K268, sz268, E268, Fs268, Fc268⟩ := Q268
          have M269 := Fr.app N264 N268
          have q268 : Z.heap.size ≤ b268 := Nat.le_trans O263.2.1 sz268
          have ne_b245_b268 : b245 ≠ b268 := Nat.ne_of_lt (Nat.lt_of_lt_of_le V265.lt sz268)
          have ne_b247_b268 : b247 ≠ b268 := Nat.ne_of_lt (Nat.lt_of_lt_of_le V262.lt sz268)
          have O270 := O263.keep K268 (all0)
          have V271 := V265.keep K268 (nin0)
          have V272 := V262.keep K268 (nin0)
          refine Go.astore X268 hx (hb hby at_242) rfl rfl #[.val (.int x0), .val (.int x1), .val (.int x2), .val (.int x3), .val (.int x4), .val (.long x5), .second, .val (.int (1 : Int32)), .val (.int (0 : Int32)), .val (.int (2 : Int32)), .val (.int ((x0 >>> ((4 : Int32) &&& 31)))), .val (.ref a_CM), .val (.ref b245), .val (.ref b247), .val (.long (((0 : Int64) + ((x1).toInt64)) + ((x2).toInt64))), .second, .val (.long (0 : Int64)), .second, .val (.long (1 : Int64)), .second, .val (.long ((0 : Int64) + ((((0 : Int64) + ((x1).toInt64)) + ((x2).toInt64)) * (1 : Int64)))), .second, .val (.ref b268)] rfl ?_
          refine Go.aload X268 hx (hb hby at_244) rfl rfl rfl ?_
          refine Go.pureV X268 hx hZ hown (wd 33 rfl) (wd 34 rfl) (notFace_of_selects (args := #[]) (mvT hZ (wd 36 rfl))) (wd 36 rfl) (wd 35 rfl) (wd 11 rfl) (wd 37 rfl) (by decide) [] [] E268 (rmS l Z a0 hw b268 (((0 : Int64) + ((x1).toInt64)) + ((x2).toInt64)) T268.heap Fs268) rfl rfl (by rw [hml]; rfl) pd_4 rfl (hb hby at_246) (Nat.le_of_ble_eq_true rfl) (Nat.le_of_ble_eq_true rfl) (Nat.le_of_ble_eq_true rfl) (Nat.le_of_ble_eq_true rfl) ?_
          intro T273 X273 e273
          refine Go.lload X273 hx (hb hby at_249) rfl rfl  ?_
          refine Go.lcmp X273 hx (hb hby at_251) rfl ?_
          refine Go.ifNo X273 hx (hb hby at_252) rfl ((if0 _ _).trans (teq ((lw_eq (((0 : Int64) + ((x1).toInt64)) + ((x2).toInt64)) (((0 : Int64) + ((x1).toInt64)) + ((x2).toInt64))).mpr (rfl : (((0 : Int64) + ((x1).toInt64)) + ((x2).toInt64)) = (((0 : Int64) + ((x1).toInt64)) + ((x2).toInt64))))).2) ?_
          refine Go.aload X273 hx (hb hby at_255) rfl rfl rfl ?_
          refine Go.pureV X273 hx hZ hown (wd 38 rfl) (wd 39 rfl) (notFace_of_selects (args := #[]) (mvT hZ (wd 41 rfl))) (wd 41 rfl) (wd 40 rfl) (wd 11 rfl) (wd 42 rfl) (by decide) [] [] E268 (rmC l Z a0 hw b268 ((0 : Int64) + ((((0 : Int64) + ((x1).toInt64)) + ((x2).toInt64)) * (1 : Int64))) T268.heap Fc268) e273 rfl (by rw [hml]; rfl) pd_4 rfl (hb hby at_257) (Nat.le_of_ble_eq_true rfl) (Nat.le_of_ble_eq_true rfl) (Nat.le_of_ble_eq_true rfl) (Nat.le_of_ble_eq_true rfl) ?_
          intro T274 X274 e274
          refine Go.lload X274 hx (hb hby at_260) rfl rfl  ?_
          refine Go.lcmp X274 hx (hb hby at_262) rfl ?_
          refine Go.ifNo X274 hx (hb hby at_263) rfl ((if0 _ _).trans (teq ((lw_eq ((0 : Int64) + ((((0 : Int64) + ((x1).toInt64)) + ((x2).toInt64)) * (1 : Int64))) ((0 : Int64) + ((((0 : Int64) + ((x1).toInt64)) + ((x2).toInt64)) * (1 : Int64)))).mpr (rfl : ((0 : Int64) + ((((0 : Int64) + ((x1).toInt64)) + ((x2).toInt64)) * (1 : Int64))) = ((0 : Int64) + ((((0 : Int64) + ((x1).toInt64)) + ((x2).toInt64)) * (1 : Int64)))))).2) ?_
          refine Go.iconst X274 hx (hb hby at_266) rfl (1 : Int32) rfl ?_
          refine Go.goto X274 hx (hb hby at_267) rfl 271 (by decide) (by decide) ?_
          exact Go.retZ X274 hx (z' := (1 : Int32)) hret hlk (hb hby at_271) rfl (by decide) ⟨by first | rfl | simp [hc1, hc266, hc267], M269⟩ (Nat.le_of_ble_eq_true rfl) (Nat.le_of_ble_eq_true rfl)
        · refine Go.icmpYes X262 hx (hb hby at_162) rfl 175 (flt hc267).2.1 (by decide) (by decide) ?_
          refine Go.lload X262 hx (hb hby at_175) rfl rfl  ?_
          refine Go.iload X262 hx (hb hby at_177) rfl rfl  ?_
          refine Go.iloadN X262 hx (hb hby at_179) rfl rfl  ?_
          refine Go.iload X262 hx (hb hby at_180) rfl rfl  ?_
          refine Go.ifYes X262 hx (hb hby at_182) rfl 189 ((if0 _ _).trans (teq (by decide : (0 : Int32) = (0 : Int32))).1) (by decide) (by decide) ?_
          refine Go.iload X262 hx (hb hby at_189) rfl rfl  ?_
          refine Go.pureS X262 hx hZ hown (wd 43 rfl) (wd 44 rfl) (wd 45 rfl) (wd 46 rfl) (by decide) [(.int (1 : Int32)), (.int x2), (.int x4)] [(.long (0 : Int64))] (rmP1 l Z a0 hw x2 x4 h262) e262 rfl (by rw [hml]; rfl) pd_5 rfl (hb hby at_191) (Nat.le_of_ble_eq_true rfl) (Nat.le_of_ble_eq_true rfl) (Nat.le_of_ble_eq_true rfl) (Nat.le_of_ble_eq_true rfl) ?_
          intro T275 X275 e275
          refine Go.ladd X275 hx (hb hby at_194) rfl ?_
          refine Go.lstore X275 hx (hb hby at_195) rfl  #[.val (.int x0), .val (.int x1), .val (.int x2), .val (.int x3), .val (.int x4), .val (.long x5), .second, .val (.int (1 : Int32)), .val (.int (0 : Int32)), .val (.int (2 : Int32)), .val (.int ((x0 >>> ((4 : Int32) &&& 31)))), .val (.ref a_CM), .val (.ref b245), .val (.ref b247), .val (.long ((0 : Int64) + ((x1).toInt64))), .second, .val (.long ((0 : Int64) + (((x2).toInt64) - ((x4).toInt64)))), .second, .unset, .unset, .unset, .unset, .unset] rfl ?_
          refine Go.iload X275 hx (hb hby at_197) rfl rfl  ?_
          refine Go.ifNo X275 hx (hb hby at_199) rfl ((if0 _ _).trans (feq (by decide : ¬ ((1 : Int32) = (0 : Int32)))).1) ?_
          refine Go.lconst X275 hx (hb hby at_202) rfl (1 : Int64) rfl ?_
          refine Go.goto X275 hx (hb hby at_203) rfl 208 (by decide) (by decide) ?_
          refine Go.lstore X275 hx (hb hby at_208) rfl  #[.val (.int x0), .val (.int x1), .val (.int x2), .val (.int x3), .val (.int x4), .val (.long x5), .second, .val (.int (1 : Int32)), .val (.int (0 : Int32)), .val (.int (2 : Int32)), .val (.int ((x0 >>> ((4 : Int32) &&& 31)))), .val (.ref a_CM), .val (.ref b245), .val (.ref b247), .val (.long ((0 : Int64) + ((x1).toInt64))), .second, .val (.long ((0 : Int64) + (((x2).toInt64) - ((x4).toInt64)))), .second, .val (.long (1 : Int64)), .second, .unset, .unset, .unset] rfl ?_
          refine Go.lload X275 hx (hb hby at_210) rfl rfl  ?_
          refine Go.lload X275 hx (hb hby at_212) rfl rfl  ?_
          refine Go.lload X275 hx (hb hby at_214) rfl rfl  ?_
          refine Go.lmul X275 hx (hb hby at_216) rfl ?_
          refine Go.ladd X275 hx (hb hby at_217) rfl ?_
          refine Go.lstore X275 hx (hb hby at_218) rfl  #[.val (.int x0), .val (.int x1), .val (.int x2), .val (.int x3), .val (.int x4), .val (.long x5), .second, .val (.int (1 : Int32)), .val (.int (0 : Int32)), .val (.int (2 : Int32)), .val (.int ((x0 >>> ((4 : Int32) &&& 31)))), .val (.ref a_CM), .val (.ref b245), .val (.ref b247), .val (.long ((0 : Int64) + ((x1).toInt64))), .second, .val (.long ((0 : Int64) + (((x2).toInt64) - ((x4).toInt64)))), .second, .val (.long (1 : Int64)), .second, .val (.long (((0 : Int64) + (((x2).toInt64) - ((x4).toInt64))) + (((0 : Int64) + ((x1).toInt64)) * (1 : Int64)))), .second, .unset] rfl ?_
          refine Go.aload X275 hx (hb hby at_220) rfl rfl rfl ?_
          refine Go.aload X275 hx (hb hby at_222) rfl rfl rfl ?_
          refine Go.iload X275 hx (hb hby at_224) rfl rfl  ?_
          refine Go.ifYes X275 hx (hb hby at_226) rfl 233 ((if0 _ _).trans (teq (by decide : (0 : Int32) = (0 : Int32))).1) (by decide) (by decide) ?_
          refine Go.aload X275 hx (hb hby at_233) rfl rfl rfl ?_
          refine Go.lload X275 hx (hb hby at_235) rfl rfl  ?_
          refine Go.iload X275 hx (hb hby at_237) rfl rfl  ?_
          refine Go.callV X275 hx hZ hown (wd 4 rfl) (wd 5 rfl) (notFace_of_selects (args := #[]) (mvT hZ (wd 54 rfl))) (wd 54 rfl) (wd 6 rfl) (wd 1 rfl) (wd 8 rfl) (by decide) [(.ref b245), (.ref b247), (.long x5), (.int ((x0 >>> ((4 : Int32) &&& 31))))] [] (E_CM.ext O263.2) (rmEv102tf l Z a0 hw b245 b247 k245 k247 x1 x2 x3 x4 x5 ((x0 >>> ((4 : Int32) &&& 31))) a_DM a_CM h262 O263 FF V265 V262 hc266 hc267) e275 rfl (by rw [hml]; rfl) pd_3 rfl (hb hby at_239) (Nat.le_of_ble_eq_true rfl) (Nat.le_of_ble_eq_true rfl) (Nat.le_of_ble_eq_true rfl) (Nat.le_of_ble_eq_true rfl) ?_
          rintro vv276 T276 L276 X276 Q276
          obtain ⟨b276, rfl, N276, K276, sz276, E276, Fs276, Fc276⟩ := Q276
          have M277 := Fr.app N264 N276
          have q276 : Z.heap.size ≤ b276 := Nat.le_trans O263.2.1 sz276
          have ne_b245_b276 : b245 ≠ b276 := Nat.ne_of_lt (Nat.lt_of_lt_of_le V265.lt sz276)
          have ne_b247_b276 : b247 ≠ b276 := Nat.ne_of_lt (Nat.lt_of_lt_of_le V262.lt sz276)
          have O278 := O263.keep K276 (all0)
          have V279 := V265.keep K276 (nin0)
          have V280 := V262.keep K276 (nin0)
          refine Go.astore X276 hx (hb hby at_242) rfl rfl #[.val (.int x0), .val (.int x1), .val (.int x2), .val (.int x3), .val (.int x4), .val (.long x5), .second, .val (.int (1 : Int32)), .val (.int (0 : Int32)), .val (.int (2 : Int32)), .val (.int ((x0 >>> ((4 : Int32) &&& 31)))), .val (.ref a_CM), .val (.ref b245), .val (.ref b247), .val (.long ((0 : Int64) + ((x1).toInt64))), .second, .val (.long ((0 : Int64) + (((x2).toInt64) - ((x4).toInt64)))), .second, .val (.long (1 : Int64)), .second, .val (.long (((0 : Int64) + (((x2).toInt64) - ((x4).toInt64))) + (((0 : Int64) + ((x1).toInt64)) * (1 : Int64)))), .second, .val (.ref b276)] rfl ?_
          refine Go.aload X276 hx (hb hby at_244) rfl rfl rfl ?_
          refine Go.pureV X276 hx hZ hown (wd 33 rfl) (wd 34 rfl) (notFace_of_selects (args := #[]) (mvT hZ (wd 36 rfl))) (wd 36 rfl) (wd 35 rfl) (wd 11 rfl) (wd 37 rfl) (by decide) [] [] E276 (rmS l Z a0 hw b276 ((0 : Int64) + ((x1).toInt64)) T276.heap Fs276) rfl rfl (by rw [hml]; rfl) pd_4 rfl (hb hby at_246) (Nat.le_of_ble_eq_true rfl) (Nat.le_of_ble_eq_true rfl) (Nat.le_of_ble_eq_true rfl) (Nat.le_of_ble_eq_true rfl) ?_
          intro T281 X281 e281
          refine Go.lload X281 hx (hb hby at_249) rfl rfl  ?_
          refine Go.lcmp X281 hx (hb hby at_251) rfl ?_
          refine Go.ifNo X281 hx (hb hby at_252) rfl ((if0 _ _).trans (teq ((lw_eq ((0 : Int64) + ((x1).toInt64)) ((0 : Int64) + ((x1).toInt64))).mpr (rfl : ((0 : Int64) + ((x1).toInt64)) = ((0 : Int64) + ((x1).toInt64))))).2) ?_
          refine Go.aload X281 hx (hb hby at_255) rfl rfl rfl ?_
          refine Go.pureV X281 hx hZ hown (wd 38 rfl) (wd 39 rfl) (notFace_of_selects (args := #[]) (mvT hZ (wd 41 rfl))) (wd 41 rfl) (wd 40 rfl) (wd 11 rfl) (wd 42 rfl) (by decide) [] [] E276 (rmC l Z a0 hw b276 (((0 : Int64) + (((x2).toInt64) - ((x4).toInt64))) + (((0 : Int64) + ((x1).toInt64)) * (1 : Int64))) T276.heap Fc276) e281 rfl (by rw [hml]; rfl) pd_4 rfl (hb hby at_257) (Nat.le_of_ble_eq_true rfl) (Nat.le_of_ble_eq_true rfl) (Nat.le_of_ble_eq_true rfl) (Nat.le_of_ble_eq_true rfl) ?_
          intro T282 X282 e282
          refine Go.lload X282 hx (hb hby at_260) rfl rfl  ?_
          refine Go.lcmp X282 hx (hb hby at_262) rfl ?_
          refine Go.ifNo X282 hx (hb hby at_263) rfl ((if0 _ _).trans (teq ((lw_eq (((0 : Int64) + (((x2).toInt64) - ((x4).toInt64))) + (((0 : Int64) + ((x1).toInt64)) * (1 : Int64))) (((0 : Int64) + (((x2).toInt64) - ((x4).toInt64))) + (((0 : Int64) + ((x1).toInt64)) * (1 : Int64)))).mpr (rfl : (((0 : Int64) + (((x2).toInt64) - ((x4).toInt64))) + (((0 : Int64) + ((x1).toInt64)) * (1 : Int64))) = (((0 : Int64) + (((x2).toInt64) - ((x4).toInt64))) + (((0 : Int64) + ((x1).toInt64)) * (1 : Int64)))))).2) ?_
          refine Go.iconst X282 hx (hb hby at_266) rfl (1 : Int32) rfl ?_
          refine Go.goto X282 hx (hb hby at_267) rfl 271 (by decide) (by decide) ?_
          exact Go.retZ X282 hx (z' := (1 : Int32)) hret hlk (hb hby at_271) rfl (by decide) ⟨by first | rfl | simp [hc1, hc266, hc267], M277⟩ (Nat.le_of_ble_eq_true rfl) (Nat.le_of_ble_eq_true rfl)
      · refine Go.icmpYes X262 hx (hb hby at_119) rfl 132 (flt hc266).2.1 (by decide) (by decide) ?_
        refine Go.lload X262 hx (hb hby at_132) rfl rfl  ?_
        refine Go.iload X262 hx (hb hby at_134) rfl rfl  ?_
        refine Go.iloadN X262 hx (hb hby at_136) rfl rfl  ?_
        refine Go.iload X262 hx (hb hby at_137) rfl rfl  ?_
        refine Go.ifYes X262 hx (hb hby at_139) rfl 146 ((if0 _ _).trans (teq (by decide : (0 : Int32) = (0 : Int32))).1) (by decide) (by decide) ?_
        refine Go.iloadN X262 hx (hb hby at_146) rfl rfl  ?_
        refine Go.pureS X262 hx hZ hown (wd 43 rfl) (wd 44 rfl) (wd 45 rfl) (wd 46 rfl) (by decide) [(.int (1 : Int32)), (.int x1), (.int x3)] [(.long (0 : Int64))] (rmP1 l Z a0 hw x1 x3 h262) e262 rfl (by rw [hml]; rfl) pd_5 rfl (hb hby at_147) (Nat.le_of_ble_eq_true rfl) (Nat.le_of_ble_eq_true rfl) (Nat.le_of_ble_eq_true rfl) (Nat.le_of_ble_eq_true rfl) ?_
        intro T283 X283 e283
        refine Go.ladd X283 hx (hb hby at_150) rfl ?_
        refine Go.lstore X283 hx (hb hby at_151) rfl  #[.val (.int x0), .val (.int x1), .val (.int x2), .val (.int x3), .val (.int x4), .val (.long x5), .second, .val (.int (1 : Int32)), .val (.int (0 : Int32)), .val (.int (2 : Int32)), .val (.int ((x0 >>> ((4 : Int32) &&& 31)))), .val (.ref a_CM), .val (.ref b245), .val (.ref b247), .val (.long (0 : Int64)), .second, .val (.long ((0 : Int64) + (((x1).toInt64) - ((x3).toInt64)))), .second, .unset, .unset, .unset, .unset, .unset] rfl ?_
        refine Go.iload X283 hx (hb hby at_153) rfl rfl  ?_
        refine Go.iconst X283 hx (hb hby at_155) rfl (1 : Int32) rfl ?_
        refine Go.icmpNo X283 hx (hb hby at_156) rfl (tlt (by decide : (1 : Int32) < (2 : Int32))).2.2.2 ?_
        refine Go.iloadN X283 hx (hb hby at_159) rfl rfl  ?_
        refine Go.iload X283 hx (hb hby at_160) rfl rfl  ?_
        by_cases hc284 : x2 < ((x0 >>> ((4 : Int32) &&& 31)))
        · refine Go.icmpNo X283 hx (hb hby at_162) rfl (tlt hc284).2.1 ?_
          refine Go.lload X283 hx (hb hby at_165) rfl rfl  ?_
          refine Go.iloadN X283 hx (hb hby at_167) rfl rfl  ?_
          refine Go.i2l X283 hx (hb hby at_168) rfl ?_
          refine Go.ladd X283 hx (hb hby at_169) rfl ?_
          refine Go.lstore X283 hx (hb hby at_170) rfl  #[.val (.int x0), .val (.int x1), .val (.int x2), .val (.int x3), .val (.int x4), .val (.long x5), .second, .val (.int (1 : Int32)), .val (.int (0 : Int32)), .val (.int (2 : Int32)), .val (.int ((x0 >>> ((4 : Int32) &&& 31)))), .val (.ref a_CM), .val (.ref b245), .val (.ref b247), .val (.long ((0 : Int64) + ((x2).toInt64))), .second, .val (.long ((0 : Int64) + (((x1).toInt64) - ((x3).toInt64)))), .second, .unset, .unset, .unset, .unset, .unset] rfl ?_
          refine Go.goto X283 hx (hb hby at_172) rfl 197 (by decide) (by decide) ?_
          refine Go.iload X283 hx (hb hby at_197) rfl rfl  ?_
          refine Go.ifNo X283 hx (hb hby at_199) rfl ((if0 _ _).trans (feq (by decide : ¬ ((1 : Int32) = (0 : Int32)))).1) ?_
          refine Go.lconst X283 hx (hb hby at_202) rfl (1 : Int64) rfl ?_
          refine Go.goto X283 hx (hb hby at_203) rfl 208 (by decide) (by decide) ?_
          refine Go.lstore X283 hx (hb hby at_208) rfl  #[.val (.int x0), .val (.int x1), .val (.int x2), .val (.int x3), .val (.int x4), .val (.long x5), .second, .val (.int (1 : Int32)), .val (.int (0 : Int32)), .val (.int (2 : Int32)), .val (.int ((x0 >>> ((4 : Int32) &&& 31)))), .val (.ref a_CM), .val (.ref b245), .val (.ref b247), .val (.long ((0 : Int64) + ((x2).toInt64))), .second, .val (.long ((0 : Int64) + (((x1).toInt64) - ((x3).toInt64)))), .second, .val (.long (1 : Int64)), .second, .unset, .unset, .unset] rfl ?_
          refine Go.lload X283 hx (hb hby at_210) rfl rfl  ?_
          refine Go.lload X283 hx (hb hby at_212) rfl rfl  ?_
          refine Go.lload X283 hx (hb hby at_214) rfl rfl  ?_
          refine Go.lmul X283 hx (hb hby at_216) rfl ?_
          refine Go.ladd X283 hx (hb hby at_217) rfl ?_
          refine Go.lstore X283 hx (hb hby at_218) rfl  #[.val (.int x0), .val (.int x1), .val (.int x2), .val (.int x3), .val (.int x4), .val (.long x5), .second, .val (.int (1 : Int32)), .val (.int (0 : Int32)), .val (.int (2 : Int32)), .val (.int ((x0 >>> ((4 : Int32) &&& 31)))), .val (.ref a_CM), .val (.ref b245), .val (.ref b247), .val (.long ((0 : Int64) + ((x2).toInt64))), .second, .val (.long ((0 : Int64) + (((x1).toInt64) - ((x3).toInt64)))), .second, .val (.long (1 : Int64)), .second, .val (.long (((0 : Int64) + (((x1).toInt64) - ((x3).toInt64))) + (((0 : Int64) + ((x2).toInt64)) * (1 : Int64)))), .second, .unset] rfl ?_
          refine Go.aload X283 hx (hb hby at_220) rfl rfl rfl ?_
          refine Go.aload X283 hx (hb hby at_222) rfl rfl rfl ?_
          refine Go.iload X283 hx (hb hby at_224) rfl rfl  ?_
          refine Go.ifYes X283 hx (hb hby at_226) rfl 233 ((if0 _ _).trans (teq (by decide : (0 : Int32) = (0 : Int32))).1) (by decide) (by decide) ?_
          refine Go.aload X283 hx (hb hby at_233) rfl rfl rfl ?_
          refine Go.lload X283 hx (hb hby at_235) rfl rfl  ?_
          refine Go.iload X283 hx (hb hby at_237) rfl rfl  ?_
          refine Go.callV X283 hx hZ hown (wd 4 rfl) (wd 5 rfl) (notFace_of_selects (args := #[]) (mvT hZ (wd 54 rfl))) (wd 54 rfl) (wd 6 rfl) (wd 1 rfl) (wd 8 rfl) (by decide) [(.ref b245), (.ref b247), (.long x5), (.int ((x0 >>> ((4 : Int32) &&& 31))))] [] (E_CM.ext O263.2) (rmEv102ft l Z a0 hw b245 b247 k245 k247 x1 x2 x3 x4 x5 ((x0 >>> ((4 : Int32) &&& 31))) a_DM a_CM h262 O263 FF V265 V262 hc266 hc284) e283 rfl (by rw [hml]; rfl) pd_3 rfl (hb hby at_239) (Nat.le_of_ble_eq_true rfl) (Nat.le_of_ble_eq_true rfl) (Nat.le_of_ble_eq_true rfl) (Nat.le_of_ble_eq_true rfl) ?_
          rintro vv285 T285 L285 X285 Q285
          obtain ⟨b285, rfl, N285, K285, sz285, E285, Fs285, Fc285⟩ := Q285
          have M286 := Fr.app N264 N285
          have q285 : Z.heap.size ≤ b285 := Nat.le_trans O263.2.1 sz285
          have ne_b245_b285 : b245 ≠ b285 := Nat.ne_of_lt (Nat.lt_of_lt_of_le V265.lt sz285)
          have ne_b247_b285 : b247 ≠ b285 := Nat.ne_of_lt (Nat.lt_of_lt_of_le V262.lt sz285)
          have O287 := O263.keep K285 (all0)
          have V288 := V265.keep K285 (nin0)
          have V289 := V262.keep K285 (nin0)
          refine Go.astore X285 hx (hb hby at_242) rfl rfl #[.val (.int x0), .val (.int x1), .val (.int x2), .val (.int x3), .val (.int x4), .val (.long x5), .second, .val (.int (1 : Int32)), .val (.int (0 : Int32)), .val (.int (2 : Int32)), .val (.int ((x0 >>> ((4 : Int32) &&& 31)))), .val (.ref a_CM), .val (.ref b245), .val (.ref b247), .val (.long ((0 : Int64) + ((x2).toInt64))), .second, .val (.long ((0 : Int64) + (((x1).toInt64) - ((x3).toInt64)))), .second, .val (.long (1 : Int64)), .second, .val (.long (((0 : Int64) + (((x1).toInt64) - ((x3).toInt64))) + (((0 : Int64) + ((x2).toInt64)) * (1 : Int64)))), .second, .val (.ref b285)] rfl ?_
          refine Go.aload X285 hx (hb hby at_244) rfl rfl rfl ?_
          refine Go.pureV X285 hx hZ hown (wd 33 rfl) (wd 34 rfl) (notFace_of_selects (args := #[]) (mvT hZ (wd 36 rfl))) (wd 36 rfl) (wd 35 rfl) (wd 11 rfl) (wd 37 rfl) (by decide) [] [] E285 (rmS l Z a0 hw b285 ((0 : Int64) + ((x2).toInt64)) T285.heap Fs285) rfl rfl (by rw [hml]; rfl) pd_4 rfl (hb hby at_246) (Nat.le_of_ble_eq_true rfl) (Nat.le_of_ble_eq_true rfl) (Nat.le_of_ble_eq_true rfl) (Nat.le_of_ble_eq_true rfl) ?_
          intro T290 X290 e290
          refine Go.lload X290 hx (hb hby at_249) rfl rfl  ?_
          refine Go.lcmp X290 hx (hb hby at_251) rfl ?_
          refine Go.ifNo X290 hx (hb hby at_252) rfl ((if0 _ _).trans (teq ((lw_eq ((0 : Int64) + ((x2).toInt64)) ((0 : Int64) + ((x2).toInt64))).mpr (rfl : ((0 : Int64) + ((x2).toInt64)) = ((0 : Int64) + ((x2).toInt64))))).2) ?_
          refine Go.aload X290 hx (hb hby at_255) rfl rfl rfl ?_
          refine Go.pureV X290 hx hZ hown (wd 38 rfl) (wd 39 rfl) (notFace_of_selects (args := #[]) (mvT hZ (wd 41 rfl))) (wd 41 rfl) (wd 40 rfl) (wd 11 rfl) (wd 42 rfl) (by decide) [] [] E285 (rmC l Z a0 hw b285 (((0 : Int64) + (((x1).toInt64) - ((x3).toInt64))) + (((0 : Int64) + ((x2).toInt64)) * (1 : Int64))) T285.heap Fc285) e290 rfl (by rw [hml]; rfl) pd_4 rfl (hb hby at_257) (Nat.le_of_ble_eq_true rfl) (Nat.le_of_ble_eq_true rfl) (Nat.le_of_ble_eq_true rfl) (Nat.le_of_ble_eq_true rfl) ?_
          intro T291 X291 e291
          refine Go.lload X291 hx (hb hby at_260) rfl rfl  ?_
          refine Go.lcmp X291 hx (hb hby at_262) rfl ?_
          refine Go.ifNo X291 hx (hb hby at_263) rfl ((if0 _ _).trans (teq ((lw_eq (((0 : Int64) + (((x1).toInt64) - ((x3).toInt64))) + (((0 : Int64) + ((x2).toInt64)) * (1 : Int64))) (((0 : Int64) + (((x1).toInt64) - ((x3).toInt64))) + (((0 : Int64) + ((x2).toInt64)) * (1 : Int64)))).mpr (rfl : (((0 : Int64) + (((x1).toInt64) - ((x3).toInt64))) + (((0 : Int64) + ((x2).toInt64)) * (1 : Int64))) = (((0 : Int64) + (((x1).toInt64) - ((x3).toInt64))) + (((0 : Int64) + ((x2).toInt64)) * (1 : Int64)))))).2) ?_
          refine Go.iconst X291 hx (hb hby at_266) rfl (1 : Int32) rfl ?_
          refine Go.goto X291 hx (hb hby at_267) rfl 271 (by decide) (by decide) ?_
          exact Go.retZ X291 hx (z' := (1 : Int32)) hret hlk (hb hby at_271) rfl (by decide) ⟨by first | rfl | simp [hc1, hc266, hc284], M286⟩ (Nat.le_of_ble_eq_true rfl) (Nat.le_of_ble_eq_true rfl)
        · refine Go.icmpYes X283 hx (hb hby at_162) rfl 175 (flt hc284).2.1 (by decide) (by decide) ?_
          refine Go.lload X283 hx (hb hby at_175) rfl rfl  ?_
          refine Go.iload X283 hx (hb hby at_177) rfl rfl  ?_
          refine Go.iloadN X283 hx (hb hby at_179) rfl rfl  ?_
          refine Go.iload X283 hx (hb hby at_180) rfl rfl  ?_
          refine Go.ifYes X283 hx (hb hby at_182) rfl 189 ((if0 _ _).trans (teq (by decide : (0 : Int32) = (0 : Int32))).1) (by decide) (by decide) ?_
          refine Go.iload X283 hx (hb hby at_189) rfl rfl  ?_
          refine Go.pureS X283 hx hZ hown (wd 43 rfl) (wd 44 rfl) (wd 45 rfl) (wd 46 rfl) (by decide) [(.int (1 : Int32)), (.int x2), (.int x4)] [(.long ((0 : Int64) + (((x1).toInt64) - ((x3).toInt64))))] (rmP1 l Z a0 hw x2 x4 h262) e283 rfl (by rw [hml]; rfl) pd_5 rfl (hb hby at_191) (Nat.le_of_ble_eq_true rfl) (Nat.le_of_ble_eq_true rfl) (Nat.le_of_ble_eq_true rfl) (Nat.le_of_ble_eq_true rfl) ?_
          intro T292 X292 e292
          refine Go.ladd X292 hx (hb hby at_194) rfl ?_
          refine Go.lstore X292 hx (hb hby at_195) rfl  #[.val (.int x0), .val (.int x1), .val (.int x2), .val (.int x3), .val (.int x4), .val (.long x5), .second, .val (.int (1 : Int32)), .val (.int (0 : Int32)), .val (.int (2 : Int32)), .val (.int ((x0 >>> ((4 : Int32) &&& 31)))), .val (.ref a_CM), .val (.ref b245), .val (.ref b247), .val (.long (0 : Int64)), .second, .val (.long (((0 : Int64) + (((x1).toInt64) - ((x3).toInt64))) + (((x2).toInt64) - ((x4).toInt64)))), .second, .unset, .unset, .unset, .unset, .unset] rfl ?_
          refine Go.iload X292 hx (hb hby at_197) rfl rfl  ?_
          refine Go.ifNo X292 hx (hb hby at_199) rfl ((if0 _ _).trans (feq (by decide : ¬ ((1 : Int32) = (0 : Int32)))).1) ?_
          refine Go.lconst X292 hx (hb hby at_202) rfl (1 : Int64) rfl ?_
          refine Go.goto X292 hx (hb hby at_203) rfl 208 (by decide) (by decide) ?_
          refine Go.lstore X292 hx (hb hby at_208) rfl  #[.val (.int x0), .val (.int x1), .val (.int x2), .val (.int x3), .val (.int x4), .val (.long x5), .second, .val (.int (1 : Int32)), .val (.int (0 : Int32)), .val (.int (2 : Int32)), .val (.int ((x0 >>> ((4 : Int32) &&& 31)))), .val (.ref a_CM), .val (.ref b245), .val (.ref b247), .val (.long (0 : Int64)), .second, .val (.long (((0 : Int64) + (((x1).toInt64) - ((x3).toInt64))) + (((x2).toInt64) - ((x4).toInt64)))), .second, .val (.long (1 : Int64)), .second, .unset, .unset, .unset] rfl ?_
          refine Go.lload X292 hx (hb hby at_210) rfl rfl  ?_
          refine Go.lload X292 hx (hb hby at_212) rfl rfl  ?_
          refine Go.lload X292 hx (hb hby at_214) rfl rfl  ?_
          refine Go.lmul X292 hx (hb hby at_216) rfl ?_
          show Go p e below _ T292 (mkF m 217 #[.val (.int x0), .val (.int x1), .val (.int x2), .val (.int x3), .val (.int x4), .val (.long x5), .second, .val (.int (1 : Int32)), .val (.int (0 : Int32)), .val (.int (2 : Int32)), .val (.int ((x0 >>> ((4 : Int32) &&& 31)))), .val (.ref a_CM), .val (.ref b245), .val (.ref b247), .val (.long (0 : Int64)), .second, .val (.long (((0 : Int64) + (((x1).toInt64) - ((x3).toInt64))) + (((x2).toInt64) - ((x4).toInt64)))), .second, .val (.long (1 : Int64)), .second, .unset, .unset, .unset] [(.long ((0 : Int64) * (1 : Int64))), (.long (((0 : Int64) + (((x1).toInt64) - ((x3).toInt64))) + (((x2).toInt64) - ((x4).toInt64))))])
          rw [show ((0 : Int64) * (1 : Int64)) = (0 : Int64) from by decide]
          refine Go.ladd X292 hx (hb hby at_217) rfl ?_
          refine Go.lstore X292 hx (hb hby at_218) rfl  #[.val (.int x0), .val (.int x1), .val (.int x2), .val (.int x3), .val (.int x4), .val (.long x5), .second, .val (.int (1 : Int32)), .val (.int (0 : Int32)), .val (.int (2 : Int32)), .val (.int ((x0 >>> ((4 : Int32) &&& 31)))), .val (.ref a_CM), .val (.ref b245), .val (.ref b247), .val (.long (0 : Int64)), .second, .val (.long (((0 : Int64) + (((x1).toInt64) - ((x3).toInt64))) + (((x2).toInt64) - ((x4).toInt64)))), .second, .val (.long (1 : Int64)), .second, .val (.long ((((0 : Int64) + (((x1).toInt64) - ((x3).toInt64))) + (((x2).toInt64) - ((x4).toInt64))) + (0 : Int64))), .second, .unset] rfl ?_
          refine Go.aload X292 hx (hb hby at_220) rfl rfl rfl ?_
          refine Go.aload X292 hx (hb hby at_222) rfl rfl rfl ?_
          refine Go.iload X292 hx (hb hby at_224) rfl rfl  ?_
          refine Go.ifYes X292 hx (hb hby at_226) rfl 233 ((if0 _ _).trans (teq (by decide : (0 : Int32) = (0 : Int32))).1) (by decide) (by decide) ?_
          refine Go.aload X292 hx (hb hby at_233) rfl rfl rfl ?_
          refine Go.lload X292 hx (hb hby at_235) rfl rfl  ?_
          refine Go.iload X292 hx (hb hby at_237) rfl rfl  ?_
          refine Go.callV X292 hx hZ hown (wd 4 rfl) (wd 5 rfl) (notFace_of_selects (args := #[]) (mvT hZ (wd 54 rfl))) (wd 54 rfl) (wd 6 rfl) (wd 1 rfl) (wd 8 rfl) (by decide) [(.ref b245), (.ref b247), (.long x5), (.int ((x0 >>> ((4 : Int32) &&& 31))))] [] (E_CM.ext O263.2) (rmEv102ff l Z a0 hw b245 b247 k245 k247 x1 x2 x3 x4 x5 ((x0 >>> ((4 : Int32) &&& 31))) a_DM a_CM h262 O263 FF V265 V262 hc266 hc284) e292 rfl (by rw [hml]; rfl) pd_3 rfl (hb hby at_239) (Nat.le_of_ble_eq_true rfl) (Nat.le_of_ble_eq_true rfl) (Nat.le_of_ble_eq_true rfl) (Nat.le_of_ble_eq_true rfl) ?_
          rintro vv293 T293 L293 X293 Q293
          obtain ⟨b293, rfl, N293, K293, sz293, E293, Fs293, Fc293⟩ := Q293
          have M294 := Fr.app N264 N293
          have q293 : Z.heap.size ≤ b293 := Nat.le_trans O263.2.1 sz293
          have ne_b245_b293 : b245 ≠ b293 := Nat.ne_of_lt (Nat.lt_of_lt_of_le V265.lt sz293)
          have ne_b247_b293 : b247 ≠ b293 := Nat.ne_of_lt (Nat.lt_of_lt_of_le V262.lt sz293)
          have O295 := O263.keep K293 (all0)
          have V296 := V265.keep K293 (nin0)
          have V297 := V262.keep K293 (nin0)
          refine Go.astore X293 hx (hb hby at_242) rfl rfl #[.val (.int x0), .val (.int x1), .val (.int x2), .val (.int x3), .val (.int x4), .val (.long x5), .second, .val (.int (1 : Int32)), .val (.int (0 : Int32)), .val (.int (2 : Int32)), .val (.int ((x0 >>> ((4 : Int32) &&& 31)))), .val (.ref a_CM), .val (.ref b245), .val (.ref b247), .val (.long (0 : Int64)), .second, .val (.long (((0 : Int64) + (((x1).toInt64) - ((x3).toInt64))) + (((x2).toInt64) - ((x4).toInt64)))), .second, .val (.long (1 : Int64)), .second, .val (.long ((((0 : Int64) + (((x1).toInt64) - ((x3).toInt64))) + (((x2).toInt64) - ((x4).toInt64))) + (0 : Int64))), .second, .val (.ref b293)] rfl ?_
          refine Go.aload X293 hx (hb hby at_244) rfl rfl rfl ?_
          refine Go.pureV X293 hx hZ hown (wd 33 rfl) (wd 34 rfl) (notFace_of_selects (args := #[]) (mvT hZ (wd 36 rfl))) (wd 36 rfl) (wd 35 rfl) (wd 11 rfl) (wd 37 rfl) (by decide) [] [] E293 (rmS l Z a0 hw b293 (0 : Int64) T293.heap Fs293) rfl rfl (by rw [hml]; rfl) pd_4 rfl (hb hby at_246) (Nat.le_of_ble_eq_true rfl) (Nat.le_of_ble_eq_true rfl) (Nat.le_of_ble_eq_true rfl) (Nat.le_of_ble_eq_true rfl) ?_
          intro T298 X298 e298
          refine Go.lload X298 hx (hb hby at_249) rfl rfl  ?_
          refine Go.lcmp X298 hx (hb hby at_251) rfl ?_
          refine Go.ifNo X298 hx (hb hby at_252) rfl ((if0 _ _).trans (teq ((lw_eq (0 : Int64) (0 : Int64)).mpr (by decide : (0 : Int64) = (0 : Int64)))).2) ?_
          refine Go.aload X298 hx (hb hby at_255) rfl rfl rfl ?_
          refine Go.pureV X298 hx hZ hown (wd 38 rfl) (wd 39 rfl) (notFace_of_selects (args := #[]) (mvT hZ (wd 41 rfl))) (wd 41 rfl) (wd 40 rfl) (wd 11 rfl) (wd 42 rfl) (by decide) [] [] E293 (rmC l Z a0 hw b293 ((((0 : Int64) + (((x1).toInt64) - ((x3).toInt64))) + (((x2).toInt64) - ((x4).toInt64))) + (0 : Int64)) T293.heap Fc293) e298 rfl (by rw [hml]; rfl) pd_4 rfl (hb hby at_257) (Nat.le_of_ble_eq_true rfl) (Nat.le_of_ble_eq_true rfl) (Nat.le_of_ble_eq_true rfl) (Nat.le_of_ble_eq_true rfl) ?_
          intro T299 X299 e299
          refine Go.lload X299 hx (hb hby at_260) rfl rfl  ?_
          refine Go.lcmp X299 hx (hb hby at_262) rfl ?_
          refine Go.ifNo X299 hx (hb hby at_263) rfl ((if0 _ _).trans (teq ((lw_eq ((((0 : Int64) + (((x1).toInt64) - ((x3).toInt64))) + (((x2).toInt64) - ((x4).toInt64))) + (0 : Int64)) ((((0 : Int64) + (((x1).toInt64) - ((x3).toInt64))) + (((x2).toInt64) - ((x4).toInt64))) + (0 : Int64))).mpr (rfl : ((((0 : Int64) + (((x1).toInt64) - ((x3).toInt64))) + (((x2).toInt64) - ((x4).toInt64))) + (0 : Int64)) = ((((0 : Int64) + (((x1).toInt64) - ((x3).toInt64))) + (((x2).toInt64) - ((x4).toInt64))) + (0 : Int64))))).2) ?_
          refine Go.iconst X299 hx (hb hby at_266) rfl (1 : Int32) rfl ?_
          refine Go.goto X299 hx (hb hby at_267) rfl 271 (by decide) (by decide) ?_
          exact Go.retZ X299 hx (z' := (1 : Int32)) hret hlk (hb hby at_271) rfl (by decide) ⟨by first | rfl | simp [hc1, hc266, hc284], M294⟩ (Nat.le_of_ble_eq_true rfl) (Nat.le_of_ble_eq_true rfl)
set_option maxRecDepth 65536 in
set_option maxHeartbeats 40000000 in
theorem comes_1 {Post : Tables → Env → Array Value → State → Outcome → State → Prop} (hpost : ∀ tb e args s v u, (limb_1_1.after args s (.returned v) u = true ∧ limb_1_2.after args s (.returned v) u = true ∧ True) → FrameEnd s (.returned v) u (Jvm.fieldLocs frame_1_writes args s ++ Jvm.arrayLocs frame_1_arrays args s ++ Jvm.staticLocs frame_1_statics s) 16 128 → Post tb e args s (.returned v) u) :
    ArmFor flags0 classFile x code maxLocals ret World_1 tables_1 room_1 Calls_1 rest_1 Pre_1 Post := by
  intro l hfl _ _ p e ha hc hk s m args below hf hA hF happ hP
  obtain ⟨hcalls, hrest, hpre⟩ := hP
  obtain ⟨-, -, -, hnamed, -, -, -, hat⟩ := (Spec.applies_iff hf).mp happ
  obtain ⟨hg, hn⟩ := and_e (Cond.before_iff.mp (show (Jvm.Cond.and given_1 narrow_1).before args s = true from hpre))
  obtain ⟨gi0, gi1⟩ := and_e hg
  obtain ⟨gi2, gi3⟩ := and_e gi1
  obtain ⟨gi4, gi5⟩ := and_e gi3
  obtain ⟨gi6, gi7⟩ := and_e gi5
  obtain ⟨gi8, gi9⟩ := and_e gi7
  obtain ⟨gi10, gi11⟩ := and_e gi9
  obtain ⟨w0, w1, w2, w3, w4, w5, rfl⟩ : ∃ w0 w1 w2 w3 w4 w5 : Value, args = #[w0, w1, w2, w3, w4, w5] := by
    have hs : args.size = 6 := by simpa [Cond.value, given_1] using gi0
    obtain ⟨L⟩ := args
    match L, hs with
    | [w0, w1, w2, w3, w4, w5], _ => exact ⟨w0, w1, w2, w3, w4, w5, rfl⟩
  have hw := fun d (hd : d ∈ tables_1) => atoms_spec (ws := Jvm.Cond.code x code maxLocals ret :: tables_1) hat d (List.mem_cons_of_mem _ hd)
  have wd : ∀ {d : Jvm.Cond} (i : Nat), tables_1[i]? = some d → d.before _ s = true := fun i q => hw _ (List.mem_of_getElem? q)
  have hfit : Fit s := fun {y c} hc i hi => by
    obtain ⟨ha, rfl⟩ := Array.getElem?_eq_some_iff.mp hc
    have q := List.all_eq_true.mp ((Array.all_eq_true_iff_forall_mem.mp hF) _ (Array.getElem_mem ha)) i (List.mem_range.mpr hi)
    simpa [Array.getElem?_eq_getElem hi] using q
  obtain ⟨i0, ei0⟩ := is_v gi2
  obtain rfl : w0 = (.int i0) := Option.some.inj ei0
  obtain ⟨i1, ei1⟩ := is_v gi4
  obtain rfl : w1 = (.int i1) := Option.some.inj ei1
  obtain ⟨i2, ei2⟩ := is_v gi6
  obtain rfl : w2 = (.int i2) := Option.some.inj ei2
  obtain ⟨i3, ei3⟩ := is_v gi8
  obtain rfl : w3 = (.int i3) := Option.some.inj ei3
  obtain ⟨i4, ei4⟩ := is_v gi10
  obtain rfl : w4 = (.int i4) := Option.some.inj ei4
  obtain ⟨i5, ei5⟩ := isL_v gi11
  obtain rfl : w5 = (.long i5) := Option.some.inj ei5
  obtain ⟨g1, g2⟩ := and_e hn
  obtain ⟨a_DM, ev_DM⟩ := exa_v g1
  have S_DM : Sta s s.heap "com/example/unika/unika/anonymize/RecodingMetric" "DM" "Lcom/example/unika/unika/anonymize/RecodingMetric;" (.ref a_DM) := Sta.start ev_DM (Or.inr ⟨(wd 1 rfl), (wd 2 rfl)⟩)
  have E_DM : Exa s s.heap a_DM "com/example/unika/unika/anonymize/RecodingMetric$1" := Exa.start ev_DM g1
  obtain ⟨a_CM, ev_CM⟩ := exa_v g2
  have S_CM : Sta s s.heap "com/example/unika/unika/anonymize/RecodingMetric" "CM" "Lcom/example/unika/unika/anonymize/RecodingMetric;" (.ref a_CM) := Sta.start ev_CM (Or.inr ⟨(wd 1 rfl), (wd 53 rfl)⟩)
  have E_CM : Exa s s.heap a_CM "com/example/unika/unika/anonymize/RecodingMetric$2" := Exa.start ev_CM g2
  have ne_DM_CM : a_DM ≠ a_CM := ne_exa E_DM E_CM (by decide)
  obtain ⟨n, o, h1, h2, h3, _, L, rfl, ⟨rfl, N⟩, hq⟩ := rm0 l s _ hw i0 i1 i2 i3 i4 i5 a_DM a_CM ⟨S_DM, E_DM, S_CM, E_CM, ne_DM_CM⟩ tables_1 p e ha hc hk s m _ below hf ((Spec.applies_iff_loose hf).mp happ).1 ⟨rfl, State.Warmed39.refl s, rfl⟩ trivial
  refine ⟨n, _, h1, h2, h3, hpost _ _ _ _ _ _ ⟨Cond.after_iff.mpr rfl, Cond.after_iff.mpr (eq_i res_at (Term.int_eval (1)) rfl), trivial⟩ ⟨hq.1, hq.2.1, (hq.2.2.sift fun y hy => Or.inr (N y hy)).mono (by decide) (by decide)⟩⟩
theorem main_1_1 : Claimed_1_1 := comes_1 fun _ _ _ _ _ _ h hF => ⟨h.1, hF⟩
theorem main_1_2 : Claimed_1_2 := comes_1 fun _ _ _ _ _ _ h hF => ⟨h.2.1, hF⟩
end Jvm.Pilot.@@N@@
namespace Jvm.Pilot.@@N@@
open Jvm Jvm.ClassFile Sem Op Lib Jvm.Free Jvm.Stand Jvm.Pilot.@@N@@.Jvm.D
/-! MADE BY PROGRAM (witnessworld.py) out of the Statement's table words and the real class files: 16 classes; the members and pool entries that the words name. The judged class is class 1, her method 1. -/
namespace start1
open Jvm.ClassFile
def u (s : String) : CpInfo := .utf8 (stringToUtf16 s)
/-- a pool by its gaps: so many unusable entries, then the entry; so many at the end -/
def gap : Nat → List CpInfo → List CpInfo
  | 0, r => r
  | n + 1, r => .unusable :: gap n r
def poolList (es : List (Nat × CpInfo)) (last : Nat) : List CpInfo := es.foldr (fun e r => gap e.1 (e.2 :: r)) (gap last [])
def pool (es : List (Nat × CpInfo)) (last : Nat) : Array CpInfo := ⟨poolList es last⟩
def fileOf (pool : Array CpInfo) (this : Nat) (attrs : Array Attribute := #[]) (ms : Array MethodInfo := #[]) (fl : Nat := 33) (sup : Nat := 0) (ifs : Array Nat := #[]) (fds : Array FieldInfo := #[]) : ClassFile where
  minorVersion := 0
  majorVersion := 65
  constantPool := pool
  accessFlags := fl
  thisClass := this
  superClass := sup
  interfaces := ifs
  fields := fds
  methods := ms
  attributes := attrs
def plain (name : String) (sup : Option ClassId) : Class where
  name := name
  kind := .ordinary
  loader := none
  accessFlags := 33
  super := sup
  interfaces := #[]
  cf := none
  fields := #[]
  methods := #[]
  instanceTypes := #[]
  staticTypes := #[]
  resolved := #[]
  callSites := []
  init := .initialized
  statics := none
  mirror := none

def pool0 : Array CpInfo := pool [(5, u "<init>"), (0, u "()V"), (1, .class_ 10), (1, u "java/lang/Object")] 113

def k0c0 : Code := { maxStack := 0, maxLocals := 1, code := object_method_1_code, exceptionTable := #[], attributes := #[] }
def k0m0 : Method := { name := "<init>", desc := "()V", sig := { parameters := [], returnType := none }, accessFlags := 1, code := some k0c0 }
/-- java/lang/Object -/
def k0 : Class := { plain "java/lang/Object" none with
  accessFlags := 33
  interfaces := #[]
  cf := some (fileOf pool0 8 #[] #[{ accessFlags := 1, nameIndex := 5, descriptorIndex := 6, attributes := #[] }] 33 0 #[] #[])
  fields := #[]
  methods := #[k0m0]
  instanceTypes := #[]
  staticTypes := #[]
  resolved := Array.replicate 124 none
  statics := none }

def pool1 : Array CpInfo := pool [(2, .class_ 4), (1, u "java/lang/Object"), (0, u "<init>"), (0, u "()V"), (0, .fieldref 8 9), (0, .class_ 10), (0, .nameAndType 11 12), (0, u "com/example/unika/unika/anonymize/RecodingMetric"), (0, u "CM"), (0, u "Lcom/example/unika/unika/anonymize/RecodingMetric;"), (0, .fieldref 8 14), (0, .nameAndType 15 12), (0, u "DM"), (0, .methodref 17 18), (0, .class_ 19), (0, .nameAndType 20 21), (0, u "com/example/unika/unika/anonymize/RecodingMetricEvaluatePinLaw"), (0, u "keep"), (0, u "(ZII)J"), (0, .methodref 8 23), (0, .nameAndType 24 25), (0, u "evaluate"), (0, u "([I[IJI)Lcom/example/unika/unika/anonymize/RecodingMetric$Evaluation;"), (0, .methodref 27 28), (0, .class_ 29), (0, .nameAndType 30 31), (0, u "com/example/unika/unika/anonymize/RecodingMetric$Evaluation"), (0, u "suppressedRows"), (0, u "()J"), (0, .methodref 27 33), (0, .nameAndType 34 31), (0, u "cost"), (2, u "law"), (0, u "(IIIIIJ)Z")] 7

def k1m0 : Method := { name := "<init>", desc := "()V", sig := { parameters := [], returnType := none }, accessFlags := 1, code := none }
def k1c1 : Code := { maxStack := 6, maxLocals := 23, code := code, exceptionTable := #[], attributes := #[] }
def k1m1 : Method := { name := "law", desc := "(IIIIIJ)Z", sig := { parameters := [.int, .int, .int, .int, .int, .long], returnType := some .boolean }, accessFlags := 9, code := some k1c1 }
def k1c2 : Code := { maxStack := 4, maxLocals := 3, code := method_3_code, exceptionTable := #[], attributes := #[] }
def k1m2 : Method := { name := "keep", desc := "(ZII)J", sig := { parameters := [.boolean, .int, .int], returnType := some .long }, accessFlags := 10, code := some k1c2 }
/-- com/example/unika/unika/anonymize/RecodingMetricEvaluatePinLaw -/
def k1 : Class := { plain "com/example/unika/unika/anonymize/RecodingMetricEvaluatePinLaw" (some 0) with
  accessFlags := 49
  interfaces := #[]
  cf := some (fileOf pool1 17 #[] #[{ accessFlags := 1, nameIndex := 5, descriptorIndex := 6, attributes := #[] }, { accessFlags := 9, nameIndex := 37, descriptorIndex := 38, attributes := #[] }, { accessFlags := 10, nameIndex := 20, descriptorIndex := 21, attributes := #[] }] 49 2 #[] #[])
  fields := #[]
  methods := #[k1m0, k1m1, k1m2]
  instanceTypes := #[]
  staticTypes := #[]
  resolved := Array.replicate 46 none
  statics := none }

def pool2 : Array CpInfo := pool [(1, .class_ 2), (0, u "java/lang/constant/Constable"), (0, .class_ 4), (0, u "java/lang/Object")] 6

/-- java/lang/constant/Constable -/
def k2 : Class := { plain "java/lang/constant/Constable" (some 0) with
  accessFlags := 1537
  interfaces := #[]
  cf := some (fileOf pool2 1 #[] #[] 1537 3 #[] #[])
  fields := #[]
  methods := #[]
  instanceTypes := #[]
  staticTypes := #[]
  resolved := Array.replicate 11 none
  statics := none }

def pool3 : Array CpInfo := pool [(1, .class_ 2), (0, u "java/lang/Comparable"), (0, .class_ 4), (0, u "java/lang/Object")] 7

/-- java/lang/Comparable -/
def k3 : Class := { plain "java/lang/Comparable" (some 0) with
  accessFlags := 1537
  interfaces := #[]
  cf := some (fileOf pool3 1 #[] #[] 1537 3 #[] #[])
  fields := #[]
  methods := #[]
  instanceTypes := #[]
  staticTypes := #[]
  resolved := Array.replicate 12 none
  statics := none }

def pool4 : Array CpInfo := pool [(1, .class_ 2), (0, u "java/io/Serializable"), (0, .class_ 4), (0, u "java/lang/Object")] 2

/-- java/io/Serializable -/
def k4 : Class := { plain "java/io/Serializable" (some 0) with
  accessFlags := 1537
  interfaces := #[]
  cf := some (fileOf pool4 1 #[] #[] 1537 3 #[] #[])
  fields := #[]
  methods := #[]
  instanceTypes := #[]
  staticTypes := #[]
  resolved := Array.replicate 7 none
  statics := none }

def pool5 : Array CpInfo := pool [(2, .class_ 4), (1, u "java/lang/Enum"), (0, u "name"), (0, u "Ljava/lang/String;"), (2, u "ordinal"), (0, u "I"), (1, .class_ 14), (1, u "java/lang/Object"), (4, u "hash"), (86, .class_ 108), (1, u "java/lang/Enum$EnumDesc"), (2, .class_ 112), (0, u "java/lang/constant/Constable"), (0, .class_ 114), (0, u "java/lang/Comparable"), (0, .class_ 116), (0, u "java/io/Serializable")] 87

/-- java/lang/Enum -/
def k5 : Class := { plain "java/lang/Enum" (some 0) with
  accessFlags := 1057
  interfaces := #[2, 3, 4]
  cf := some (fileOf pool5 2 #[.nestMembers #[106]] #[] 1057 12 #[111, 113, 115] #[{ accessFlags := 18, nameIndex := 5, descriptorIndex := 6, attributes := #[] }, { accessFlags := 18, nameIndex := 9, descriptorIndex := 10, attributes := #[] }, { accessFlags := 2, nameIndex := 19, descriptorIndex := 10, attributes := #[] }])
  fields := #[{ name := "name", type := (.object "java/lang/String"), accessFlags := 18, slot := 0, constantValue := 0 }, { name := "ordinal", type := .int, accessFlags := 18, slot := 1, constantValue := 0 }, { name := "hash", type := .int, accessFlags := 2, slot := 2, constantValue := 0 }]
  methods := #[]
  instanceTypes := #[(.object "java/lang/String"), .int, .int]
  staticTypes := #[]
  resolved := Array.replicate 204 none
  statics := none }

def pool6 : Array CpInfo := pool [(1, .class_ 2), (0, u "com/example/unika/unika/anonymize/RecodingMetric"), (2, u "DM"), (0, u "Lcom/example/unika/unika/anonymize/RecodingMetric;"), (2, u "CM"), (2, u "$VALUES"), (0, u "[Lcom/example/unika/unika/anonymize/RecodingMetric;"), (6, .class_ 22), (1, u "java/lang/Enum"), (4, u "<init>"), (1, .methodref 1 30), (0, .nameAndType 31 32), (0, u "keptClass"), (0, u "(JJ)J"), (0, .class_ 34), (0, u "com/example/unika/unika/anonymize/RecodingMetric$Evaluation"), (0, .methodref 1 36), (0, .nameAndType 37 38), (0, u "removedRow"), (0, u "(J)J"), (0, .methodref 33 40), (0, .nameAndType 27 41), (0, u "(JJ)V"), (0, .class_ 43), (0, u "com/example/unika/unika/anonymize/RecodingMetric$1"), (2, .class_ 47), (0, u "com/example/unika/unika/anonymize/RecodingMetric$2"), (26, u "evaluate"), (0, u "([I[IJI)Lcom/example/unika/unika/anonymize/RecodingMetric$Evaluation;")] 10

def k6m0 : Method := { name := "keptClass", desc := "(JJ)J", sig := { parameters := [.long, .long], returnType := some .long }, accessFlags := 1024, code := none }
def k6m1 : Method := { name := "removedRow", desc := "(J)J", sig := { parameters := [.long], returnType := some .long }, accessFlags := 1024, code := none }
def k6c2 : Code := { maxStack := 11, maxLocals := 11, code := prog_39_method_13_code, exceptionTable := #[], attributes := #[] }
def k6m2 : Method := { name := "evaluate", desc := "([I[IJI)Lcom/example/unika/unika/anonymize/RecodingMetric$Evaluation;", sig := { parameters := [(.array .int), (.array .int), .long, .int], returnType := some (.object "com/example/unika/unika/anonymize/RecodingMetric$Evaluation") }, accessFlags := 0, code := some k6c2 }
/-- com/example/unika/unika/anonymize/RecodingMetric -/
def k6 : Class := { plain "com/example/unika/unika/anonymize/RecodingMetric" (some 5) with
  accessFlags := 17441
  interfaces := #[]
  cf := some (fileOf pool6 1 #[.nestMembers #[33, 46, 42]] #[{ accessFlags := 1024, nameIndex := 31, descriptorIndex := 32, attributes := #[] }, { accessFlags := 1024, nameIndex := 37, descriptorIndex := 38, attributes := #[] }, { accessFlags := 0, nameIndex := 74, descriptorIndex := 75, attributes := #[] }] 17441 20 #[] #[{ accessFlags := 16409, nameIndex := 5, descriptorIndex := 6, attributes := #[] }, { accessFlags := 16409, nameIndex := 9, descriptorIndex := 6, attributes := #[] }, { accessFlags := 4122, nameIndex := 12, descriptorIndex := 13, attributes := #[] }])
  fields := #[{ name := "DM", type := (.object "com/example/unika/unika/anonymize/RecodingMetric"), accessFlags := 16409, slot := 0, constantValue := 0 }, { name := "CM", type := (.object "com/example/unika/unika/anonymize/RecodingMetric"), accessFlags := 16409, slot := 1, constantValue := 0 }, { name := "$VALUES", type := (.array (.object "com/example/unika/unika/anonymize/RecodingMetric")), accessFlags := 4122, slot := 2, constantValue := 0 }]
  methods := #[k6m0, k6m1, k6m2]
  instanceTypes := #[(.object "java/lang/String"), .int, .int]
  staticTypes := #[(.object "com/example/unika/unika/anonymize/RecodingMetric"), (.object "com/example/unika/unika/anonymize/RecodingMetric"), (.array (.object "com/example/unika/unika/anonymize/RecodingMetric"))]
  resolved := Array.replicate 86 none
  statics := some 0 }

def pool7 : Array CpInfo := pool [(2, .class_ 4), (1, u "com/example/unika/unika/anonymize/RecodingMetric"), (7, u "(JJ)J"), (5, .class_ 19), (0, u "com/example/unika/unika/anonymize/RecodingMetric$1"), (3, u "keptClass"), (0, u "removedRow"), (0, u "(J)J")] 16

def k7c0 : Code := { maxStack := 4, maxLocals := 5, code := prog_40_method_2_code, exceptionTable := #[], attributes := #[] }
def k7m0 : Method := { name := "keptClass", desc := "(JJ)J", sig := { parameters := [.long, .long], returnType := some .long }, accessFlags := 0, code := some k7c0 }
def k7c1 : Code := { maxStack := 2, maxLocals := 3, code := prog_40_method_3_code, exceptionTable := #[], attributes := #[] }
def k7m1 : Method := { name := "removedRow", desc := "(J)J", sig := { parameters := [.long], returnType := some .long }, accessFlags := 0, code := some k7c1 }
/-- com/example/unika/unika/anonymize/RecodingMetric$1 -/
def k7 : Class := { plain "com/example/unika/unika/anonymize/RecodingMetric$1" (some 6) with
  accessFlags := 16432
  interfaces := #[]
  cf := some (fileOf pool7 18 #[.nestHost 2] #[{ accessFlags := 0, nameIndex := 23, descriptorIndex := 12, attributes := #[] }, { accessFlags := 0, nameIndex := 24, descriptorIndex := 25, attributes := #[] }] 16432 2 #[] #[])
  fields := #[]
  methods := #[k7m0, k7m1]
  instanceTypes := #[(.object "java/lang/String"), .int, .int]
  staticTypes := #[]
  resolved := Array.replicate 42 none
  statics := none }

def pool8 : Array CpInfo := pool [(1, .methodref 2 3), (0, .class_ 4), (0, .nameAndType 5 6), (0, u "java/lang/Object"), (0, u "<init>"), (0, u "()V"), (0, .class_ 8), (0, u "java/lang/Record")] 13

def k8c0 : Code := { maxStack := 1, maxLocals := 1, code := jdk_30_method_1_code, exceptionTable := #[], attributes := #[] }
def k8m0 : Method := { name := "<init>", desc := "()V", sig := { parameters := [], returnType := none }, accessFlags := 4, code := some k8c0 }
/-- java/lang/Record -/
def k8 : Class := { plain "java/lang/Record" (some 0) with
  accessFlags := 1057
  interfaces := #[]
  cf := some (fileOf pool8 7 #[] #[{ accessFlags := 4, nameIndex := 5, descriptorIndex := 6, attributes := #[] }] 1057 2 #[] #[])
  fields := #[]
  methods := #[k8m0]
  instanceTypes := #[]
  staticTypes := #[]
  resolved := Array.replicate 22 none
  statics := none }

def pool9 : Array CpInfo := pool [(1, .methodref 2 3), (0, .class_ 4), (0, .nameAndType 5 6), (0, u "java/lang/Record"), (0, u "<init>"), (0, u "()V"), (0, .fieldref 8 9), (0, .class_ 10), (0, .nameAndType 11 12), (0, u "com/example/unika/unika/anonymize/RecodingMetric$Evaluation"), (0, u "suppressedRows"), (0, u "J"), (0, .fieldref 8 14), (0, .nameAndType 15 12), (0, u "cost"), (12, u "(JJ)V"), (6, u "()J"), (3, .class_ 40), (0, u "com/example/unika/unika/anonymize/RecodingMetric")] 20

def k9c0 : Code := { maxStack := 3, maxLocals := 5, code := prog_42_method_1_code, exceptionTable := #[], attributes := #[] }
def k9m0 : Method := { name := "<init>", desc := "(JJ)V", sig := { parameters := [.long, .long], returnType := none }, accessFlags := 1, code := some k9c0 }
def k9c1 : Code := { maxStack := 2, maxLocals := 1, code := prog_42_method_5_code, exceptionTable := #[], attributes := #[] }
def k9m1 : Method := { name := "suppressedRows", desc := "()J", sig := { parameters := [], returnType := some .long }, accessFlags := 1, code := some k9c1 }
def k9c2 : Code := { maxStack := 2, maxLocals := 1, code := prog_42_method_6_code, exceptionTable := #[], attributes := #[] }
def k9m2 : Method := { name := "cost", desc := "()J", sig := { parameters := [], returnType := some .long }, accessFlags := 1, code := some k9c2 }
/-- com/example/unika/unika/anonymize/RecodingMetric$Evaluation -/
def k9 : Class := { plain "com/example/unika/unika/anonymize/RecodingMetric$Evaluation" (some 8) with
  accessFlags := 49
  interfaces := #[]
  cf := some (fileOf pool9 8 #[.nestHost 39] #[{ accessFlags := 1, nameIndex := 5, descriptorIndex := 28, attributes := #[] }, { accessFlags := 1, nameIndex := 11, descriptorIndex := 35, attributes := #[] }, { accessFlags := 1, nameIndex := 15, descriptorIndex := 35, attributes := #[] }] 49 2 #[] #[{ accessFlags := 18, nameIndex := 11, descriptorIndex := 12, attributes := #[] }, { accessFlags := 18, nameIndex := 15, descriptorIndex := 12, attributes := #[] }])
  fields := #[{ name := "suppressedRows", type := .long, accessFlags := 18, slot := 0, constantValue := 0 }, { name := "cost", type := .long, accessFlags := 18, slot := 1, constantValue := 0 }]
  methods := #[k9m0, k9m1, k9m2]
  instanceTypes := #[.long, .long]
  staticTypes := #[]
  resolved := Array.replicate 61 none
  statics := none }

def pool10 : Array CpInfo := pool [(2, .class_ 4), (1, u "com/example/unika/unika/anonymize/RecodingMetric"), (4, .class_ 10), (0, u "com/example/unika/unika/anonymize/RecodingMetric$2"), (3, u "keptClass"), (0, u "(JJ)J"), (0, u "removedRow"), (0, u "(J)J")] 16

def k10c0 : Code := { maxStack := 4, maxLocals := 5, code := prog_41_method_2_code, exceptionTable := #[], attributes := #[] }
def k10m0 : Method := { name := "keptClass", desc := "(JJ)J", sig := { parameters := [.long, .long], returnType := some .long }, accessFlags := 0, code := some k10c0 }
def k10c1 : Code := { maxStack := 2, maxLocals := 3, code := prog_41_method_3_code, exceptionTable := #[], attributes := #[] }
def k10m1 : Method := { name := "removedRow", desc := "(J)J", sig := { parameters := [.long], returnType := some .long }, accessFlags := 0, code := some k10c1 }
/-- com/example/unika/unika/anonymize/RecodingMetric$2 -/
def k10 : Class := { plain "com/example/unika/unika/anonymize/RecodingMetric$2" (some 6) with
  accessFlags := 16432
  interfaces := #[]
  cf := some (fileOf pool10 9 #[.nestHost 2] #[{ accessFlags := 0, nameIndex := 14, descriptorIndex := 15, attributes := #[] }, { accessFlags := 0, nameIndex := 16, descriptorIndex := 17, attributes := #[] }] 16432 2 #[] #[])
  fields := #[]
  methods := #[k10m0, k10m1]
  instanceTypes := #[(.object "java/lang/String"), .int, .int]
  staticTypes := #[]
  resolved := Array.replicate 34 none
  statics := none }

def pool11 : Array CpInfo := pool [(1, u "java/lang/Cloneable"), (0, .class_ 1), (0, u "java/lang/Object"), (0, .class_ 3)] 3

/-- java/lang/Cloneable -/
def k11 : Class := { plain "java/lang/Cloneable" (some 0) with
  accessFlags := 1537
  interfaces := #[]
  cf := some (fileOf pool11 2 #[] #[] 1537 4 #[] #[])
  fields := #[]
  methods := #[]
  instanceTypes := #[]
  staticTypes := #[]
  resolved := Array.replicate 8 none
  statics := none }

/-- the primitive byte -/
def k12 : Class := { plain "byte" none with kind := .primitive 'B', accessFlags := 0x411 }
/-- [B -/
def k13 : Class := { plain "[B" (some 0) with kind := .array 12 .byte, interfaces := #[11, 4], accessFlags := 1041 }

/-- the primitive int -/
def k14 : Class := { plain "int" none with kind := .primitive 'I', accessFlags := 0x411 }
/-- [I -/
def k15 : Class := { plain "[I" (some 0) with kind := .array 14 .int, interfaces := #[11, 4], accessFlags := 1041 }

def heap : Heap := #[{ cls := 6, slots := #[.ref 1, .ref 2, .null], vm := .statics 6 },
  { cls := 7, slots := #[.null, .int 0, .int 0], vm := .none },
  { cls := 10, slots := #[.null, .int 0, .int 0], vm := .none }]
def classes : Array Class := #[k0, k1, k2, k3, k4, k5, k6, k7, k8, k9, k10, k11, k12, k13, k14, k15]
def interned : List (Array UInt16 × Addr) := []
def slotsUsed : Nat := 9
def theMethod : MethodId := ⟨1, 1⟩
def args0 : Array Value := #[.int 37, .int 4, .int 5, .int 2, .int 3, .long 9]
def aboutOver (below : List Frame) : State where
  vm := { classes := classes, interned := interned.toArray }
  heap := heap
  slotsUsed := slotsUsed
  threads := #[{ frames := .invoking theMethod args0 :: below }]
def below0 : List Frame := [.native { method := ⟨0, 0⟩, args := #[] }]
def about1 : State := aboutOver below0
def p0 : Program := .bare "" "" ""
def e0 : Env := launch0.env 0 0 0
theorem w_frames : about1.frames = Frame.invoking theMethod args0 :: below0 := rfl
set_option maxRecDepth 65536 in
theorem w_args : argsFit about1.vm theMethod args0 = true := by decide +kernel
set_option maxRecDepth 65536 in
theorem w_heap : heapFits about1 = true := by decide +kernel
set_option maxRecDepth 65536 in
theorem w_runnable : about1.curStatus? = some .runnable := by decide +kernel
set_option maxRecDepth 65536 in
theorem w_alone : about1.alone = true := by decide +kernel
set_option maxRecDepth 65536 in
theorem w_named : about1.methodNamed? x = some theMethod := by decide +kernel
set_option maxRecDepth 65536 in
theorem w_hears : about1.hears theMethod below0 = true := by decide +kernel
set_option maxRecDepth 65536 in
theorem w_ripe : about1.ripe theMethod args0 below0 = true := by decide +kernel
theorem w_running : about1.status = .running := rfl
set_option maxRecDepth 65536 in
theorem w_room : about1.hasRoom e0.platform room_1 = true :=
  launch0.hasRoom_least _ room_1 (by decide +kernel) (by decide +kernel) (by decide +kernel) (by decide +kernel) (by decide +kernel) (by decide +kernel)
theorem allAtoms_all (ts : List Jvm.Cond) (a : Array Jvm.Value) (st : Jvm.State) : (allAtoms ts).before a st = ts.all (fun c => c.before a st) := by
  induction ts with
  | nil => rfl
  | cons c t ih =>
    show (Jvm.Cond.and c (allAtoms t)).before a st = _
    rw [Jvm.Cond.before_and, ih, List.all_cons]
def words1 : List Jvm.Cond := Jvm.Cond.code x code maxLocals ret :: tables_1
/-- a 'code' word, met by the world's own term for the bytes: nothing is compared byte by byte -/
theorem code_word {y : MethodName} {bytes : ByteArray} {mx : Nat} {rt : Option FieldType} {a : Array Value} {s : State} {m : MethodId} {meth : Method} {c : Code} (h1 : s.methodNamed? y = some m) (h2 : s.vm.method? m = some meth) (h3 : meth.code = some c) (h4 : c.code = bytes)
    (h5 : (c.maxLocals == mx && c.exceptionTable.isEmpty && decide (c.maxStack ≤ mostOperands) && decide (meth.sig.returnType = rt) && !meth.locks && decide (parseMethodDescriptor y.desc = some meth.sig)) = true) : (Jvm.Cond.code y bytes mx rt).before a s = true := by
  simp only [Bool.and_eq_true, beq_iff_eq, Bool.not_eq_true', decide_eq_true_eq] at h5
  obtain ⟨⟨⟨⟨⟨g1, g2⟩, g3⟩, g4⟩, g5⟩, g6⟩ := h5
  simp [Cond.before, Cond.holds, Cond.value, h1, h2, h3, h4, g1, g2, g3, g4, g5, g6]
def isCode : Jvm.Cond → Bool
  | .code _ _ _ _ => true
  | _ => false
theorem all_split {L : List Jvm.Cond} {P : Jvm.Cond → Bool} (h1 : L.all (fun c => isCode c || P c) = true) (h2 : ∀ c ∈ L.filter isCode, P c = true) : L.all P = true := by
  refine List.all_eq_true.mpr fun c hc => ?_
  have h := List.all_eq_true.mp h1 c hc
  rcases Bool.eq_false_or_eq_true (isCode c) with hi | hi
  · exact h2 c (List.mem_filter.mpr ⟨hc, hi⟩)
  · simpa [hi] using h
set_option maxRecDepth 65536 in
theorem w_c0 : (Jvm.Cond.code x code maxLocals ret).before args0 about1 = true := code_word (m := ⟨1, 1⟩) (meth := k1m1) (c := k1c1) (by decide +kernel) rfl rfl rfl (by decide +kernel)
set_option maxRecDepth 65536 in
theorem w_c1 : (Jvm.Cond.code ({ cls := "com/example/unika/unika/anonymize/RecodingMetric", name := "evaluate", desc := "([I[IJI)Lcom/example/unika/unika/anonymize/RecodingMetric$Evaluation;" } : Jvm.MethodName) prog_39_method_13_code (11 : Nat) (Option.some (Jvm.ClassFile.FieldType.object "com/example/unika/unika/anonymize/RecodingMetric$Evaluation"))).before args0 about1 = true := code_word (m := ⟨6, 2⟩) (meth := k6m2) (c := k6c2) (by decide +kernel) rfl rfl rfl (by decide +kernel)
set_option maxRecDepth 65536 in
theorem w_c2 : (Jvm.Cond.code ({ cls := "com/example/unika/unika/anonymize/RecodingMetric$1", name := "removedRow", desc := "(J)J" } : Jvm.MethodName) prog_40_method_3_code (3 : Nat) (Option.some Jvm.ClassFile.FieldType.long)).before args0 about1 = true := code_word (m := ⟨7, 1⟩) (meth := k7m1) (c := k7c1) (by decide +kernel) rfl rfl rfl (by decide +kernel)
set_option maxRecDepth 65536 in
theorem w_c3 : (Jvm.Cond.code ({ cls := "com/example/unika/unika/anonymize/RecodingMetric$Evaluation", name := "<init>", desc := "(JJ)V" } : Jvm.MethodName) prog_42_method_1_code (5 : Nat) (Option.none : Option Jvm.ClassFile.FieldType)).before args0 about1 = true := code_word (m := ⟨9, 0⟩) (meth := k9m0) (c := k9c0) (by decide +kernel) rfl rfl rfl (by decide +kernel)
set_option maxRecDepth 65536 in
theorem w_c4 : (Jvm.Cond.code ({ cls := "java/lang/Record", name := "<init>", desc := "()V" } : Jvm.MethodName) jdk_30_method_1_code (1 : Nat) (Option.none : Option Jvm.ClassFile.FieldType)).before args0 about1 = true := code_word (m := ⟨8, 0⟩) (meth := k8m0) (c := k8c0) (by decide +kernel) rfl rfl rfl (by decide +kernel)
set_option maxRecDepth 65536 in
theorem w_c5 : (Jvm.Cond.code ({ cls := "java/lang/Object", name := "<init>", desc := "()V" } : Jvm.MethodName) object_method_1_code (1 : Nat) (Option.none : Option Jvm.ClassFile.FieldType)).before args0 about1 = true := code_word (m := ⟨0, 0⟩) (meth := k0m0) (c := k0c0) (by decide +kernel) rfl rfl rfl (by decide +kernel)
set_option maxRecDepth 65536 in
theorem w_c6 : (Jvm.Cond.code ({ cls := "com/example/unika/unika/anonymize/RecodingMetric$Evaluation", name := "suppressedRows", desc := "()J" } : Jvm.MethodName) prog_42_method_5_code (1 : Nat) (Option.some Jvm.ClassFile.FieldType.long)).before args0 about1 = true := code_word (m := ⟨9, 1⟩) (meth := k9m1) (c := k9c1) (by decide +kernel) rfl rfl rfl (by decide +kernel)
set_option maxRecDepth 65536 in
theorem w_c7 : (Jvm.Cond.code ({ cls := "com/example/unika/unika/anonymize/RecodingMetric$Evaluation", name := "cost", desc := "()J" } : Jvm.MethodName) prog_42_method_6_code (1 : Nat) (Option.some Jvm.ClassFile.FieldType.long)).before args0 about1 = true := code_word (m := ⟨9, 2⟩) (meth := k9m2) (c := k9c2) (by decide +kernel) rfl rfl rfl (by decide +kernel)
set_option maxRecDepth 65536 in
theorem w_c8 : (Jvm.Cond.code ({ cls := "com/example/unika/unika/anonymize/RecodingMetricEvaluatePinLaw", name := "keep", desc := "(ZII)J" } : Jvm.MethodName) method_3_code (3 : Nat) (Option.some Jvm.ClassFile.FieldType.long)).before args0 about1 = true := code_word (m := ⟨1, 2⟩) (meth := k1m2) (c := k1c2) (by decide +kernel) rfl rfl rfl (by decide +kernel)
set_option maxRecDepth 65536 in
theorem w_c9 : (Jvm.Cond.code ({ cls := "com/example/unika/unika/anonymize/RecodingMetric$1", name := "keptClass", desc := "(JJ)J" } : Jvm.MethodName) prog_40_method_2_code (5 : Nat) (Option.some Jvm.ClassFile.FieldType.long)).before args0 about1 = true := code_word (m := ⟨7, 0⟩) (meth := k7m0) (c := k7c0) (by decide +kernel) rfl rfl rfl (by decide +kernel)
set_option maxRecDepth 65536 in
theorem w_c10 : (Jvm.Cond.code ({ cls := "com/example/unika/unika/anonymize/RecodingMetric$2", name := "keptClass", desc := "(JJ)J" } : Jvm.MethodName) prog_41_method_2_code (5 : Nat) (Option.some Jvm.ClassFile.FieldType.long)).before args0 about1 = true := code_word (m := ⟨10, 0⟩) (meth := k10m0) (c := k10c0) (by decide +kernel) rfl rfl rfl (by decide +kernel)
set_option maxRecDepth 65536 in
theorem w_c11 : (Jvm.Cond.code ({ cls := "com/example/unika/unika/anonymize/RecodingMetric$2", name := "removedRow", desc := "(J)J" } : Jvm.MethodName) prog_41_method_3_code (3 : Nat) (Option.some Jvm.ClassFile.FieldType.long)).before args0 about1 = true := code_word (m := ⟨10, 1⟩) (meth := k10m1) (c := k10c1) (by decide +kernel) rfl rfl rfl (by decide +kernel)
def codes1 : List Jvm.Cond := [Jvm.Cond.code x code maxLocals ret, Jvm.Cond.code ({ cls := "com/example/unika/unika/anonymize/RecodingMetric", name := "evaluate", desc := "([I[IJI)Lcom/example/unika/unika/anonymize/RecodingMetric$Evaluation;" } : Jvm.MethodName) prog_39_method_13_code (11 : Nat) (Option.some (Jvm.ClassFile.FieldType.object "com/example/unika/unika/anonymize/RecodingMetric$Evaluation")), Jvm.Cond.code ({ cls := "com/example/unika/unika/anonymize/RecodingMetric$1", name := "removedRow", desc := "(J)J" } : Jvm.MethodName) prog_40_method_3_code (3 : Nat) (Option.some Jvm.ClassFile.FieldType.long), Jvm.Cond.code ({ cls := "com/example/unika/unika/anonymize/RecodingMetric$Evaluation", name := "<init>", desc := "(JJ)V" } : Jvm.MethodName) prog_42_method_1_code (5 : Nat) (Option.none : Option Jvm.ClassFile.FieldType), Jvm.Cond.code ({ cls := "java/lang/Record", name := "<init>", desc := "()V" } : Jvm.MethodName) jdk_30_method_1_code (1 : Nat) (Option.none : Option Jvm.ClassFile.FieldType), Jvm.Cond.code ({ cls := "java/lang/Object", name := "<init>", desc := "()V" } : Jvm.MethodName) object_method_1_code (1 : Nat) (Option.none : Option Jvm.ClassFile.FieldType), Jvm.Cond.code ({ cls := "com/example/unika/unika/anonymize/RecodingMetric$Evaluation", name := "suppressedRows", desc := "()J" } : Jvm.MethodName) prog_42_method_5_code (1 : Nat) (Option.some Jvm.ClassFile.FieldType.long), Jvm.Cond.code ({ cls := "com/example/unika/unika/anonymize/RecodingMetric$Evaluation", name := "cost", desc := "()J" } : Jvm.MethodName) prog_42_method_6_code (1 : Nat) (Option.some Jvm.ClassFile.FieldType.long), Jvm.Cond.code ({ cls := "com/example/unika/unika/anonymize/RecodingMetricEvaluatePinLaw", name := "keep", desc := "(ZII)J" } : Jvm.MethodName) method_3_code (3 : Nat) (Option.some Jvm.ClassFile.FieldType.long), Jvm.Cond.code ({ cls := "com/example/unika/unika/anonymize/RecodingMetric$1", name := "keptClass", desc := "(JJ)J" } : Jvm.MethodName) prog_40_method_2_code (5 : Nat) (Option.some Jvm.ClassFile.FieldType.long), Jvm.Cond.code ({ cls := "com/example/unika/unika/anonymize/RecodingMetric$2", name := "keptClass", desc := "(JJ)J" } : Jvm.MethodName) prog_41_method_2_code (5 : Nat) (Option.some Jvm.ClassFile.FieldType.long), Jvm.Cond.code ({ cls := "com/example/unika/unika/anonymize/RecodingMetric$2", name := "removedRow", desc := "(J)J" } : Jvm.MethodName) prog_41_method_3_code (3 : Nat) (Option.some Jvm.ClassFile.FieldType.long)]
set_option maxRecDepth 65536 in
theorem codes_eq : words1.filter isCode = codes1 := rfl
theorem w_codes : ∀ c ∈ words1.filter isCode, c.before args0 about1 = true := by
  rw [codes_eq]
  intro c hc
  simp only [codes1, List.mem_cons, List.not_mem_nil, or_false] at hc
  rcases hc with rfl | rfl | rfl | rfl | rfl | rfl | rfl | rfl | rfl | rfl | rfl | rfl
  · exact w_c0
  · exact w_c1
  · exact w_c2
  · exact w_c3
  · exact w_c4
  · exact w_c5
  · exact w_c6
  · exact w_c7
  · exact w_c8
  · exact w_c9
  · exact w_c10
  · exact w_c11
set_option maxRecDepth 65536 in
theorem w_t1 : (words1.take 24).all (fun c => isCode c || c.before args0 about1) = true := by decide +kernel
set_option maxRecDepth 65536 in
theorem w_t2 : ((words1.drop 24).take 24).all (fun c => isCode c || c.before args0 about1) = true := by decide +kernel
set_option maxRecDepth 65536 in
theorem w_t3 : ((words1.drop 24).drop 24).all (fun c => isCode c || c.before args0 about1) = true := by decide +kernel
theorem w_tables : (allAtoms (Jvm.Cond.code x code maxLocals ret :: tables_1)).before args0 about1 = true := by
  rw [allAtoms_all]
  show words1.all (fun c => c.before args0 about1) = true
  refine all_split ?_ w_codes
  rw [← List.take_append_drop 24 words1, List.all_append, w_t1, ← List.take_append_drop 24 (words1.drop 24), List.all_append, w_t2, w_t3]
  rfl
set_option maxRecDepth 65536 in
theorem w_case : (Jvm.Cond.and given_1 narrow_1).before args0 about1 = true := by decide +kernel
theorem w_applies : (headSpec (Jvm.Cond.code x code maxLocals ret :: tables_1) room_1).applies x e0.platform about1 = true :=
  (Spec.applies_iff w_frames).mpr ⟨w_running, w_runnable, w_alone, w_named, w_hears, w_ripe, w_room, w_tables⟩
theorem atStart : AtStart classFile x code maxLocals ret World_1 tables_1 room_1 Calls_1 rest_1 Pre_1 launch0 p0 e0 about1 theMethod args0 below0 :=
  ⟨lists_1, trivial, launch0.admits_env _ _ _, launch0.least_env, fairChoices_fair.cas, fairChoices_fair.clock, w_frames, w_args, w_heap, w_applies, trivial, trivial, w_case⟩
end start1
theorem witness_1 : WitnessClaimed_1 := ⟨start1.p0, start1.e0, start1.about1, start1.theMethod, start1.args0, start1.below0, start1.atStart⟩
end Jvm.Pilot.@@N@@
