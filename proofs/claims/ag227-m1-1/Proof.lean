import JvmDerived
import JvmDerived.Pilot.@@N@@Statement
import JvmDerived.Pilot.@@N@@Code
set_option linter.unusedVariables false
set_option linter.unusedSimpArgs false
@@BLOCK:NumsL.lean.txt@@
namespace Jvm.Pilot.@@N@@
open Jvm Jvm.ClassFile Sem Op Lib Jvm.Free Jvm.Stand Jvm.LawKit Jvm.RoadKit Bundle Jvm.Pilot.@@N@@.Jvm.D
/-! OWN: the walks' own small calculus: 'Go' says that the run, standing in T with the top frame g, comes to an end that answers; every step carries a Go at the next place back to a Go at this one, so that a walk may fork and join. -/
section Own
variable {p : Program} {l : Launch} {e : Env} {R : Room} {s Z : State} {m : MethodId} {args a0 : Array Value} {below : List Frame} {meth : Method} {c : Code} {T : State} {locs : List Loc} {cells slots : Nat} {h : Heap} {P : Outcome → State → Prop}
/-- what a body must come to -/
def OwnEnd (Q : Option Value → Heap → List Loc → Prop) (s : State) (k n : Nat) (o : Outcome) (t : State) : Prop := ∃ v L, o = .returned v ∧ Q v t.heap L ∧ FrameEnd s o t L k n
def Go (p : Program) (e : Env) (below : List Frame) (P : Outcome → State → Prop) (T : State) (g : JFrame) : Prop := ∃ t o, Steps p.tables e below (T.setTop g) t ∧ t.status = .running ∧ Ended t below o ∧ P o t
theorem Go.of {T' : State} {g g' : JFrame} (k : ∀ t, Steps p.tables e below (T'.setTop g') t → Steps p.tables e below (T.setTop g) t) (K : Go p e below P T' g') : Go p e below P T g := by
  obtain ⟨t, o, h1, h2⟩ := K
  exact ⟨t, o, k t h1, h2⟩
theorem Go.joinI {g : JFrame} (X : Stand p l e R s m args below meth c T locs cells slots) (eT : T.heap = h) (v0 : Int32) (g1 : Int32 → JFrame) (K : (∀ (T' : State) (v : Int32), v = v0 → Stand p l e R s m args below meth c T' locs cells slots → T'.heap = h → Go p e below P T' (g1 v)) → Go p e below P T g)
    (J : ∀ T', Stand p l e R s m args below meth c T' locs cells slots → T'.heap = h → Go p e below P T' (g1 v0)) : Go p e below P T g := K fun T' v q X' e' => q ▸ J T' X' e'
theorem Go.joinJ {g : JFrame} (X : Stand p l e R s m args below meth c T locs cells slots) (eT : T.heap = h) (v0 : Int64) (g1 : Int64 → JFrame) (K : (∀ (T' : State) (v : Int64), v = v0 → Stand p l e R s m args below meth c T' locs cells slots → T'.heap = h → Go p e below P T' (g1 v)) → Go p e below P T g)
    (J : ∀ T', Stand p l e R s m args below meth c T' locs cells slots → T'.heap = h → Go p e below P T' (g1 v0)) : Go p e below P T g := K fun T' v q X' e' => q ▸ J T' X' e'
theorem Go.joinR {g : JFrame} (X : Stand p l e R s m args below meth c T locs cells slots) (eT : T.heap = h) (v0 : Addr) (g1 : Addr → JFrame) (K : (∀ (T' : State) (v : Addr), v = v0 → Stand p l e R s m args below meth c T' locs cells slots → T'.heap = h → Go p e below P T' (g1 v)) → Go p e below P T g)
    (J : ∀ T', Stand p l e R s m args below meth c T' locs cells slots → T'.heap = h → Go p e below P T' (g1 v0)) : Go p e below P T g := K fun T' v q X' e' => q ▸ J T' X' e'
theorem Go.cast {g g' : JFrame} (q : g = g') (K : Go p e below P T g') : Go p e below P T g := q ▸ K
theorem Go.leave (X : Stand p l e R s m args below meth c T locs cells slots) {g : JFrame} {v : Option Value} (hv : meth.sig.returnType = none → v = none) (hlk : meth.locks = false) {Q : Option Value → Heap → List Loc → Prop} {k n : Nat} (hc : cells ≤ k) (hs : slots ≤ n) (hQ : Q v T.heap locs)
    (st : ∀ fs, (∀ (f : JFrame) (acts : List Action), f.method = m → f.locked = none → f.entered = [] → (doReturn e (T.setTop f) acts v).1 = T.setFrames fs) → Steps p.tables e below (T.setTop g) (T.setFrames fs)) : Go p e below (OwnEnd Q s k n) T g := by
  obtain ⟨fs, hr, hrun, hended, hW, hsame⟩ := X.leave hv hlk
  exact ⟨_, _, st fs hr, hrun, hended, _, _, rfl, hQ, ⟨_, rfl⟩, hW, hsame.mono hc hs⟩
theorem Go.retZ (X : Stand p l e R s m args below meth c T locs cells slots) (hx : p.tables.exec = Jvm.exec) {pc pc0 : Nat} {Ls : Array Slot} {z z' : Int32} {rest : List Value} (hret : meth.sig.returnType = some .boolean) (hlk : meth.locks = false) (hd : decode c.code pc0 = .ok (.ireturn, 1)) (hpc : pc = pc0) {Q : Option Value → Heap → List Loc → Prop} {k n : Nat}
    (hz : z &&& 1 = z') (hQ : Q (some (.int z')) T.heap locs) (hc : cells ≤ k) (hs : slots ≤ n) : Go p e below (OwnEnd Q s k n) T (mkF m pc Ls (.int z :: rest)) := by
  subst hz hpc
  exact Go.leave X (v := some (.int (nar .boolean z))) (fun q => by rw [hret] at q; cases q) hlk hc hs hQ fun fs hr => retN X hx (t := .boolean) hret (by simp) hd hr
theorem Go.retW (X : Stand p l e R s m args below meth c T locs cells slots) (hx : p.tables.exec = Jvm.exec) {pc pc0 : Nat} {Ls : Array Slot} {w : Value} {t : FieldType} {i : Instr} {rest : List Value} (hret : meth.sig.returnType = some t) (hlk : meth.locks = false) (hn : narrow t w = w)
    (hi : (i = .ireturn ∧ (t = .int ∨ t = .boolean ∨ t = .byte ∨ t = .char ∨ t = .short) ∧ ∃ z, w = .int z) ∨ (i = .lreturn ∧ t = .long ∧ ∃ z, w = .long z) ∨ (i = .dreturn ∧ t = .double ∧ ∃ z, w = .double z) ∨ (i = .freturn ∧ t = .float ∧ ∃ z, w = .float z) ∨ (i = .areturn ∧ t.isReference = true ∧ w.isRef = true))
    (hd : decode c.code pc0 = .ok (i, 1)) (hpc : pc = pc0) {Q : Option Value → Heap → List Loc → Prop} {k n : Nat} (hQ : Q (some w) T.heap locs) (hc : cells ≤ k) (hs : slots ≤ n) : Go p e below (OwnEnd Q s k n) T (mkF m pc Ls (w :: rest)) := by
  subst hpc
  exact Go.leave X (v := some w) (fun q => by rw [hret] at q; cases q) hlk hc hs hQ fun fs hr => retOut X hx hret hn hi hd hr
theorem Go.retI (X : Stand p l e R s m args below meth c T locs cells slots) (hx : p.tables.exec = Jvm.exec) {pc pc0 : Nat} {Ls : Array Slot} {z : Int32} {rest : List Value} (hret : meth.sig.returnType = some .int) (hlk : meth.locks = false) (hd : decode c.code pc0 = .ok (.ireturn, 1)) (hpc : pc = pc0) {Q : Option Value → Heap → List Loc → Prop} {k n : Nat}
    (hQ : Q (some (.int z)) T.heap locs) (hc : cells ≤ k) (hs : slots ≤ n) : Go p e below (OwnEnd Q s k n) T (mkF m pc Ls (.int z :: rest)) := Go.retW X hx hret hlk rfl (Or.inl ⟨rfl, Or.inl rfl, _, rfl⟩) hd hpc hQ hc hs
theorem Go.retJ (X : Stand p l e R s m args below meth c T locs cells slots) (hx : p.tables.exec = Jvm.exec) {pc pc0 : Nat} {Ls : Array Slot} {z : Int64} {rest : List Value} (hret : meth.sig.returnType = some .long) (hlk : meth.locks = false) (hd : decode c.code pc0 = .ok (.lreturn, 1)) (hpc : pc = pc0) {Q : Option Value → Heap → List Loc → Prop} {k n : Nat}
    (hQ : Q (some (.long z)) T.heap locs) (hc : cells ≤ k) (hs : slots ≤ n) : Go p e below (OwnEnd Q s k n) T (mkF m pc Ls (.long z :: rest)) := Go.retW X hx hret hlk rfl (Or.inr (Or.inl ⟨rfl, rfl, _, rfl⟩)) hd hpc hQ hc hs
theorem Go.retA (X : Stand p l e R s m args below meth c T locs cells slots) (hx : p.tables.exec = Jvm.exec) {pc pc0 : Nat} {Ls : Array Slot} {w : Value} {t : FieldType} {rest : List Value} (hret : meth.sig.returnType = some t) (hlk : meth.locks = false) (ht : t.isReference = true) (hw : w.isRef = true) (hd : decode c.code pc0 = .ok (.areturn, 1)) (hpc : pc = pc0) {Q : Option Value → Heap → List Loc → Prop} {k n : Nat}
    (hQ : Q (some w) T.heap locs) (hc : cells ≤ k) (hs : slots ≤ n) : Go p e below (OwnEnd Q s k n) T (mkF m pc Ls (w :: rest)) := by
  refine Go.retW X hx hret hlk ?_ (Or.inr (Or.inr (Or.inr (Or.inr ⟨rfl, ht, hw⟩)))) hd hpc hQ hc hs
  rcases ref_cases hw with rfl | ⟨a, rfl⟩ <;> cases t <;> first | rfl | (simp [FieldType.isReference] at ht)
theorem Go.retV (X : Stand p l e R s m args below meth c T locs cells slots) (hx : p.tables.exec = Jvm.exec) {pc pc0 : Nat} {Ls : Array Slot} (hret : meth.sig.returnType = none) (hlk : meth.locks = false) (hd : decode c.code pc0 = .ok (.return_, 1)) (hpc : pc = pc0) {Q : Option Value → Heap → List Loc → Prop} {k n : Nat}
    (hQ : Q none T.heap locs) (hc : cells ≤ k) (hs : slots ≤ n) : Go p e below (OwnEnd Q s k n) T (mkF m pc Ls []) := by
  subst hpc
  exact Go.leave X (v := none) (fun _ => rfl) hlk hc hs hQ fun fs hr => X.returnOut hx hret hd hr
/-- a contract of a body: called on these arguments and this heap -/
def Ctr (l : Launch) (Z : State) (y : MethodName) (code : ByteArray) (mx : Nat) (ret : Option FieldType) (Rm : Room) (as' : Array Value) (h : Heap) (Q : Option Value → Heap → List Loc → Prop) : Prop :=
  ∀ ws : List Cond, MetFree l y (head1 (Cond.code y code mx ret :: ws) Rm) (fun a U => a = as' ∧ Z.Warmed39 U.vm ∧ U.heap = h) (fun _ _ _ _ _ => True) (fun _ U o U' => OwnEnd Q U Rm.cells Rm.slots o U')
theorem Ctr.of {y : MethodName} {code : ByteArray} {mx : Nat} {ret : Option FieldType} {Rm : Room} {as' : Array Value} {Q : Option Value → Heap → List Loc → Prop} (hp : plainFor y = true)
    (body : ∀ (p : Program) (e : Env) (s : State) (m : MethodId) (below : List Frame) (meth : Method) (c : Code) (s₁ : State), p.tables.exec = Jvm.exec → c.code = code → c.maxLocals = mx → s.vm.findClass y.cls = some m.cls → meth.name = y.name → meth.sig.returnType = ret → meth.locks = false → Z.Warmed39 s.vm →
      Stand p l e Rm s m as' below meth c s₁ [] 0 0 → s₁.heap = h → Go p e below (OwnEnd Q s Rm.cells Rm.slots) s₁ (entryFrame m as' mx)) : Ctr l Z y code mx ret Rm as' h Q := by
  intro ws
  refine MetFree.of_bodySF hp hisR ?_
  intro p e s m args below meth c s₁ Bd hml hP hK
  obtain ⟨rfl, hZ, hh⟩ := hP
  exact body p e s m below meth c s₁ Bd.exec Bd.bytes hml (findClass_of_methodNamed Bd.named) (name_of_methodNamed Bd.named Bd.method).1 Bd.returns Bd.notSynchronized hZ (Stand.of_body Bd) (by rw [← hh, Bd.state]; rfl)
/-- a body that returns V, writes nothing and makes nothing -/
def Pur (l : Launch) (Z : State) (y : MethodName) (code : ByteArray) (mx : Nat) (ret : Option FieldType) (fr lo : Nat) (as' : Array Value) (h : Heap) (V : Option Value) : Prop :=
  Ctr l Z y code mx ret ({ frames := fr, cells := 0, slots := 0, locals := lo } : Room) as' h fun v h' L => v = V ∧ L = [] ∧ h' = h
theorem Go.callS (X : Stand p l e R s m args below meth c T locs cells slots) (hx : p.tables.exec = Jvm.exec) (hZ : Z.Warmed39 s.vm) {own : String} {index : Nat} {y : MethodName} {bytes : ByteArray} {maxL : Nat} {ret : Option FieldType} (hown : s.vm.findClass own = some m.cls)
    (w1 : (Cond.methodLink own index y).before a0 Z = true) (w2 : (Cond.static y).before a0 Z = true) (w3 : (Cond.initialized y.cls).before a0 Z = true) (w4 : (Cond.code y bytes maxL ret).before a0 Z = true) (hy : y.cls ≠ "java/lang/invoke/MethodHandle" ∧ y.cls ≠ "java/lang/invoke/VarHandle")
    {Rm : Room} {Q : Option Value → Heap → List Loc → Prop} (argsL rest : List Value) (C : Ctr l Z y bytes maxL ret Rm argsL.toArray h Q) (eT : T.heap = h) {pc : Nat} {Ls : Array Slot} {st : List Value} (hst : st = argsL.reverse ++ rest) (hsz : Ls.size = c.maxLocals) {ps : List FieldType} {r : Option FieldType} (hpd : parseMethodDescriptor y.desc = some ⟨ps, r⟩) (hln : argsL.length = ps.length)
    (hd : decode c.code pc = .ok (.invokestatic index, 3)) (hfr : Rm.frames + 1 ≤ R.frames) (hlo : (rest.map fun v => v.category).sum + (maxL + 11) + Rm.locals ≤ R.locals) (hc : cells + Rm.cells ≤ R.cells) (hs : slots + Rm.slots ≤ R.slots)
    (K : ∀ v T' L, Stand p l e R s m args below meth c T' (locs ++ L) (cells + Rm.cells) (slots + Rm.slots) → Q v T'.heap L → Go p e below P T' (mkF m (pc + 3) Ls (v.toList ++ rest))) : Go p e below P T (mkF m pc Ls st) := by
  subst hst
  obtain ⟨v, _, ⟨T', L', k', n'⟩, -, X', ⟨L, hQ, l1, l2, l3⟩, st⟩ := Jvm.LawKit.callS X hx (y := y) hown (mvT hZ w1) (mvT hZ w2) (mvT hZ w3) (mvT hZ w4) hy (backOf (W := (rest.map fun v => v.category).sum) (Q := Q) (C []) hZ w4 w3 hfr hlo) (g := mkF m pc Ls (argsL.reverse ++ rest)) rfl hsz (argsL := argsL) (rest := rest) (lenOf hpd hln) rfl (by show 2 * 0 + _ ≤ _; omega) hd (fun _ _ => ⟨rfl, eT, hc, hs⟩)
  dsimp only [Pt.U, Pt.locs, Pt.cells, Pt.slots] at X' l1 l2 l3 st hQ
  subst l1 l2 l3
  exact Go.of st (K v T' L X' hQ)
theorem Go.pureS (X : Stand p l e R s m args below meth c T locs cells slots) (hx : p.tables.exec = Jvm.exec) (hZ : Z.Warmed39 s.vm) {own : String} {index : Nat} {y : MethodName} {bytes : ByteArray} {maxL : Nat} {ret : Option FieldType} (hown : s.vm.findClass own = some m.cls)
    (w1 : (Cond.methodLink own index y).before a0 Z = true) (w2 : (Cond.static y).before a0 Z = true) (w3 : (Cond.initialized y.cls).before a0 Z = true) (w4 : (Cond.code y bytes maxL ret).before a0 Z = true) (hy : y.cls ≠ "java/lang/invoke/MethodHandle" ∧ y.cls ≠ "java/lang/invoke/VarHandle")
    {fr lo : Nat} {V : Option Value} (argsL rest : List Value) (C : Pur l Z y bytes maxL ret fr lo argsL.toArray h V) (eT : T.heap = h) {pc : Nat} {Ls : Array Slot} {st : List Value} (hst : st = argsL.reverse ++ rest) (hsz : Ls.size = c.maxLocals) {ps : List FieldType} {r : Option FieldType} (hpd : parseMethodDescriptor y.desc = some ⟨ps, r⟩) (hln : argsL.length = ps.length)
    (hd : decode c.code pc = .ok (.invokestatic index, 3)) (hfr : fr + 1 ≤ R.frames) (hlo : (rest.map fun v => v.category).sum + (maxL + 11) + lo ≤ R.locals) (hc : cells ≤ R.cells) (hs : slots ≤ R.slots)
    (K : ∀ T', Stand p l e R s m args below meth c T' locs cells slots → T'.heap = h → Go p e below P T' (mkF m (pc + 3) Ls (V.toList ++ rest))) : Go p e below P T (mkF m pc Ls st) := by
  refine Go.callS X hx hZ hown w1 w2 w3 w4 hy argsL rest C eT hst hsz hpd hln hd hfr hlo hc hs ?_
  rintro v T' L X' ⟨rfl, rfl, e'⟩
  rw [List.append_nil] at X'
  exact K T' X' e'
theorem Go.callV (X : Stand p l e R s m args below meth c T locs cells slots) (hx : p.tables.exec = Jvm.exec) (hZ : Z.Warmed39 s.vm) {own C : String} {index : Nat} {y z : MethodName} {bytes : ByteArray} {maxL : Nat} {ret : Option FieldType} (hown : s.vm.findClass own = some m.cls)
    (w1 : (Cond.methodLink own index y).before a0 Z = true) (w2 : (Cond.declares y).before a0 Z = true) (hnf : NotFace s y) (w3 : (Cond.selects C y z).before a0 Z = true) (w4 : (Cond.instanceMethod z).before a0 Z = true) (w5 : (Cond.initialized z.cls).before a0 Z = true) (w6 : (Cond.code z bytes maxL ret).before a0 Z = true) (hy : y.cls ≠ "java/lang/invoke/MethodHandle" ∧ y.cls ≠ "java/lang/invoke/VarHandle")
    {Rm : Room} {Q : Option Value → Heap → List Loc → Prop} {b : Addr} (argsL rest : List Value) (E : Exa Z h b C) (Ct : Ctr l Z z bytes maxL ret Rm (.ref b :: argsL).toArray h Q) (eT : T.heap = h) {pc : Nat} {Ls : Array Slot} {st : List Value} (hst : st = argsL.reverse ++ .ref b :: rest) (hsz : Ls.size = c.maxLocals) {ps : List FieldType} {r : Option FieldType} (hpd : parseMethodDescriptor y.desc = some ⟨ps, r⟩) (hln : argsL.length = ps.length)
    (hd : decode c.code pc = .ok (.invokevirtual index, 3)) (hfr : Rm.frames + 1 ≤ R.frames) (hlo : (rest.map fun v => v.category).sum + (maxL + 11) + Rm.locals ≤ R.locals) (hc : cells + Rm.cells ≤ R.cells) (hs : slots + Rm.slots ≤ R.slots)
    (K : ∀ v T' L, Stand p l e R s m args below meth c T' (locs ++ L) (cells + Rm.cells) (slots + Rm.slots) → Q v T'.heap L → Go p e below P T' (mkF m (pc + 3) Ls (v.toList ++ rest))) : Go p e below P T (mkF m pc Ls st) := by
  subst hst
  obtain ⟨cq, kq, q1, q2, q3⟩ := isOf hZ eT E
  obtain ⟨v, _, ⟨T', L', k', n'⟩, -, X', ⟨L, hQ, l1, l2, l3⟩, st⟩ := X.virtualBack hx (y := y) (z := z) hown (mvT hZ w1) (mvT hZ w2) hnf (mvT hZ w3) (mvT hZ w4) hy (backOf (W := (rest.map fun v => v.category).sum) (Q := Q) (Ct []) hZ w6 w5 hfr hlo) q1 q3 (g := mkF m pc Ls (argsL.reverse ++ .ref b :: rest)) rfl hsz (Steps.refl _) (argsL := argsL) (rest := rest) (lenOf hpd hln) rfl (by show 2 * 0 + _ ≤ _; omega) hd (fun _ _ => ⟨rfl, eT, hc, hs⟩)
  dsimp only [Pt.U, Pt.locs, Pt.cells, Pt.slots] at X' l1 l2 l3 st hQ
  subst l1 l2 l3
  exact Go.of (fun _ k => st.trans k) (K v T' L X' hQ)
theorem Go.pureV (X : Stand p l e R s m args below meth c T locs cells slots) (hx : p.tables.exec = Jvm.exec) (hZ : Z.Warmed39 s.vm) {own C : String} {index : Nat} {y z : MethodName} {bytes : ByteArray} {maxL : Nat} {ret : Option FieldType} (hown : s.vm.findClass own = some m.cls)
    (w1 : (Cond.methodLink own index y).before a0 Z = true) (w2 : (Cond.declares y).before a0 Z = true) (hnf : NotFace s y) (w3 : (Cond.selects C y z).before a0 Z = true) (w4 : (Cond.instanceMethod z).before a0 Z = true) (w5 : (Cond.initialized z.cls).before a0 Z = true) (w6 : (Cond.code z bytes maxL ret).before a0 Z = true) (hy : y.cls ≠ "java/lang/invoke/MethodHandle" ∧ y.cls ≠ "java/lang/invoke/VarHandle")
    {fr lo : Nat} {V : Option Value} {b : Addr} (argsL rest : List Value) (E : Exa Z h b C) (Ct : Pur l Z z bytes maxL ret fr lo (.ref b :: argsL).toArray h V) (eT : T.heap = h) {pc : Nat} {Ls : Array Slot} {st : List Value} (hst : st = argsL.reverse ++ .ref b :: rest) (hsz : Ls.size = c.maxLocals) {ps : List FieldType} {r : Option FieldType} (hpd : parseMethodDescriptor y.desc = some ⟨ps, r⟩) (hln : argsL.length = ps.length)
    (hd : decode c.code pc = .ok (.invokevirtual index, 3)) (hfr : fr + 1 ≤ R.frames) (hlo : (rest.map fun v => v.category).sum + (maxL + 11) + lo ≤ R.locals) (hc : cells ≤ R.cells) (hs : slots ≤ R.slots)
    (K : ∀ T', Stand p l e R s m args below meth c T' locs cells slots → T'.heap = h → Go p e below P T' (mkF m (pc + 3) Ls (V.toList ++ rest))) : Go p e below P T (mkF m pc Ls st) := by
  refine Go.callV X hx hZ hown w1 w2 hnf w3 w4 w5 w6 hy argsL rest E Ct eT hst hsz hpd hln hd hfr hlo hc hs ?_
  rintro v T' L X' ⟨rfl, rfl, e'⟩
  rw [List.append_nil] at X'
  exact K T' X' e'
theorem Go.callU (X : Stand p l e R s m args below meth c T locs cells slots) (hx : p.tables.exec = Jvm.exec) (hZ : Z.Warmed39 s.vm) {own C ow : String} {index : Nat} {y z : MethodName} {bytes : ByteArray} {maxL : Nat} {ret : Option FieldType} (hown : s.vm.findClass own = some m.cls)
    (w1 : (Cond.methodLink own index y).before a0 Z = true) (w2 : (Cond.sameMethod y.cls ow y.name y.desc).before a0 Z = true) (w2' : (Cond.declares ⟨ow, y.name, y.desc⟩).before a0 Z = true) (w3 : (Cond.selects C y z).before a0 Z = true) (w4 : (Cond.instanceMethod z).before a0 Z = true) (w5 : (Cond.initialized z.cls).before a0 Z = true) (w6 : (Cond.code z bytes maxL ret).before a0 Z = true) (hy : ow ≠ "java/lang/invoke/MethodHandle" ∧ ow ≠ "java/lang/invoke/VarHandle")
    {Rm : Room} {Q : Option Value → Heap → List Loc → Prop} {b : Addr} (argsL rest : List Value) (E : Exa Z h b C) (Ct : Ctr l Z z bytes maxL ret Rm (.ref b :: argsL).toArray h Q) (eT : T.heap = h) {pc : Nat} {Ls : Array Slot} {st : List Value} (hst : st = argsL.reverse ++ .ref b :: rest) (hsz : Ls.size = c.maxLocals) {ps : List FieldType} {r : Option FieldType} (hpd : parseMethodDescriptor y.desc = some ⟨ps, r⟩) (hln : argsL.length = ps.length)
    (hd : decode c.code pc = .ok (.invokevirtual index, 3)) (hfr : Rm.frames + 1 ≤ R.frames) (hlo : (rest.map fun v => v.category).sum + (maxL + 11) + Rm.locals ≤ R.locals) (hc : cells + Rm.cells ≤ R.cells) (hs : slots + Rm.slots ≤ R.slots)
    (K : ∀ v T' L, Stand p l e R s m args below meth c T' (locs ++ L) (cells + Rm.cells) (slots + Rm.slots) → Q v T'.heap L → Go p e below P T' (mkF m (pc + 3) Ls (v.toList ++ rest))) : Go p e below P T (mkF m pc Ls st) := by
  subst hst
  obtain ⟨cq, kq, q1, q2, q3⟩ := isOf hZ eT E
  obtain ⟨v, _, ⟨T', L', k', n'⟩, -, X', ⟨L, hQ, l1, l2, l3⟩, st⟩ := X.virtualBackUp hx (x := y) (y := z) (owner := ow) hown (mvT hZ w1) (mvT hZ w2) (mvT hZ w2') hy (mvT hZ w3) (mvT hZ w4) (backOf (W := (rest.map fun v => v.category).sum) (Q := Q) (Ct []) hZ w6 w5 hfr hlo) q1 q3 (g := mkF m pc Ls (argsL.reverse ++ .ref b :: rest)) rfl hsz (Steps.refl _) (argsL := argsL) (rest := rest) (lenOf hpd hln) rfl (by show 2 * 0 + _ ≤ _; omega) hd (fun _ _ => ⟨rfl, eT, hc, hs⟩)
  dsimp only [Pt.U, Pt.locs, Pt.cells, Pt.slots] at X' l1 l2 l3 st hQ
  subst l1 l2 l3
  exact Go.of (fun _ k => st.trans k) (K v T' L X' hQ)
theorem Go.pureU (X : Stand p l e R s m args below meth c T locs cells slots) (hx : p.tables.exec = Jvm.exec) (hZ : Z.Warmed39 s.vm) {own C ow : String} {index : Nat} {y z : MethodName} {bytes : ByteArray} {maxL : Nat} {ret : Option FieldType} (hown : s.vm.findClass own = some m.cls)
    (w1 : (Cond.methodLink own index y).before a0 Z = true) (w2 : (Cond.sameMethod y.cls ow y.name y.desc).before a0 Z = true) (w2' : (Cond.declares ⟨ow, y.name, y.desc⟩).before a0 Z = true) (w3 : (Cond.selects C y z).before a0 Z = true) (w4 : (Cond.instanceMethod z).before a0 Z = true) (w5 : (Cond.initialized z.cls).before a0 Z = true) (w6 : (Cond.code z bytes maxL ret).before a0 Z = true) (hy : ow ≠ "java/lang/invoke/MethodHandle" ∧ ow ≠ "java/lang/invoke/VarHandle")
    {fr lo : Nat} {V : Option Value} {b : Addr} (argsL rest : List Value) (E : Exa Z h b C) (Ct : Pur l Z z bytes maxL ret fr lo (.ref b :: argsL).toArray h V) (eT : T.heap = h) {pc : Nat} {Ls : Array Slot} {st : List Value} (hst : st = argsL.reverse ++ .ref b :: rest) (hsz : Ls.size = c.maxLocals) {ps : List FieldType} {r : Option FieldType} (hpd : parseMethodDescriptor y.desc = some ⟨ps, r⟩) (hln : argsL.length = ps.length)
    (hd : decode c.code pc = .ok (.invokevirtual index, 3)) (hfr : fr + 1 ≤ R.frames) (hlo : (rest.map fun v => v.category).sum + (maxL + 11) + lo ≤ R.locals) (hc : cells ≤ R.cells) (hs : slots ≤ R.slots)
    (K : ∀ T', Stand p l e R s m args below meth c T' locs cells slots → T'.heap = h → Go p e below P T' (mkF m (pc + 3) Ls (V.toList ++ rest))) : Go p e below P T (mkF m pc Ls st) := by
  refine Go.callU X hx hZ hown w1 w2 w2' w3 w4 w5 w6 hy argsL rest E Ct eT hst hsz hpd hln hd hfr hlo hc hs ?_
  rintro v T' L X' ⟨rfl, rfl, e'⟩
  rw [List.append_nil] at X'
  exact K T' X' e'
theorem Go.callI (X : Stand p l e R s m args below meth c T locs cells slots) (hx : p.tables.exec = Jvm.exec) (hZ : Z.Warmed39 s.vm) {own : String} {index : Nat} {y : MethodName} {bytes : ByteArray} {maxL : Nat} (hyn : y.name = "<init>") (hown : s.vm.findClass own = some m.cls)
    (w1 : (Cond.methodLink own index y).before a0 Z = true) (w2 : (Cond.instanceMethod y).before a0 Z = true) (w3 : (Cond.initialized y.cls).before a0 Z = true) (w4 : (Cond.code y bytes maxL none).before a0 Z = true) (hy : y.cls ≠ "java/lang/invoke/MethodHandle" ∧ y.cls ≠ "java/lang/invoke/VarHandle")
    {Rm : Room} {Q : Option Value → Heap → List Loc → Prop} {b : Addr} (argsL rest : List Value) (C : Ctr l Z y bytes maxL none Rm (.ref b :: argsL).toArray h Q) (eT : T.heap = h) {pc : Nat} {Ls : Array Slot} {st : List Value} (hst : st = argsL.reverse ++ .ref b :: rest) (hsz : Ls.size = c.maxLocals) {ps : List FieldType} {r : Option FieldType} (hpd : parseMethodDescriptor y.desc = some ⟨ps, r⟩) (hln : argsL.length = ps.length)
    (hd : decode c.code pc = .ok (.invokespecial index, 3)) (hfr : Rm.frames + 1 ≤ R.frames) (hlo : (rest.map fun v => v.category).sum + (maxL + 11) + Rm.locals ≤ R.locals) (hc : cells + Rm.cells ≤ R.cells) (hs : slots + Rm.slots ≤ R.slots)
    (K : ∀ v T' L, Stand p l e R s m args below meth c T' (locs ++ L) (cells + Rm.cells) (slots + Rm.slots) → Q v T'.heap L → Go p e below P T' (mkF m (pc + 3) Ls (v.toList ++ rest))) : Go p e below P T (mkF m pc Ls st) := by
  subst hst
  obtain ⟨v, _, ⟨T', L', k', n'⟩, -, X', ⟨L, hQ, l1, l2, l3⟩, st⟩ := X.specialBack hx (y := y) hyn hown (mvT hZ w1) (mvT hZ w2) (mvT hZ w4) hy (backOf (W := (rest.map fun v => v.category).sum) (Q := Q) (C []) hZ w4 w3 hfr hlo) (g := mkF m pc Ls (argsL.reverse ++ .ref b :: rest)) rfl hsz (Steps.refl _) (a := b) (argsL := argsL) (rest := rest) (lenOf hpd hln) rfl (by show 2 * 0 + _ ≤ _; omega) hd (fun _ _ => ⟨rfl, eT, hc, hs⟩)
  dsimp only [Pt.U, Pt.locs, Pt.cells, Pt.slots] at X' l1 l2 l3 st hQ
  subst l1 l2 l3
  exact Go.of (fun _ k => st.trans k) (K v T' L X' hQ)
end Own
theorem own_nf {args : Array Value} {s : State} {C : String} {y y' : MethodName} (hc : y.cls = y'.cls) (hsel : (Cond.selects C y' y').before args s = true) : NotFace s y := fun r0 h0 => by
  obtain ⟨c2, r2, m2, q1, q2, q3, q4, kP, hkP, hkPi⟩ := Cond.selects_spec hsel
  have e1 := findClass_of_methodNamed h0
  have e2 := findClass_of_methodNamed q3
  rw [hc] at e1
  have e3 : r0.cls = m2.cls := Option.some.inj (e1.symm.trans e2)
  exact ⟨kP, e3 ▸ hkP, hkPi⟩
section OwnWords
variable {args : Array Value} {s : State} {a b t i : Term} {v : Value}
theorem own_eqv (g : (Cond.eq a b).value args s none s [] = some true) (hb : b.eval args s none [] s = some v) : a.eval args s none [] s = some v := by
  cases ha : a.eval args s none [] s with
  | none => simp [Cond.value, ha] at g
  | some x => cases x <;> cases v <;> simp [Cond.value, ha, hb] at g ⊢ <;> exact g
theorem own_len {x : Addr} {cl : Cell} {ty : FieldType} {n : Int32} (A : Arr s s.heap x cl ty) (ht : t.eval args s none [] s = some (.ref x)) (g : (Term.length t).eval args s none [] s = some (.int n)) : cl.slots.size < 2 ^ 31 ∧ cl.slots.size.toInt32 = n := by
  have q := A.fin (Vm.Alike.refl _)
  by_cases hl : cl.slots.size < 2 ^ 31
  · refine ⟨hl, ?_⟩
    have e := len_f (args := args) (first := s) (o := none) (idx := []) ht q hl
    exact Value.int.inj (Option.some.inj (e.symm.trans g))
  · simp [Term.eval, ht, q, hl] at g
theorem own_elem {x : Addr} {cl : Cell} {ty : FieldType} {j : Int32} {k : Nat} (A : Arr s s.heap x cl ty) (ht : t.eval args s none [] s = some (.ref x)) (hk : j.toNatClampNeg = k) (g : (Term.elem t (.int j)).eval args s none [] s = some v) : cl.slots[k]? = some v := by
  have e := (elem_in (j := j) (a := .int j) g ht rfl A.1).2
  rw [hk] at e; exact e
end OwnWords
section OwnSteps
variable {p : Program} {l : Launch} {e : Env} {R : Room} {s Z : State} {m : MethodId} {args a0 : Array Value} {below : List Frame} {meth : Method} {c : Code} {T : State} {locs : List Loc} {cells slots : Nat} {h : Heap} {P : Outcome → State → Prop} {pc pc0 : Nat} {Ls : Array Slot} {st : List Value}
theorem Go.iload (X : Stand p l e R s m args below meth c T locs cells slots) (hx : p.tables.exec = Jvm.exec) {k : Nat} {v : Int32} (hd : decode c.code pc0 = .ok (.iload k, 2)) (hpc : pc = pc0) (hl : Ls[k]? = some (.val (.int v))) (K : Go p e below P T (mkF m (pc0 + 2) Ls (.int v :: st))) : Go p e below P T (mkF m pc Ls (st)) := by
  subst hpc
  exact Go.of (fun _ q => XS.iload X.here hx rfl hd hl q) K
theorem Go.iloadN (X : Stand p l e R s m args below meth c T locs cells slots) (hx : p.tables.exec = Jvm.exec) {k : Fin 4} {v : Int32} (hd : decode c.code pc0 = .ok (.iload_n k, 1)) (hpc : pc = pc0) (hl : Ls[k.val]? = some (.val (.int v))) (K : Go p e below P T (mkF m (pc0 + 1) Ls (.int v :: st))) : Go p e below P T (mkF m pc Ls (st)) := by
  subst hpc
  exact Go.of (fun _ q => XS.iloadN X.here hx rfl hd hl q) K
theorem Go.istore (X : Stand p l e R s m args below meth c T locs cells slots) (hx : p.tables.exec = Jvm.exec) {k : Nat} {v : Int32} (hd : decode c.code pc0 = .ok (.istore k, 2)) (hpc : pc = pc0) (l' : Array Slot) (hl : storeLocals Ls k (.int v) = some l') (K : Go p e below P T (mkF m (pc0 + 2) l' (st))) : Go p e below P T (mkF m pc Ls (.int v :: st)) := by
  subst hpc
  exact Go.of (fun _ q => XS.istore X.here hx rfl hd rfl hl q) K
theorem Go.istoreN (X : Stand p l e R s m args below meth c T locs cells slots) (hx : p.tables.exec = Jvm.exec) {k : Fin 4} {v : Int32} (hd : decode c.code pc0 = .ok (.istore_n k, 1)) (hpc : pc = pc0) (l' : Array Slot) (hl : storeLocals Ls k.val (.int v) = some l') (K : Go p e below P T (mkF m (pc0 + 1) l' (st))) : Go p e below P T (mkF m pc Ls (.int v :: st)) := by
  subst hpc
  exact Go.of (fun _ q => XS.istoreN X.here hx rfl hd rfl hl q) K
theorem Go.lload (X : Stand p l e R s m args below meth c T locs cells slots) (hx : p.tables.exec = Jvm.exec) {k : Nat} {v : Int64} (hd : decode c.code pc0 = .ok (.lload k, 2)) (hpc : pc = pc0) (hl : Ls[k]? = some (.val (.long v))) (K : Go p e below P T (mkF m (pc0 + 2) Ls (.long v :: st))) : Go p e below P T (mkF m pc Ls (st)) := by
  subst hpc
  exact Go.of (fun _ q => XS.lload X.here hx rfl hd hl q) K
theorem Go.lloadN (X : Stand p l e R s m args below meth c T locs cells slots) (hx : p.tables.exec = Jvm.exec) {k : Fin 4} {v : Int64} (hd : decode c.code pc0 = .ok (.lload_n k, 1)) (hpc : pc = pc0) (hl : Ls[k.val]? = some (.val (.long v))) (K : Go p e below P T (mkF m (pc0 + 1) Ls (.long v :: st))) : Go p e below P T (mkF m pc Ls (st)) := by
  subst hpc
  exact Go.of (fun _ q => XS.lloadN X.here hx rfl hd hl q) K
theorem Go.lstore (X : Stand p l e R s m args below meth c T locs cells slots) (hx : p.tables.exec = Jvm.exec) {k : Nat} {v : Int64} (hd : decode c.code pc0 = .ok (.lstore k, 2)) (hpc : pc = pc0) (l' : Array Slot) (hl : storeLocals Ls k (.long v) = some l') (K : Go p e below P T (mkF m (pc0 + 2) l' (st))) : Go p e below P T (mkF m pc Ls (.long v :: st)) := by
  subst hpc
  exact Go.of (fun _ q => XS.lstore X.here hx rfl hd rfl hl q) K
theorem Go.lstoreN (X : Stand p l e R s m args below meth c T locs cells slots) (hx : p.tables.exec = Jvm.exec) {k : Fin 4} {v : Int64} (hd : decode c.code pc0 = .ok (.lstore_n k, 1)) (hpc : pc = pc0) (l' : Array Slot) (hl : storeLocals Ls k.val (.long v) = some l') (K : Go p e below P T (mkF m (pc0 + 1) l' (st))) : Go p e below P T (mkF m pc Ls (.long v :: st)) := by
  subst hpc
  exact Go.of (fun _ q => XS.lstoreN X.here hx rfl hd rfl hl q) K
theorem Go.aload (X : Stand p l e R s m args below meth c T locs cells slots) (hx : p.tables.exec = Jvm.exec) {k : Nat} {v : Value} (hd : decode c.code pc0 = .ok (.aload k, 2)) (hpc : pc = pc0) (hl : Ls[k]? = some (.val v)) (hv : v.isRef = true) (K : Go p e below P T (mkF m (pc0 + 2) Ls (v :: st))) : Go p e below P T (mkF m pc Ls (st)) := by
  subst hpc
  exact Go.of (fun _ q => XS.aload X.here hx rfl hd hl hv q) K
theorem Go.aloadN (X : Stand p l e R s m args below meth c T locs cells slots) (hx : p.tables.exec = Jvm.exec) {k : Fin 4} {v : Value} (hd : decode c.code pc0 = .ok (.aload_n k, 1)) (hpc : pc = pc0) (hl : Ls[k.val]? = some (.val v)) (hv : v.isRef = true) (K : Go p e below P T (mkF m (pc0 + 1) Ls (v :: st))) : Go p e below P T (mkF m pc Ls (st)) := by
  subst hpc
  exact Go.of (fun _ q => XS.aloadN X.here hx rfl hd hl hv q) K
theorem Go.astore (X : Stand p l e R s m args below meth c T locs cells slots) (hx : p.tables.exec = Jvm.exec) {k : Nat} {v : Value} (hd : decode c.code pc0 = .ok (.astore k, 2)) (hpc : pc = pc0) (hv : v.isRef = true) (l' : Array Slot) (hl : storeLocals Ls k v = some l') (K : Go p e below P T (mkF m (pc0 + 2) l' (st))) : Go p e below P T (mkF m pc Ls (v :: st)) := by
  subst hpc
  exact Go.of (fun _ q => XS.astore X.here hx rfl hd rfl hv hl q) K
theorem Go.astoreN (X : Stand p l e R s m args below meth c T locs cells slots) (hx : p.tables.exec = Jvm.exec) {k : Fin 4} {v : Value} (hd : decode c.code pc0 = .ok (.astore_n k, 1)) (hpc : pc = pc0) (hv : v.isRef = true) (l' : Array Slot) (hl : storeLocals Ls k.val v = some l') (K : Go p e below P T (mkF m (pc0 + 1) l' (st))) : Go p e below P T (mkF m pc Ls (v :: st)) := by
  subst hpc
  exact Go.of (fun _ q => XS.astoreN X.here hx rfl hd rfl hv hl q) K
theorem Go.iconst (X : Stand p l e R s m args below meth c T locs cells slots) (hx : p.tables.exec = Jvm.exec) {i : Int} (hd : decode c.code pc0 = .ok (.iconst i, 1)) (hpc : pc = pc0) (v : Int32) (hv : Int32.ofInt i = v) (K : Go p e below P T (mkF m (pc0 + 1) Ls (.int v :: st))) : Go p e below P T (mkF m pc Ls (st)) := by
  subst hpc
  subst hv
  exact Go.of (fun _ q => XS.iconst X.here hx rfl hd q) K
theorem Go.bipush (X : Stand p l e R s m args below meth c T locs cells slots) (hx : p.tables.exec = Jvm.exec) {i : Int} (hd : decode c.code pc0 = .ok (.bipush i, 2)) (hpc : pc = pc0) (v : Int32) (hv : (Int8.ofInt i).toInt32 = v) (K : Go p e below P T (mkF m (pc0 + 2) Ls (.int v :: st))) : Go p e below P T (mkF m pc Ls (st)) := by
  subst hpc
  subst hv
  exact Go.of (fun _ q => XS.bipush X.here hx rfl hd q) K
theorem Go.sipush (X : Stand p l e R s m args below meth c T locs cells slots) (hx : p.tables.exec = Jvm.exec) {i : Int} (hd : decode c.code pc0 = .ok (.sipush i, 3)) (hpc : pc = pc0) (v : Int32) (hv : (Int16.ofInt i).toInt32 = v) (K : Go p e below P T (mkF m (pc0 + 3) Ls (.int v :: st))) : Go p e below P T (mkF m pc Ls (st)) := by
  subst hpc
  subst hv
  exact Go.of (fun _ q => XS.sipush X.here hx rfl hd q) K
theorem Go.lconst (X : Stand p l e R s m args below meth c T locs cells slots) (hx : p.tables.exec = Jvm.exec) {k : Fin 2} (hd : decode c.code pc0 = .ok (.lconst k, 1)) (hpc : pc = pc0) (v : Int64) (hv : Int64.ofNat k = v) (K : Go p e below P T (mkF m (pc0 + 1) Ls (.long v :: st))) : Go p e below P T (mkF m pc Ls (st)) := by
  subst hpc
  subst hv
  exact Go.of (fun _ q => XS.lconst X.here hx rfl hd q) K
theorem Go.aconstNull (X : Stand p l e R s m args below meth c T locs cells slots) (hx : p.tables.exec = Jvm.exec)  (hd : decode c.code pc0 = .ok (.aconst_null, 1)) (hpc : pc = pc0)  (K : Go p e below P T (mkF m (pc0 + 1) Ls (.null :: st))) : Go p e below P T (mkF m pc Ls (st)) := by
  subst hpc
  exact Go.of (fun _ q => XS.aconstNull X.here hx rfl hd q) K
theorem Go.iadd (X : Stand p l e R s m args below meth c T locs cells slots) (hx : p.tables.exec = Jvm.exec) {x y : Int32} (hd : decode c.code pc0 = .ok (.iadd, 1)) (hpc : pc = pc0)  (K : Go p e below P T (mkF m (pc0 + 1) Ls (.int (x + y) :: st))) : Go p e below P T (mkF m pc Ls (.int y :: .int x :: st)) := by
  subst hpc
  exact Go.of (fun _ q => XS.iadd X.here hx rfl hd rfl q) K
theorem Go.isub (X : Stand p l e R s m args below meth c T locs cells slots) (hx : p.tables.exec = Jvm.exec) {x y : Int32} (hd : decode c.code pc0 = .ok (.isub, 1)) (hpc : pc = pc0)  (K : Go p e below P T (mkF m (pc0 + 1) Ls (.int (x - y) :: st))) : Go p e below P T (mkF m pc Ls (.int y :: .int x :: st)) := by
  subst hpc
  exact Go.of (fun _ q => XS.isub X.here hx rfl hd rfl q) K
theorem Go.imul (X : Stand p l e R s m args below meth c T locs cells slots) (hx : p.tables.exec = Jvm.exec) {x y : Int32} (hd : decode c.code pc0 = .ok (.imul, 1)) (hpc : pc = pc0)  (K : Go p e below P T (mkF m (pc0 + 1) Ls (.int (x * y) :: st))) : Go p e below P T (mkF m pc Ls (.int y :: .int x :: st)) := by
  subst hpc
  exact Go.of (fun _ q => XS.imul X.here hx rfl hd rfl q) K
theorem Go.iand (X : Stand p l e R s m args below meth c T locs cells slots) (hx : p.tables.exec = Jvm.exec) {x y : Int32} (hd : decode c.code pc0 = .ok (.iand, 1)) (hpc : pc = pc0)  (K : Go p e below P T (mkF m (pc0 + 1) Ls (.int (x &&& y) :: st))) : Go p e below P T (mkF m pc Ls (.int y :: .int x :: st)) := by
  subst hpc
  exact Go.of (fun _ q => XS.iand X.here hx rfl hd rfl q) K
theorem Go.ior (X : Stand p l e R s m args below meth c T locs cells slots) (hx : p.tables.exec = Jvm.exec) {x y : Int32} (hd : decode c.code pc0 = .ok (.ior, 1)) (hpc : pc = pc0)  (K : Go p e below P T (mkF m (pc0 + 1) Ls (.int (x ||| y) :: st))) : Go p e below P T (mkF m pc Ls (.int y :: .int x :: st)) := by
  subst hpc
  exact Go.of (fun _ q => XS.ior X.here hx rfl hd rfl q) K
theorem Go.ixor (X : Stand p l e R s m args below meth c T locs cells slots) (hx : p.tables.exec = Jvm.exec) {x y : Int32} (hd : decode c.code pc0 = .ok (.ixor, 1)) (hpc : pc = pc0)  (K : Go p e below P T (mkF m (pc0 + 1) Ls (.int (x ^^^ y) :: st))) : Go p e below P T (mkF m pc Ls (.int y :: .int x :: st)) := by
  subst hpc
  exact Go.of (fun _ q => XS.ixor X.here hx rfl hd rfl q) K
theorem Go.idiv (X : Stand p l e R s m args below meth c T locs cells slots) (hx : p.tables.exec = Jvm.exec) {x y : Int32} (hd : decode c.code pc0 = .ok (.idiv, 1)) (hpc : pc = pc0) (hy : y ≠ 0) (K : Go p e below P T (mkF m (pc0 + 1) Ls (.int (x / y) :: st))) : Go p e below P T (mkF m pc Ls (.int y :: .int x :: st)) := by
  subst hpc
  exact Go.of (fun _ q => XS.idiv X.here hx rfl hd rfl hy q) K
theorem Go.ineg (X : Stand p l e R s m args below meth c T locs cells slots) (hx : p.tables.exec = Jvm.exec) {x : Int32} (hd : decode c.code pc0 = .ok (.ineg, 1)) (hpc : pc = pc0)  (K : Go p e below P T (mkF m (pc0 + 1) Ls (.int (-x) :: st))) : Go p e below P T (mkF m pc Ls (.int x :: st)) := by
  subst hpc
  exact Go.of (fun _ q => XS.ineg X.here hx rfl hd rfl q) K
theorem Go.ladd (X : Stand p l e R s m args below meth c T locs cells slots) (hx : p.tables.exec = Jvm.exec) {x y : Int64} (hd : decode c.code pc0 = .ok (.ladd, 1)) (hpc : pc = pc0)  (K : Go p e below P T (mkF m (pc0 + 1) Ls (.long (x + y) :: st))) : Go p e below P T (mkF m pc Ls (.long y :: .long x :: st)) := by
  subst hpc
  exact Go.of (fun _ q => XS.ladd X.here hx rfl hd rfl q) K
theorem Go.lsub (X : Stand p l e R s m args below meth c T locs cells slots) (hx : p.tables.exec = Jvm.exec) {x y : Int64} (hd : decode c.code pc0 = .ok (.lsub, 1)) (hpc : pc = pc0)  (K : Go p e below P T (mkF m (pc0 + 1) Ls (.long (x - y) :: st))) : Go p e below P T (mkF m pc Ls (.long y :: .long x :: st)) := by
  subst hpc
  exact Go.of (fun _ q => XS.lsub X.here hx rfl hd rfl q) K
theorem Go.lmul (X : Stand p l e R s m args below meth c T locs cells slots) (hx : p.tables.exec = Jvm.exec) {x y : Int64} (hd : decode c.code pc0 = .ok (.lmul, 1)) (hpc : pc = pc0)  (K : Go p e below P T (mkF m (pc0 + 1) Ls (.long (x * y) :: st))) : Go p e below P T (mkF m pc Ls (.long y :: .long x :: st)) := by
  subst hpc
  exact Go.of (fun _ q => XS.lmul X.here hx rfl hd rfl q) K
theorem Go.land (X : Stand p l e R s m args below meth c T locs cells slots) (hx : p.tables.exec = Jvm.exec) {x y : Int64} (hd : decode c.code pc0 = .ok (.land, 1)) (hpc : pc = pc0)  (K : Go p e below P T (mkF m (pc0 + 1) Ls (.long (x &&& y) :: st))) : Go p e below P T (mkF m pc Ls (.long y :: .long x :: st)) := by
  subst hpc
  exact Go.of (fun _ q => XS.land X.here hx rfl hd rfl q) K
theorem Go.lor (X : Stand p l e R s m args below meth c T locs cells slots) (hx : p.tables.exec = Jvm.exec) {x y : Int64} (hd : decode c.code pc0 = .ok (.lor, 1)) (hpc : pc = pc0)  (K : Go p e below P T (mkF m (pc0 + 1) Ls (.long (x ||| y) :: st))) : Go p e below P T (mkF m pc Ls (.long y :: .long x :: st)) := by
  subst hpc
  exact Go.of (fun _ q => XS.lor X.here hx rfl hd rfl q) K
theorem Go.lxor (X : Stand p l e R s m args below meth c T locs cells slots) (hx : p.tables.exec = Jvm.exec) {x y : Int64} (hd : decode c.code pc0 = .ok (.lxor, 1)) (hpc : pc = pc0)  (K : Go p e below P T (mkF m (pc0 + 1) Ls (.long (x ^^^ y) :: st))) : Go p e below P T (mkF m pc Ls (.long y :: .long x :: st)) := by
  subst hpc
  exact Go.of (fun _ q => XS.lxor X.here hx rfl hd rfl q) K
theorem Go.ldiv (X : Stand p l e R s m args below meth c T locs cells slots) (hx : p.tables.exec = Jvm.exec) {x y : Int64} (hd : decode c.code pc0 = .ok (.ldiv, 1)) (hpc : pc = pc0) (hy : y ≠ 0) (K : Go p e below P T (mkF m (pc0 + 1) Ls (.long (x / y) :: st))) : Go p e below P T (mkF m pc Ls (.long y :: .long x :: st)) := by
  subst hpc
  exact Go.of (fun _ q => XS.ldiv X.here hx rfl hd rfl hy q) K
theorem Go.lneg (X : Stand p l e R s m args below meth c T locs cells slots) (hx : p.tables.exec = Jvm.exec) {x : Int64} (hd : decode c.code pc0 = .ok (.lneg, 1)) (hpc : pc = pc0)  (K : Go p e below P T (mkF m (pc0 + 1) Ls (.long (-x) :: st))) : Go p e below P T (mkF m pc Ls (.long x :: st)) := by
  subst hpc
  exact Go.of (fun _ q => XS.lneg X.here hx rfl hd rfl q) K
theorem Go.irem (X : Stand p l e R s m args below meth c T locs cells slots) (hx : p.tables.exec = Jvm.exec) {x y : Int32} (hd : decode c.code pc0 = .ok (.irem, 1)) (hpc : pc = pc0) (hy : y ≠ 0) (K : Go p e below P T (mkF m (pc0 + 1) Ls (.int (x % y) :: st))) : Go p e below P T (mkF m pc Ls (.int y :: .int x :: st)) := by
  subst hpc
  exact Go.of (fun _ q => iremM X hx rfl hd rfl hy q) K
theorem Go.lrem (X : Stand p l e R s m args below meth c T locs cells slots) (hx : p.tables.exec = Jvm.exec) {x y : Int64} (hd : decode c.code pc0 = .ok (.lrem, 1)) (hpc : pc = pc0) (hy : y ≠ 0) (K : Go p e below P T (mkF m (pc0 + 1) Ls (.long (x - (x / y) * y) :: st))) : Go p e below P T (mkF m pc Ls (.long y :: .long x :: st)) := by
  subst hpc
  exact Go.of (fun _ q => XS.lrem X.here hx rfl hd rfl hy q) K
theorem Go.ishl (X : Stand p l e R s m args below meth c T locs cells slots) (hx : p.tables.exec = Jvm.exec) {x y : Int32} (hd : decode c.code pc0 = .ok (.ishl, 1)) (hpc : pc = pc0)  (K : Go p e below P T (mkF m (pc0 + 1) Ls (.int (x <<< (y &&& 31)) :: st))) : Go p e below P T (mkF m pc Ls (.int y :: .int x :: st)) := by
  subst hpc
  exact Go.of (fun _ q => XS.ishl X.here hx rfl hd rfl q) K
theorem Go.ishr (X : Stand p l e R s m args below meth c T locs cells slots) (hx : p.tables.exec = Jvm.exec) {x y : Int32} (hd : decode c.code pc0 = .ok (.ishr, 1)) (hpc : pc = pc0)  (K : Go p e below P T (mkF m (pc0 + 1) Ls (.int (x >>> (y &&& 31)) :: st))) : Go p e below P T (mkF m pc Ls (.int y :: .int x :: st)) := by
  subst hpc
  exact Go.of (fun _ q => XS.ishr X.here hx rfl hd rfl q) K
theorem Go.iushr (X : Stand p l e R s m args below meth c T locs cells slots) (hx : p.tables.exec = Jvm.exec) {x y : Int32} (hd : decode c.code pc0 = .ok (.iushr, 1)) (hpc : pc = pc0)  (K : Go p e below P T (mkF m (pc0 + 1) Ls (.int ((x.toUInt32 >>> (y &&& 31).toUInt32).toInt32) :: st))) : Go p e below P T (mkF m pc Ls (.int y :: .int x :: st)) := by
  subst hpc
  exact Go.of (fun _ q => XS.iushr X.here hx rfl hd rfl q) K
theorem Go.lshl (X : Stand p l e R s m args below meth c T locs cells slots) (hx : p.tables.exec = Jvm.exec) {x : Int64} {y : Int32} (hd : decode c.code pc0 = .ok (.lshl, 1)) (hpc : pc = pc0)  (K : Go p e below P T (mkF m (pc0 + 1) Ls (.long (x <<< (y &&& 0x3f).toInt64) :: st))) : Go p e below P T (mkF m pc Ls (.int y :: .long x :: st)) := by
  subst hpc
  exact Go.of (fun _ q => XS.lshl X.here hx rfl hd rfl q) K
theorem Go.lshr (X : Stand p l e R s m args below meth c T locs cells slots) (hx : p.tables.exec = Jvm.exec) {x : Int64} {y : Int32} (hd : decode c.code pc0 = .ok (.lshr, 1)) (hpc : pc = pc0)  (K : Go p e below P T (mkF m (pc0 + 1) Ls (.long (x >>> (y &&& 0x3f).toInt64) :: st))) : Go p e below P T (mkF m pc Ls (.int y :: .long x :: st)) := by
  subst hpc
  exact Go.of (fun _ q => XS.lshr X.here hx rfl hd rfl q) K
theorem Go.lushr (X : Stand p l e R s m args below meth c T locs cells slots) (hx : p.tables.exec = Jvm.exec) {x : Int64} {y : Int32} (hd : decode c.code pc0 = .ok (.lushr, 1)) (hpc : pc = pc0)  (K : Go p e below P T (mkF m (pc0 + 1) Ls (.long ((x.toUInt64 >>> (y &&& 0x3f).toInt64.toUInt64).toInt64) :: st))) : Go p e below P T (mkF m pc Ls (.int y :: .long x :: st)) := by
  subst hpc
  exact Go.of (fun _ q => XS.lushr X.here hx rfl hd rfl q) K
theorem Go.i2l (X : Stand p l e R s m args below meth c T locs cells slots) (hx : p.tables.exec = Jvm.exec) {x : Int32} (hd : decode c.code pc0 = .ok (.i2l, 1)) (hpc : pc = pc0)  (K : Go p e below P T (mkF m (pc0 + 1) Ls (.long x.toInt64 :: st))) : Go p e below P T (mkF m pc Ls (.int x :: st)) := by
  subst hpc
  exact Go.of (fun _ q => XS.i2l X.here hx rfl hd rfl q) K
theorem Go.l2i (X : Stand p l e R s m args below meth c T locs cells slots) (hx : p.tables.exec = Jvm.exec) {x : Int64} (hd : decode c.code pc0 = .ok (.l2i, 1)) (hpc : pc = pc0)  (K : Go p e below P T (mkF m (pc0 + 1) Ls (.int x.toInt32 :: st))) : Go p e below P T (mkF m pc Ls (.long x :: st)) := by
  subst hpc
  exact Go.of (fun _ q => XS.l2i X.here hx rfl hd rfl q) K
theorem Go.i2b (X : Stand p l e R s m args below meth c T locs cells slots) (hx : p.tables.exec = Jvm.exec) {x : Int32} (hd : decode c.code pc0 = .ok (.i2b, 1)) (hpc : pc = pc0)  (K : Go p e below P T (mkF m (pc0 + 1) Ls (.int x.toInt8.toInt32 :: st))) : Go p e below P T (mkF m pc Ls (.int x :: st)) := by
  subst hpc
  exact Go.of (fun _ q => XS.i2b X.here hx rfl hd rfl q) K
theorem Go.i2s (X : Stand p l e R s m args below meth c T locs cells slots) (hx : p.tables.exec = Jvm.exec) {x : Int32} (hd : decode c.code pc0 = .ok (.i2s, 1)) (hpc : pc = pc0)  (K : Go p e below P T (mkF m (pc0 + 1) Ls (.int x.toInt16.toInt32 :: st))) : Go p e below P T (mkF m pc Ls (.int x :: st)) := by
  subst hpc
  exact Go.of (fun _ q => XS.i2s X.here hx rfl hd rfl q) K
theorem Go.i2c (X : Stand p l e R s m args below meth c T locs cells slots) (hx : p.tables.exec = Jvm.exec) {x : Int32} (hd : decode c.code pc0 = .ok (.i2c, 1)) (hpc : pc = pc0)  (K : Go p e below P T (mkF m (pc0 + 1) Ls (.int x.toUInt32.toUInt16.toUInt32.toInt32 :: st))) : Go p e below P T (mkF m pc Ls (.int x :: st)) := by
  subst hpc
  exact Go.of (fun _ q => XS.i2c X.here hx rfl hd rfl q) K
theorem Go.lcmp (X : Stand p l e R s m args below meth c T locs cells slots) (hx : p.tables.exec = Jvm.exec) {x y : Int64} (hd : decode c.code pc0 = .ok (.lcmp, 1)) (hpc : pc = pc0)  (K : Go p e below P T (mkF m (pc0 + 1) Ls (.int (lcmpW x y) :: st))) : Go p e below P T (mkF m pc Ls (.long y :: .long x :: st)) := by
  subst hpc
  exact Go.of (fun _ q => XS.lcmp X.here hx rfl hd rfl q) K
theorem Go.dup (X : Stand p l e R s m args below meth c T locs cells slots) (hx : p.tables.exec = Jvm.exec) {x : Value} (hd : decode c.code pc0 = .ok (.dup, 1)) (hpc : pc = pc0) (hc : x.category = 1) (K : Go p e below P T (mkF m (pc0 + 1) Ls (x :: x :: st))) : Go p e below P T (mkF m pc Ls (x :: st)) := by
  subst hpc
  exact Go.of (fun _ q => XS.dup X.here hx rfl hd rfl hc q) K
theorem Go.dupX1 (X : Stand p l e R s m args below meth c T locs cells slots) (hx : p.tables.exec = Jvm.exec) {x y : Value} (hd : decode c.code pc0 = .ok (.dup_x1, 1)) (hpc : pc = pc0) (hc : x.category = 1) (hc' : y.category = 1) (K : Go p e below P T (mkF m (pc0 + 1) Ls (x :: y :: x :: st))) : Go p e below P T (mkF m pc Ls (x :: y :: st)) := by
  subst hpc
  exact Go.of (fun _ q => XS.dupX1 X.here hx rfl hd rfl hc hc' q) K
theorem Go.dup2 (X : Stand p l e R s m args below meth c T locs cells slots) (hx : p.tables.exec = Jvm.exec) {x y : Value} (hd : decode c.code pc0 = .ok (.dup2, 1)) (hpc : pc = pc0) (hc : x.category = 1) (hc' : y.category = 1) (K : Go p e below P T (mkF m (pc0 + 1) Ls (x :: y :: x :: y :: st))) : Go p e below P T (mkF m pc Ls (x :: y :: st)) := by
  subst hpc
  exact Go.of (fun _ q => XT.dup2 X.here hx rfl hd rfl hc hc' q) K
theorem Go.pop (X : Stand p l e R s m args below meth c T locs cells slots) (hx : p.tables.exec = Jvm.exec) {x : Value} (hd : decode c.code pc0 = .ok (.pop, 1)) (hpc : pc = pc0) (hc : x.category = 1) (K : Go p e below P T (mkF m (pc0 + 1) Ls (st))) : Go p e below P T (mkF m pc Ls (x :: st)) := by
  subst hpc
  exact Go.of (fun _ q => XS.pop X.here hx rfl hd rfl hc q) K
theorem Go.iinc (X : Stand p l e R s m args below meth c T locs cells slots) (hx : p.tables.exec = Jvm.exec) {k : Nat} {cst : Int} {x : Int32} (hd : decode c.code pc0 = .ok (.iinc k cst, 3)) (hpc : pc = pc0) (hl : Ls[k]? = some (.val (.int x))) (l' : Array Slot) (hl' : storeLocals Ls k (.int (x + Int32.ofInt cst)) = some l') (K : Go p e below P T (mkF m (pc0 + 3) l' (st))) : Go p e below P T (mkF m pc Ls (st)) := by
  subst hpc
  exact Go.of (fun _ q => XS.iinc X.here hx rfl hd hl hl' q) K
theorem Go.goto (X : Stand p l e R s m args below meth c T locs cells slots) (hx : p.tables.exec = Jvm.exec)  {o : Int} (hd : decode c.code pc0 = .ok (.goto o, 3)) (hpc : pc = pc0) (pc' : Nat)  (ho : 0 ≤ (pc0 : Int) + o) (hp : ((pc0 : Int) + o).toNat = pc') (K : Go p e below P T (mkF m pc' Ls st)) : Go p e below P T (mkF m pc Ls (st)) := by
  subst hpc
  exact Go.of (fun _ q => XS.goto X.here hx rfl rfl hd ho hp q) K
theorem Go.ifYes (X : Stand p l e R s m args below meth c T locs cells slots) (hx : p.tables.exec = Jvm.exec) {cd : ClassFile.Cond} {x : Int32} {o : Int} (hd : decode c.code pc0 = .ok (.ifCond cd o, 3)) (hpc : pc = pc0) (pc' : Nat) (hc : ifCond.holds cd x = true) (ho : 0 ≤ (pc0 : Int) + o) (hp : ((pc0 : Int) + o).toNat = pc') (K : Go p e below P T (mkF m pc' Ls st)) : Go p e below P T (mkF m pc Ls (.int x :: st)) := by
  subst hpc
  exact Go.of (fun _ q => XS.ifYes X.here hx rfl rfl hd rfl hc ho hp q) K
theorem Go.icmpYes (X : Stand p l e R s m args below meth c T locs cells slots) (hx : p.tables.exec = Jvm.exec) {cd : ClassFile.Cond} {x y : Int32} {o : Int} (hd : decode c.code pc0 = .ok (.if_icmp cd o, 3)) (hpc : pc = pc0) (pc' : Nat) (hc : if_icmp.holds cd x y = true) (ho : 0 ≤ (pc0 : Int) + o) (hp : ((pc0 : Int) + o).toNat = pc') (K : Go p e below P T (mkF m pc' Ls st)) : Go p e below P T (mkF m pc Ls (.int y :: .int x :: st)) := by
  subst hpc
  exact Go.of (fun _ q => XS.icmpYes X.here hx rfl rfl hd rfl hc ho hp q) K
theorem Go.ifnullYes (X : Stand p l e R s m args below meth c T locs cells slots) (hx : p.tables.exec = Jvm.exec)  {o : Int} (hd : decode c.code pc0 = .ok (.ifnull o, 3)) (hpc : pc = pc0) (pc' : Nat)  (ho : 0 ≤ (pc0 : Int) + o) (hp : ((pc0 : Int) + o).toNat = pc') (K : Go p e below P T (mkF m pc' Ls st)) : Go p e below P T (mkF m pc Ls (.null :: st)) := by
  subst hpc
  exact Go.of (fun _ q => XS.ifnullYes X.here hx rfl rfl hd rfl ho hp q) K
theorem Go.ifnonnullYes (X : Stand p l e R s m args below meth c T locs cells slots) (hx : p.tables.exec = Jvm.exec) {b : Addr} {o : Int} (hd : decode c.code pc0 = .ok (.ifnonnull o, 3)) (hpc : pc = pc0) (pc' : Nat)  (ho : 0 ≤ (pc0 : Int) + o) (hp : ((pc0 : Int) + o).toNat = pc') (K : Go p e below P T (mkF m pc' Ls st)) : Go p e below P T (mkF m pc Ls (.ref b :: st)) := by
  subst hpc
  exact Go.of (fun _ q => XS.ifnonnullYes X.here hx rfl rfl hd rfl ho hp q) K
theorem Go.ifNo (X : Stand p l e R s m args below meth c T locs cells slots) (hx : p.tables.exec = Jvm.exec) {cd : ClassFile.Cond} {o : Int} {x : Int32} (hd : decode c.code pc0 = .ok (.ifCond cd o, 3)) (hpc : pc = pc0) (hc : ifCond.holds cd x = false) (K : Go p e below P T (mkF m (pc0 + 3) Ls (st))) : Go p e below P T (mkF m pc Ls (.int x :: st)) := by
  subst hpc
  exact Go.of (fun _ q => XS.ifNo X.here hx rfl hd rfl hc q) K
theorem Go.icmpNo (X : Stand p l e R s m args below meth c T locs cells slots) (hx : p.tables.exec = Jvm.exec) {cd : ClassFile.Cond} {o : Int} {x y : Int32} (hd : decode c.code pc0 = .ok (.if_icmp cd o, 3)) (hpc : pc = pc0) (hc : if_icmp.holds cd x y = false) (K : Go p e below P T (mkF m (pc0 + 3) Ls (st))) : Go p e below P T (mkF m pc Ls (.int y :: .int x :: st)) := by
  subst hpc
  exact Go.of (fun _ q => XS.icmpNo X.here hx rfl hd rfl hc q) K
theorem Go.ifnullNo (X : Stand p l e R s m args below meth c T locs cells slots) (hx : p.tables.exec = Jvm.exec) {o : Int} {b : Addr} (hd : decode c.code pc0 = .ok (.ifnull o, 3)) (hpc : pc = pc0)  (K : Go p e below P T (mkF m (pc0 + 3) Ls (st))) : Go p e below P T (mkF m pc Ls (.ref b :: st)) := by
  subst hpc
  exact Go.of (fun _ q => XS.ifnullNo X.here hx rfl hd rfl q) K
theorem Go.ifnonnullNo (X : Stand p l e R s m args below meth c T locs cells slots) (hx : p.tables.exec = Jvm.exec) {o : Int} (hd : decode c.code pc0 = .ok (.ifnonnull o, 3)) (hpc : pc = pc0)  (K : Go p e below P T (mkF m (pc0 + 3) Ls (st))) : Go p e below P T (mkF m pc Ls (.null :: st)) := by
  subst hpc
  exact Go.of (fun _ q => XS.ifnonnullNo X.here hx rfl hd rfl q) K
theorem Go.acmp (X : Stand p l e R s m args below meth c T locs cells slots) (hx : p.tables.exec = Jvm.exec) {cd : ACond} {x y : Value} {o : Int} (hd : decode c.code pc0 = .ok (.if_acmp cd o, 3)) (hpc : pc = pc0) (h1 : x.isRef = true) (h2 : y.isRef = true) (same : Bool) (hq : decide (x = y) = same) (pc' : Nat) (ho : 0 ≤ (pc0 : Int) + o) (hp : pc' = if acV cd same = true then ((pc0 : Int) + o).toNat else pc0 + 3) (K : Go p e below P T (mkF m pc' Ls st)) : Go p e below P T (mkF m pc Ls (y :: x :: st)) := by
  subst hpc
  exact Go.of (fun _ q => Jvm.RoadKit.acmp X hx rfl h1 h2 rfl hd rfl hq ho hp q) K
theorem Go.tswIn (X : Stand p l e R s m args below meth c T locs cells slots) (hx : p.tables.exec = Jvm.exec) {dflt low high : Int} {offs : Array Int} {len : Nat} {o : Int} {i : Int32} (hd : decode c.code pc0 = .ok (.tableswitch dflt low high offs, len)) (hpc : pc = pc0) (pc' : Nat) (hin : ¬ (i.toInt < low ∨ i.toInt > high)) (hoff : offs[(i.toInt - low).toNat]? = some o) (ho : 0 ≤ (pc0 : Int) + o) (hp : ((pc0 : Int) + o).toNat = pc') (K : Go p e below P T (mkF m pc' Ls st)) : Go p e below P T (mkF m pc Ls (.int i :: st)) := by
  subst hpc
  exact Go.of (fun _ q => XS.tswIn X.here hx rfl rfl hd rfl hin hoff ho hp q) K
theorem Go.ldc (X : Stand p l e R s m args below meth c T locs cells slots) (hx : p.tables.exec = Jvm.exec) (hZ : Z.Warmed39 s.vm) {own : String} {index : Nat} (hown : s.vm.findClass own = some m.cls) {v : Int32} (w : (Cond.constant own index v).before a0 Z = true) (hd : decode c.code pc0 = .ok (.ldc index, 2)) (hpc : pc = pc0) (K : Go p e below P T (mkF m (pc0 + 2) Ls (.int v :: st))) : Go p e below P T (mkF m pc Ls st) := by
  subst hpc
  exact Go.of (fun _ q => X.ldcInt hx hown (mvT hZ w) (g := mkF m pc Ls st) rfl hd _ q) K
theorem Go.ldc_w (X : Stand p l e R s m args below meth c T locs cells slots) (hx : p.tables.exec = Jvm.exec) (hZ : Z.Warmed39 s.vm) {own : String} {index : Nat} (hown : s.vm.findClass own = some m.cls) {v : Int32} (w : (Cond.constant own index v).before a0 Z = true) (hd : decode c.code pc0 = .ok (.ldc_w index, 3)) (hpc : pc = pc0) (K : Go p e below P T (mkF m (pc0 + 3) Ls (.int v :: st))) : Go p e below P T (mkF m pc Ls st) := by
  subst hpc
  exact Go.of (fun _ q => X.ldcwInt hx hown (mvT hZ w) (g := mkF m pc Ls st) rfl hd _ q) K
theorem Go.ldc2_w (X : Stand p l e R s m args below meth c T locs cells slots) (hx : p.tables.exec = Jvm.exec) (hZ : Z.Warmed39 s.vm) {own : String} {index : Nat} (hown : s.vm.findClass own = some m.cls) {v : Int64} (w : (Cond.constantLong own index v).before a0 Z = true) (hd : decode c.code pc0 = .ok (.ldc2_w index, 3)) (hpc : pc = pc0) (K : Go p e below P T (mkF m (pc0 + 3) Ls (.long v :: st))) : Go p e below P T (mkF m pc Ls st) := by
  subst hpc
  exact Go.of (fun _ q => X.ldc2Long hx hown (mvT hZ w) (g := mkF m pc Ls st) rfl hd _ q) K
theorem Go.getS (X : Stand p l e R s m args below meth c T locs cells slots) (hx : p.tables.exec = Jvm.exec) (hZ : Z.Warmed39 s.vm) {own : String} {index : Nat} (hown : s.vm.findClass own = some m.cls) {R0 O n d host : String} {v : Value} (w : (Cond.fieldLink own index R0 n d).before a0 Z = true ∨ (Cond.fieldLinkNest own index R0 n d host).before a0 Z = true) (via : Via Z R0 O n d) (eT : T.heap = h) (F : Sta Z h O n d v) (hd : decode c.code pc0 = .ok (.getstatic index, 3)) (hpc : pc = pc0) (K : ∀ T', Stand p l e R s m args below meth c T' locs cells slots → T'.heap = h → Go p e below P T' (mkF m (pc0 + 3) Ls (v :: st))) : Go p e below P T (mkF m pc Ls st) := by
  subst hpc
  obtain ⟨T', X', e', q⟩ := getS2 X hx hZ hown w via eT F (g := mkF m pc Ls st) rfl hd
  exact Go.of q (K T' X' e')
theorem Go.getF (X : Stand p l e R s m args below meth c T locs cells slots) (hx : p.tables.exec = Jvm.exec) (hZ : Z.Warmed39 s.vm) {own : String} {index : Nat} (hown : s.vm.findClass own = some m.cls) {R0 O n d host : String} {a : Addr} {v : Value} (w : (Cond.fieldLink own index R0 n d).before a0 Z = true ∨ (Cond.fieldLinkNest own index R0 n d host).before a0 Z = true) (via : Via Z R0 O n d) (eT : T.heap = h) (F : Fld Z h a O n d v) (hd : decode c.code pc0 = .ok (.getfield index, 3)) (hpc : pc = pc0) (K : ∀ T', Stand p l e R s m args below meth c T' locs cells slots → T'.heap = h → Go p e below P T' (mkF m (pc0 + 3) Ls (v :: st))) : Go p e below P T (mkF m pc Ls (.ref a :: st)) := by
  subst hpc
  obtain ⟨T', X', e', q⟩ := Jvm.RoadKit.getF X hx hZ hown w via eT F (g := mkF m pc Ls (.ref a :: st)) rfl rfl hd
  exact Go.of q (K T' X' e')
theorem Go.putF (X : Stand p l e R s m args below meth c T locs cells slots) (hx : p.tables.exec = Jvm.exec) (hZ : Z.Warmed39 s.vm) {own : String} {index : Nat} (hown : s.vm.findClass own = some m.cls) {R0 O n d host C : String} {kk : Nat} {a : Addr} {v old : Value} {ty : FieldType} (w : (Cond.fieldLink own index R0 n d).before a0 Z = true ∨ (Cond.fieldLinkNest own index R0 n d host).before a0 Z = true) (via : Via Z R0 O n d) (eT : T.heap = h) (F : Fld Z h a O n d old) (E : Exa Z h a C) (L : (Cond.lays C O n d).before a0 Z = true ∨ ((Cond.laysFinal C O n d).before a0 Z = true ∧ own = O ∧ meth.name = "<init>")) (wi : (Cond.instantiable C kk).before a0 Z = true) (hty : parseFieldDescriptor d = some ty) (hn : narrow ty v = v) (hf : fits ty v = true) (hd : decode c.code pc0 = .ok (.putfield index, 3)) (hpc : pc = pc0)
    (K : ∀ T' h', Stand p l e R s m args below meth c T' (locs ++ [⟨a, Jvm.RoadKit.slotOf Z O n d⟩]) cells slots → T'.heap = h' → Wr h h' a (Jvm.RoadKit.slotOf Z O n d) v → Fld Z h' a O n d v → Go p e below P T' (mkF m (pc0 + 3) Ls st)) : Go p e below P T (mkF m pc Ls (v :: .ref a :: st)) := by
  subst hpc
  obtain ⟨T', h', X', e', W, q⟩ := Jvm.RoadKit.putF X hx hZ hown w via eT F E L wi hty hn hf (g := mkF m pc Ls (v :: .ref a :: st)) rfl rfl hd
  exact Go.of q (K T' h' X' e' W (F.same W))
theorem Go.newO (X : Stand p l e R s m args below meth c T locs cells slots) (hx : p.tables.exec = Jvm.exec) (hZ : Z.Warmed39 s.vm) {own : String} {index : Nat} (hown : s.vm.findClass own = some m.cls) {C : String} {n : Nat} (w : (Cond.classLink own index C).before a0 Z = true) (wi : (Cond.instantiable C n).before a0 Z = true) (wz : (Cond.initialized C).before a0 Z = true) (eT : T.heap = h) (hd : decode c.code pc0 = .ok (.new index, 3)) (hpc : pc = pc0) (hc : cells + 1 ≤ R.cells) (hl : slots + n ≤ R.slots)
    (K : ∀ T' h' b, b = h.size → Stand p l e R s m args below meth c T' locs (cells + 1) (slots + n) → T'.heap = h' → Ext h h' → Exa Z h' b C → (∀ {O nm d : String} {ty : FieldType}, Laid Z a0 C O nm d → parseFieldDescriptor d = some ty → Fld Z h' b O nm d (defaultValue ty)) → Go p e below P T' (mkF m (pc0 + 3) Ls (.ref b :: st))) : Go p e below P T (mkF m pc Ls st) := by
  subst hpc
  obtain ⟨T', h', X', e', E, A, D, -, q⟩ := Jvm.RoadKit.newO X hx hZ hown w wi wz eT (g := mkF m pc Ls st) rfl hd hc hl
  exact Go.of q (K T' h' _ rfl X' e' E A D)
theorem Go.initO (X : Stand p l e R s m args below meth c T locs cells slots) (hx : p.tables.exec = Jvm.exec) (hZ : Z.Warmed39 s.vm) {own : String} {index : Nat} (hown : s.vm.findClass own = some m.cls) (w1 : (Cond.methodLink own index Lib.objectInit).before a0 Z = true) (w2 : (Cond.instanceMethod Lib.objectInit).before a0 Z = true) (w3 : (Cond.code Lib.objectInit ⟨#[0xb1]⟩ 1 none).before a0 Z = true) (eT : T.heap = h) (hsz : Ls.size = c.maxLocals) {a : Addr} (hd : decode c.code pc0 = .ok (.invokespecial index, 3)) (hpc : pc = pc0) (hf : 1 ≤ R.frames) (hl : (st.map fun v => v.category).sum + 12 ≤ R.locals) (K : ∀ T', Stand p l e R s m args below meth c T' locs cells slots → T'.heap = h → Go p e below P T' (mkF m (pc0 + 3) Ls (st))) : Go p e below P T (mkF m pc Ls (.ref a :: st)) := by
  subst hpc
  obtain ⟨T', X', e', q⟩ := Jvm.RoadKit.initO X hx hZ hown w1 w2 w3 eT (g := mkF m pc Ls (.ref a :: st)) rfl hsz rfl hd hf (W := (st.map fun v => v.category).sum) (by show 2 * 0 + _ ≤ _; omega) hl
  exact Go.of q (K T' X' e')
theorem Go.alen (X : Stand p l e R s m args below meth c T locs cells slots) (hx : p.tables.exec = Jvm.exec) (hZ : Z.Warmed39 s.vm) {a : Addr} {k : ClassId} {ty : FieldType} {n : Int32} {vs : List Value} {dv : Value} (A : Arv Z h a k ty n vs dv) (eT : T.heap = h) (hd : decode c.code pc0 = .ok (.arraylength, 1)) (hpc : pc = pc0) (K : Go p e below P T (mkF m (pc0 + 1) Ls (.int n :: st))) : Go p e below P T (mkF m pc Ls (.ref a :: st)) := by
  subst hpc
  obtain ⟨cl, Ar, -, Sz, Ng, -, -⟩ := A
  refine Go.of (fun _ q => X.arraylength hx (by rw [eT]; exact Ar.1) (State.isArrayOf_alike hZ.alike Ar.2.1) (g := mkF m pc Ls (.ref a :: st)) rfl rfl hd _ q) ?_
  rw [len_of Sz Ng]
  exact K
theorem Go.iaload (X : Stand p l e R s m args below meth c T locs cells slots) (hx : p.tables.exec = Jvm.exec) (hZ : Z.Warmed39 s.vm) {a : Addr} {k : ClassId} {n : Int32} {vs : List Value} {dv : Value} {j : Int32} (v : Value) (A : Arv Z h a k .int n vs dv) (eT : T.heap = h) (hj : ¬ j < 0 ∧ j < n) (hv : vs.getD j.toNatClampNeg dv = v) (hd : decode c.code pc0 = .ok (.iaload, 1)) (hpc : pc = pc0) (K : Go p e below P T (mkF m (pc0 + 1) Ls (v :: st))) : Go p e below P T (mkF m pc Ls (.int j :: .ref a :: st)) := by
  subst hpc
  obtain ⟨cl, Ar, -, Sz, Ng, Hs, -⟩ := A
  have hin : ¬ (j < 0 ∨ cl.slots.size ≤ j.toNatClampNeg) := inb_of Sz hj
  exact Go.of (fun _ q => X.iaload hx (j := j) (v := v) (by rw [eT]; exact Ar.1) (State.isArrayOf_alike hZ.alike Ar.2.1) Ar.2.2 hin (Has.at Hs hin hv) (g := mkF m pc Ls (.int j :: .ref a :: st)) rfl rfl hd _ q) K
theorem Go.laload (X : Stand p l e R s m args below meth c T locs cells slots) (hx : p.tables.exec = Jvm.exec) (hZ : Z.Warmed39 s.vm) {a : Addr} {k : ClassId} {n : Int32} {vs : List Value} {dv : Value} {j : Int32} (v : Value) (A : Arv Z h a k .long n vs dv) (eT : T.heap = h) (hj : ¬ j < 0 ∧ j < n) (hv : vs.getD j.toNatClampNeg dv = v) (hd : decode c.code pc0 = .ok (.laload, 1)) (hpc : pc = pc0) (K : Go p e below P T (mkF m (pc0 + 1) Ls (v :: st))) : Go p e below P T (mkF m pc Ls (.int j :: .ref a :: st)) := by
  subst hpc
  obtain ⟨cl, Ar, -, Sz, Ng, Hs, -⟩ := A
  have hin : ¬ (j < 0 ∨ cl.slots.size ≤ j.toNatClampNeg) := inb_of Sz hj
  exact Go.of (fun _ q => X.laload hx (j := j) (v := v) (by rw [eT]; exact Ar.1) (State.isArrayOf_alike hZ.alike Ar.2.1) Ar.2.2 hin (Has.at Hs hin hv) (g := mkF m pc Ls (.int j :: .ref a :: st)) rfl rfl hd _ q) K
theorem Go.aaload (X : Stand p l e R s m args below meth c T locs cells slots) (hx : p.tables.exec = Jvm.exec) (hZ : Z.Warmed39 s.vm) {a : Addr} {k : ClassId} {ty : FieldType} {n : Int32} {vs : List Value} {dv : Value} {j : Int32} (v : Value) (A : Arv Z h a k ty n vs dv) (eT : T.heap = h) (hty : ty.isReference = true) (hj : ¬ j < 0 ∧ j < n) (hv : vs.getD j.toNatClampNeg dv = v) (hd : decode c.code pc0 = .ok (.aaload, 1)) (hpc : pc = pc0) (K : Go p e below P T (mkF m (pc0 + 1) Ls (v :: st))) : Go p e below P T (mkF m pc Ls (.int j :: .ref a :: st)) := by
  subst hpc
  obtain ⟨cl, Ar, -, Sz, Ng, Hs, -⟩ := A
  have hin : ¬ (j < 0 ∨ cl.slots.size ≤ j.toNatClampNeg) := inb_of Sz hj
  exact Go.of (fun _ q => X.aaload hx (j := j) (v := v) (by rw [eT]; exact Ar.1) (State.isArrayOf_alike hZ.alike Ar.2.1) hty Ar.2.2 hin (Has.at Hs hin hv) (g := mkF m pc Ls (.int j :: .ref a :: st)) rfl rfl hd _ q) K
theorem Go.iastore (X : Stand p l e R s m args below meth c T locs cells slots) (hx : p.tables.exec = Jvm.exec) (hZ : Z.Warmed39 s.vm) {a : Addr} {k : ClassId} {n : Int32} {vs : List Value} {dv : Value} {j : Int32} {x : Int32} (A : Arv Z h a k .int n vs dv) (eT : T.heap = h) (hj : ¬ j < 0 ∧ j < n) (i : Nat) (hi : j.toNatClampNeg = i) (hl : i < vs.length) (hd : decode c.code pc0 = .ok (.iastore, 1)) (hpc : pc = pc0)
    (K : ∀ T' h', Stand p l e R s m args below meth c T' (locs ++ [⟨a, j.toNatClampNeg⟩]) cells slots → T'.heap = h' → Wr h h' a j.toNatClampNeg (.int x) → Arv Z h' a k .int n (vs.set i (.int x)) dv → Go p e below P T' (mkF m (pc0 + 1) Ls st)) : Go p e below P T (mkF m pc Ls (.int x :: .int j :: .ref a :: st)) := by
  subst hpc
  obtain ⟨cl, Ar, cq, Sz, Ng, Hs, Gs⟩ := A
  have hin : ¬ (j < 0 ∨ cl.slots.size ≤ j.toNatClampNeg) := inb_of Sz hj
  obtain ⟨T', h', X', e', W, q⟩ := stI X hx hZ eT Ar (j := j) hin (g := mkF m pc Ls (.int x :: .int j :: .ref a :: st)) rfl rfl hd
  exact Go.of q (K T' h' X' e' W (Arv.set Ar cq Sz Ng Hs Gs rfl W i hi hl))
theorem Go.lastore (X : Stand p l e R s m args below meth c T locs cells slots) (hx : p.tables.exec = Jvm.exec) (hZ : Z.Warmed39 s.vm) {a : Addr} {k : ClassId} {n : Int32} {vs : List Value} {dv : Value} {j : Int32} {x : Int64} (A : Arv Z h a k .long n vs dv) (eT : T.heap = h) (hj : ¬ j < 0 ∧ j < n) (i : Nat) (hi : j.toNatClampNeg = i) (hl : i < vs.length) (hd : decode c.code pc0 = .ok (.lastore, 1)) (hpc : pc = pc0)
    (K : ∀ T' h', Stand p l e R s m args below meth c T' (locs ++ [⟨a, j.toNatClampNeg⟩]) cells slots → T'.heap = h' → Wr h h' a j.toNatClampNeg (.long x) → Arv Z h' a k .long n (vs.set i (.long x)) dv → Go p e below P T' (mkF m (pc0 + 1) Ls st)) : Go p e below P T (mkF m pc Ls (.long x :: .int j :: .ref a :: st)) := by
  subst hpc
  obtain ⟨cl, Ar, cq, Sz, Ng, Hs, Gs⟩ := A
  have hin : ¬ (j < 0 ∨ cl.slots.size ≤ j.toNatClampNeg) := inb_of Sz hj
  obtain ⟨T', h', X', e', W, q⟩ := stJ X hx hZ eT Ar (j := j) hin (g := mkF m pc Ls (.long x :: .int j :: .ref a :: st)) rfl rfl hd
  exact Go.of q (K T' h' X' e' W (Arv.set Ar cq Sz Ng Hs Gs rfl W i hi hl))
theorem Go.aastore (X : Stand p l e R s m args below meth c T locs cells slots) (hx : p.tables.exec = Jvm.exec) (hZ : Z.Warmed39 s.vm) {a : Addr} {k : ClassId} {ty : FieldType} {n : Int32} {vs : List Value} {dv : Value} {j : Int32} {v : Value} (A : Arv Z h a k ty n vs dv) (eT : T.heap = h) (hj : ¬ j < 0 ∧ j < n) (i : Nat) (hi : j.toNatClampNeg = i) (hl : i < vs.length) (hty : ty.isReference = true) (hfv : fits ty v = true) (F : ∀ cl, Arr Z h a cl ty → cl.cls = k → Sto Z h a v) (hd : decode c.code pc0 = .ok (.aastore, 1)) (hpc : pc = pc0)
    (K : ∀ T' h', Stand p l e R s m args below meth c T' (locs ++ [⟨a, j.toNatClampNeg⟩]) cells slots → T'.heap = h' → Wr h h' a j.toNatClampNeg (v) → Arv Z h' a k ty n (vs.set i (v)) dv → Go p e below P T' (mkF m (pc0 + 1) Ls st)) : Go p e below P T (mkF m pc Ls (v :: .int j :: .ref a :: st)) := by
  subst hpc
  obtain ⟨cl, Ar, cq, Sz, Ng, Hs, Gs⟩ := A
  have hin : ¬ (j < 0 ∨ cl.slots.size ≤ j.toNatClampNeg) := inb_of Sz hj
  obtain ⟨T', h', X', e', W, q⟩ := stR X hx hZ eT Ar (j := j) hin hty (F cl Ar cq) (g := mkF m pc Ls (v :: .int j :: .ref a :: st)) rfl rfl hd
  exact Go.of q (K T' h' X' e' W (Arv.set Ar cq Sz Ng Hs Gs hfv W i hi hl))
theorem Go.newP (X : Stand p l e R s m args below meth c T locs cells slots) (hx : p.tables.exec = Jvm.exec) (hZ : Z.Warmed39 s.vm) {aty : ArrayType} {n : Int32} (w : (Cond.arrayClass (newarray.typeOf aty)).before a0 Z = true) (eT : T.heap = h) (u : Nat) (hn : ¬ n < 0) (cap : Nat) (hcap : n.toNatClampNeg ≤ cap) (hb : cap * 8 ≤ 536870912) (hc : cells + 1 ≤ R.cells) (hl : slots + cap ≤ R.slots) (ad : String) (had : "[" ++ (newarray.typeOf aty).toString = ad) (hd : decode c.code pc0 = .ok (.newarray aty, 2)) (hpc : pc = pc0)
    (K : ∀ T' h' b k, b = h.size → Stand p l e R s m args below meth c T' locs (cells + 1) (slots + cap) → T'.heap = h' → Ext h h' → Arv Z h' b k (newarray.typeOf aty) n ([] ++ List.replicate u (defaultValue (newarray.typeOf aty))) (defaultValue (newarray.typeOf aty)) → Exa Z h' b ad → Go p e below P T' (mkF m (pc0 + 2) Ls (.ref b :: st))) : Go p e below P T (mkF m pc Ls (.int n :: st)) := by
  subst hpc
  obtain ⟨T', h', cA, X', e', E, A, A', q⟩ := newPE X hx hZ w eT (g := mkF m pc Ls (.int n :: st)) rfl hd rfl hn (cap := cap) hcap hb hc hl had
  exact Go.of q (K T' h' _ cA rfl X' e' E ((Arv.new A hn).pad (pad_rep [] _ u)) A')
theorem Go.newR (X : Stand p l e R s m args below meth c T locs cells slots) (hx : p.tables.exec = Jvm.exec) (hZ : Z.Warmed39 s.vm) {own : String} {index : Nat} (hown : s.vm.findClass own = some m.cls) {C : String} {n : Int32} (w1 : (Cond.classLink own index C).before a0 Z = true) (w2 : (Cond.arrayOver (.object C)).before a0 Z = true) (eT : T.heap = h) (u : Nat) (hn : ¬ n < 0) (cap : Nat) (hcap : n.toNatClampNeg ≤ cap) (hb : cap * 8 ≤ 536870912) (hc : cells + 1 ≤ R.cells) (hl : slots + cap ≤ R.slots) (hd : decode c.code pc0 = .ok (.anewarray index, 3)) (hpc : pc = pc0)
    (K : ∀ T' h' b k, b = h.size → Stand p l e R s m args below meth c T' locs (cells + 1) (slots + cap) → T'.heap = h' → Ext h h' → Arv Z h' b k (.object C) n ([] ++ List.replicate u (.null)) (.null) → Ovr Z k C → Go p e below P T' (mkF m (pc0 + 3) Ls (.ref b :: st))) : Go p e below P T (mkF m pc Ls (.int n :: st)) := by
  subst hpc
  obtain ⟨T', h', cA, X', e', E, A, O, q⟩ := Jvm.RoadKit.newR X hx hZ hown w1 w2 eT (g := mkF m pc Ls (.int n :: st)) rfl hd rfl hn (cap := cap) hcap hb hc hl
  exact Go.of q (K T' h' _ cA rfl X' e' E ((Arv.new A hn).pad (pad_rep [] _ u)) O)
theorem Go.newRA (X : Stand p l e R s m args below meth c T locs cells slots) (hx : p.tables.exec = Jvm.exec) (hZ : Z.Warmed39 s.vm) {own : String} {index : Nat} (hown : s.vm.findClass own = some m.cls) {C : String} {ty : FieldType} {n : Int32} (hC : (FieldType.array ty).toString = C) (w1 : (Cond.classLink own index C).before a0 Z = true) (w2 : (Cond.arrayOver (.array ty)).before a0 Z = true) (eT : T.heap = h) (u : Nat) (hn : ¬ n < 0) (cap : Nat) (hcap : n.toNatClampNeg ≤ cap) (hb : cap * 8 ≤ 536870912) (hc : cells + 1 ≤ R.cells) (hl : slots + cap ≤ R.slots) (hd : decode c.code pc0 = .ok (.anewarray index, 3)) (hpc : pc = pc0)
    (K : ∀ T' h' b k, b = h.size → Stand p l e R s m args below meth c T' locs (cells + 1) (slots + cap) → T'.heap = h' → Ext h h' → Arv Z h' b k (.array ty) n ([] ++ List.replicate u (.null)) (.null) → OvrA Z k ty C → Go p e below P T' (mkF m (pc0 + 3) Ls (.ref b :: st))) : Go p e below P T (mkF m pc Ls (.int n :: st)) := by
  subst hpc
  obtain ⟨T', h', cA, X', e', E, A, -, O, q⟩ := Jvm.RoadKit.newRA X hx hZ hown hC w1 w2 eT (g := mkF m pc Ls (.int n :: st)) rfl hd rfl hn (cap := cap) hcap hb hc hl rfl
  exact Go.of q (K T' h' _ cA rfl X' e' E ((Arv.new A hn).pad (pad_rep [] _ u)) O)
end OwnSteps
theorem own_i32 {k n : Int32} {v : Int} (h : k.toInt = v) (hv : n.toInt = v) : k = n := Int32.toInt_inj.mp (h.trans hv.symm)
/-! the hash table of IntSet over plain lists (own work) -/
def lookN (t : List Int32) (M : Nat) (x : Int32) : Nat → Nat → Bool
  | 0, _ => false
  | k + 1, i => if t.getD i 0 = -1 then false else if t.getD i 0 = x then true else lookN t M x k ((i + 1) % M)
def ffN (t : List Int32) (M : Nat) : Nat → Nat → Nat
  | 0, i => i
  | k + 1, i => if t.getD i 0 = -1 then i else ffN t M k ((i + 1) % M)
def tfN (t : List Int32) (M : Nat) (x : Int32) : Nat → Nat → Nat
  | 0, i => i
  | k + 1, i => if t.getD i 0 = x then i else tfN t M x k ((i + 1) % M)
def Inv (M : Nat) (h : Int32 → Nat) (t es : List Int32) : Prop :=
  t.length = M ∧ (∀ i, i < M → t.getD i 0 = -1 ∨ t.getD i 0 ∈ es) ∧ (∀ e ∈ es, ∃ d, d < M ∧ t.getD ((h e + d) % M) 0 = e ∧ ∀ d', d' < d → t.getD ((h e + d') % M) 0 ≠ -1) ∧ t.count (-1) + es.length = M
theorem step_mod (i d M : Nat) : ((i + 1) % M + d) % M = (i + (d + 1)) % M := by rw [Nat.mod_add_mod, Nat.add_assoc, Nat.add_comm 1 d]
theorem look_yes {t : List Int32} {M : Nat} {x : Int32} (hx : x ≠ -1) : ∀ (k i d : Nat), i < M → d < k → t.getD ((i + d) % M) 0 = x → (∀ d', d' < d → t.getD ((i + d') % M) 0 ≠ -1) → lookN t M x k i = true := by
  intro k
  induction k with
  | zero => intro i d hi hd; omega
  | succ k ih =>
    intro i d hi hd hv hn
    unfold lookN
    have hi0 : (i + 0) % M = i := Nat.mod_eq_of_lt hi
    by_cases h1 : t.getD i 0 = x
    · rw [if_neg (by rw [h1]; exact hx), if_pos h1]
    · cases d with
      | zero => rw [hi0] at hv; exact absurd hv h1
      | succ d =>
        have h0 := hn 0 (by omega)
        rw [hi0] at h0
        rw [if_neg h0, if_neg h1]
        refine ih ((i + 1) % M) d (Nat.mod_lt _ (by omega)) (by omega) (by rw [step_mod]; exact hv) (fun d' hd' => by rw [step_mod]; exact hn (d' + 1) (by omega))
theorem look_true {t : List Int32} {M : Nat} {x : Int32} : ∀ (k i : Nat), i < M → lookN t M x k i = true → ∃ j, j < M ∧ t.getD j 0 = x ∧ x ≠ -1 := by
  intro k
  induction k with
  | zero => intro i hi h; simp [lookN] at h
  | succ k ih =>
    intro i hi h
    unfold lookN at h
    by_cases h0 : t.getD i 0 = -1
    · rw [if_pos h0] at h; simp at h
    · rw [if_neg h0] at h
      by_cases h1 : t.getD i 0 = x
      · exact ⟨i, hi, h1, by rw [← h1]; exact h0⟩
      · rw [if_neg h1] at h
        exact ih _ (Nat.mod_lt _ (by omega)) h
theorem look_spec {M : Nat} {h : Int32 → Nat} {t es : List Int32} {x : Int32} (I : Inv M h t es) (hes : ∀ e ∈ es, e ≠ -1) (hh : h x < M) : lookN t M x M (h x) = decide (x ∈ es) := by
  by_cases hx : x ∈ es
  · obtain ⟨d, hd, h1, h2⟩ := I.2.2.1 x hx
    rw [look_yes (hes x hx) M (h x) d hh hd h1 h2]; simp [hx]
  · cases hl : lookN t M x M (h x) with
    | false => simp [hx]
    | true =>
      obtain ⟨j, hj, h1, h2⟩ := look_true M (h x) hh hl
      rcases I.2.1 j hj with h3 | h3
      · exact absurd (h1.symm.trans h3) h2
      · exact absurd (h1 ▸ h3) hx
theorem free_at {M : Nat} {h : Int32 → Nat} {t es : List Int32} (I : Inv M h t es) (hl : es.length < M) (i : Nat) : ∃ d, d < M ∧ t.getD ((i + d) % M) 0 = -1 := by
  have hc : 0 < t.count (-1) := by have := I.2.2.2; omega
  obtain ⟨j, hj, e⟩ := List.getElem_of_mem (List.count_pos_iff.mp hc)
  rw [I.1] at hj
  refine ⟨(j + (M - i % M)) % M, Nat.mod_lt _ (by omega), ?_⟩
  have q : (i + (j + (M - i % M)) % M) % M = j := by
    rw [Nat.add_mod_mod, ← Nat.mod_add_mod]
    have h1 := Nat.mod_lt i (show 0 < M by omega)
    have h2 : i % M + (j + (M - i % M)) = j + M := by omega
    rw [h2, Nat.add_mod_right, Nat.mod_eq_of_lt hj]
  rw [q, List.getD_eq_getElem?_getD, List.getElem?_eq_getElem (by rw [I.1]; exact hj)]
  exact e
theorem ff_spec {t : List Int32} {M : Nat} : ∀ (k i : Nat), i < M → (∃ d, d < k ∧ t.getD ((i + d) % M) 0 = -1) → ∃ d, d < k ∧ ffN t M k i = (i + d) % M ∧ t.getD ((i + d) % M) 0 = -1 ∧ ∀ d', d' < d → t.getD ((i + d') % M) 0 ≠ -1 := by
  intro k
  induction k with
  | zero => rintro i hi ⟨d, hd, -⟩; omega
  | succ k ih =>
    rintro i hi ⟨d, hd, hv⟩
    have hi0 : (i + 0) % M = i := Nat.mod_eq_of_lt hi
    unfold ffN
    by_cases h0 : t.getD i 0 = -1
    · exact ⟨0, by omega, by rw [if_pos h0, hi0], by rw [hi0]; exact h0, fun d' h => by omega⟩
    · rw [if_neg h0]
      cases d with
      | zero => rw [hi0] at hv; exact absurd hv h0
      | succ d =>
        obtain ⟨d1, g1, g2, g3, g4⟩ := ih ((i + 1) % M) (Nat.mod_lt _ (by omega)) ⟨d, by omega, by rw [step_mod]; exact hv⟩
        rw [step_mod] at g2 g3
        refine ⟨d1 + 1, by omega, g2, g3, fun d' h => ?_⟩
        cases d' with
        | zero => rw [hi0]; exact h0
        | succ d' => have := g4 d' (by omega); rw [step_mod] at this; exact this
theorem getD_set {t : List Int32} {i j : Nat} {x : Int32} (hi : i < t.length) : (t.set i x).getD j 0 = if j = i then x else t.getD j 0 := by
  simp only [List.getD_eq_getElem?_getD, List.getElem?_set]
  by_cases h : i = j
  · subst h; simp [hi]
  · rw [if_neg h, if_neg (Ne.symm h)]
theorem ins_inv {M : Nat} {h : Int32 → Nat} {t es : List Int32} {x : Int32} (I : Inv M h t es) (hes : ∀ e ∈ es, e ≠ -1) (hx : x ∉ es) (hn : x ≠ -1) (hl : es.length < M) (hh : h x < M) : Inv M h (t.set (ffN t M M (h x)) x) (es ++ [x]) := by
  obtain ⟨d, hd, g1, g2, g3⟩ := ff_spec (t := t) (M := M) M (h x) hh (free_at I hl (h x))
  have hf : (h x + d) % M < t.length := by rw [I.1]; exact Nat.mod_lt _ (by omega)
  rw [g1]
  refine ⟨by rw [List.length_set]; exact I.1, fun i hi => ?_, fun e he => ?_, ?_⟩
  · rw [getD_set hf]
    by_cases q : i = (h x + d) % M
    · rw [if_pos q]; right; simp
    · rw [if_neg q]
      rcases I.2.1 i hi with u | u
      · exact Or.inl u
      · exact Or.inr (List.mem_append_left _ u)
  · rcases List.mem_append.mp he with u | u
    · obtain ⟨d1, k1, k2, k3⟩ := I.2.2.1 e u
      refine ⟨d1, k1, ?_, fun d' hd' => ?_⟩
      · rw [getD_set hf]
        by_cases q : (h e + d1) % M = (h x + d) % M
        · rw [q] at k2; rw [k2] at g2
          exact absurd g2 (hes e u)
        · rw [if_neg q]; exact k2
      · rw [getD_set hf]
        by_cases q : (h e + d') % M = (h x + d) % M
        · rw [if_pos q]; exact hn
        · rw [if_neg q]; exact k3 d' hd'
    · obtain rfl := List.mem_singleton.mp u
      refine ⟨d, hd, by rw [getD_set hf, if_pos rfl], fun d' hd' => ?_⟩
      rw [getD_set hf]
      by_cases q : (h e + d') % M = (h e + d) % M
      · rw [if_pos q]; exact hn
      · rw [if_neg q]; exact g3 d' hd'
  · rw [List.count_set hf]
    have e1 : t[(h x + d) % M] = -1 := by rw [List.getD_eq_getElem?_getD, List.getElem?_eq_getElem hf] at g2; exact g2
    have e2 := I.2.2.2
    have e3 : 0 < t.count (-1) := by omega
    simp [e1, hn]
    omega
theorem tf_spec {t : List Int32} {M : Nat} {x : Int32} : ∀ (k i d : Nat), i < M → d < k → t.getD ((i + d) % M) 0 = x → (∀ d', d' < d → t.getD ((i + d') % M) 0 ≠ x) → tfN t M x k i = (i + d) % M := by
  intro k
  induction k with
  | zero => intro i d hi hd; omega
  | succ k ih =>
    intro i d hi hd hv hn
    unfold tfN
    have hi0 : (i + 0) % M = i := Nat.mod_eq_of_lt hi
    cases d with
    | zero => rw [hi0] at hv; rw [if_pos hv, hi0]
    | succ d =>
      have h0 := hn 0 (by omega)
      rw [hi0] at h0
      rw [if_neg h0, ih ((i + 1) % M) d (Nat.mod_lt _ (by omega)) (by omega) (by rw [step_mod]; exact hv) (fun d' hd' => by rw [step_mod]; exact hn (d' + 1) (by omega)), step_mod]
theorem set_back {t : List Int32} {i : Nat} {x : Int32} (hi : i < t.length) (h : t.getD i 0 = -1) : (t.set i x).set i (-1) = t := by
  rw [List.set_set]
  apply List.ext_getElem
  · simp
  · intro j h1 h2
    rw [List.getElem_set]
    by_cases e : i = j
    · subst e
      rw [if_pos rfl]
      rw [List.getD_eq_getElem?_getD, List.getElem?_eq_getElem hi] at h
      exact h.symm
    · rw [if_neg e]
/-- taking back the last one put in -/
theorem rem_tab {M : Nat} {h : Int32 → Nat} {t es : List Int32} {x : Int32} (I : Inv M h t es) (hx : x ∉ es) (hn : x ≠ -1) (hl : es.length < M) (hh : h x < M) :
    ∃ d, d < M ∧ tfN (t.set (ffN t M M (h x)) x) M x M (h x) = ffN t M M (h x) ∧ ffN t M M (h x) < M ∧ (t.set (ffN t M M (h x)) x).set (ffN t M M (h x)) (-1) = t ∧ (t.set (ffN t M M (h x)) x).getD ((h x + d) % M) 0 = x := by
  obtain ⟨d, hd, g1, g2, g3⟩ := ff_spec (t := t) (M := M) M (h x) hh (free_at I hl (h x))
  have hf : (h x + d) % M < t.length := by rw [I.1]; exact Nat.mod_lt _ (by omega)
  rw [g1]
  have hat : (t.set ((h x + d) % M) x).getD ((h x + d) % M) 0 = x := by rw [getD_set hf, if_pos rfl]
  refine ⟨d, hd, ?_, Nat.mod_lt _ (by omega), set_back hf g2, hat⟩
  refine tf_spec M (h x) d hh hd hat fun d' hd' => ?_
  have g := g3 d' hd'
  have ne : (h x + d') % M ≠ (h x + d) % M := fun e => by rw [e] at g; exact g g2
  rw [getD_set hf, if_neg ne]
  intro e
  rcases I.2.1 ((h x + d') % M) (Nat.mod_lt _ (by omega)) with u | u
  · exact g u
  · exact hx (e ▸ u)
def tab (M : Nat) (h : Int32 → Nat) (es : List Int32) : List Int32 := es.foldl (fun t x => t.set (ffN t M M (h x)) x) (List.replicate M (-1))
theorem tab_snoc (M : Nat) (h : Int32 → Nat) (es : List Int32) (x : Int32) : tab M h (es ++ [x]) = (tab M h es).set (ffN (tab M h es) M M (h x)) x := by simp [tab, List.foldl_append]
theorem inv_nil (M : Nat) (h : Int32 → Nat) : Inv M h (List.replicate M (-1)) [] := by
  refine ⟨by simp, fun i hi => Or.inl ?_, fun e he => (nomatch he), by simp⟩
  rw [List.getD_eq_getElem?_getD, List.getElem?_replicate, if_pos hi]; rfl
def Good (es : List Int32) : Prop := es.Nodup ∧ ∀ e ∈ es, 0 ≤ e.toInt
theorem good_ne {es : List Int32} (g : Good es) : ∀ e ∈ es, e ≠ -1 := fun e he q => by
  have := g.2 e he
  rw [q] at this
  exact absurd this (by decide)
theorem inv_foldl {M : Nat} {h : Int32 → Nat} (hh : ∀ x, h x < M) : ∀ (l : List Int32) (t es : List Int32), Inv M h t es → Good (es ++ l) → (es ++ l).length ≤ M → Inv M h (l.foldl (fun t x => t.set (ffN t M M (h x)) x) t) (es ++ l) := by
  intro l
  induction l with
  | nil => intro t es I _ _; simpa using I
  | cons x l ih =>
    intro t es I g hl
    have hx : x ∉ es := by
      intro q
      have := g.1
      rw [List.nodup_append] at this
      exact this.2.2 x q x (by simp) rfl
    have hn : x ≠ -1 := good_ne g x (by simp)
    have hl' : es.length < M := by simp at hl; omega
    have I' := ins_inv I (fun e he => good_ne g e (by simp [he])) hx hn hl' (hh x)
    have := ih _ (es ++ [x]) I' (by simpa using g) (by simpa using hl)
    simpa using this
theorem inv_tab {M : Nat} {h : Int32 → Nat} (hh : ∀ x, h x < M) {es : List Int32} (g : Good es) (hl : es.length ≤ M) : Inv M h (tab M h es) es := by
  have := inv_foldl hh es _ [] (inv_nil M h) (by simpa using g) (by simpa using hl)
  simpa [tab] using this
def slotv (x mask : Int32) : Int32 := (((x * (-1640531527 : Int32)) ^^^ (((x * (-1640531527 : Int32))).toUInt32 >>> ((16 : Int32) &&& 31).toUInt32).toInt32) &&& mask)
def hsh (mask x : Int32) : Nat := (slotv x mask).toNatClampNeg
def Ix (M j : Int32) (i : Nat) : Prop := ¬ j < 0 ∧ j < M ∧ j.toNatClampNeg = i
theorem ix_of {M j : Int32} {m : Nat} (hM : M.toInt = m) (h1 : 0 ≤ j.toInt) (h2 : j.toInt < m) : Ix M j j.toInt.toNat := by
  refine ⟨by rw [Int32.lt_iff_toInt_lt]; simp; omega, by rw [Int32.lt_iff_toInt_lt]; omega, rfl⟩
theorem Ix.int {M j : Int32} {i : Nat} (h : Ix M j i) : j.toInt = i := by
  have := nat_of h.1
  rw [h.2.2] at this; exact this
theorem ix_next {M mask j : Int32} {i m b : Nat} (hb : b < 31) (hm : m = 2 ^ b) (hM : M.toInt = m) (hk : mask.toBitVec.toNat = 2 ^ b - 1) (h : Ix M j i) : Ix M ((j + 1) &&& mask) ((i + 1) % m) := by
  have e := h.int
  have l : j.toInt < M.toInt := by rw [← Int32.lt_iff_toInt_lt]; exact h.2.1
  have b1 : (2 : Nat) ^ b ≤ 2 ^ 30 := Nat.pow_le_pow_right (by omega) (by omega)
  have e1 : (j + 1).toInt = j.toInt + 1 := by
    have := Jvm.Kit.i32_add (p := j) (q := 1) (by simp; omega) (by simp; omega)
    simpa using this
  have e2 := Jvm.Kit.i32_mask (j + 1) mask (k := b) (by omega) hk
  have e3 : ((j + 1) &&& mask).toInt = (((i + 1) % m : Nat) : Int) := by
    rw [e2, e1, e, hm]; push_cast; rfl
  have q := ix_of (j := (j + 1) &&& mask) hM (by rw [e3]; omega) (by rw [e3]; exact_mod_cast Nat.mod_lt _ (by rw [hm]; exact Nat.two_pow_pos b))
  rw [e3, Int.toNat_natCast] at q
  exact q
theorem ix_slot {M mask : Int32} {m b : Nat} (hb : b < 31) (hm : m = 2 ^ b) (hM : M.toInt = m) (hk : mask.toBitVec.toNat = 2 ^ b - 1) (x : Int32) : Ix M (slotv x mask) (hsh mask x) := by
  unfold hsh
  unfold slotv
  generalize ((x * (-1640531527 : Int32)) ^^^ (((x * (-1640531527 : Int32))).toUInt32 >>> ((16 : Int32) &&& 31).toUInt32).toInt32) = y
  have e2 := Jvm.Kit.i32_mask y mask (k := b) (by omega) hk
  have p : (0 : Int) < 2 ^ b := Int.pow_pos (by omega)
  have g1 : 0 ≤ (y &&& mask).toInt := by rw [e2]; exact Int.emod_nonneg _ (by omega)
  have g2 : (y &&& mask).toInt < m := by rw [e2, hm]; push_cast; exact Int.emod_lt_of_pos _ p
  exact ⟨(ix_of hM g1 g2).1, (ix_of hM g1 g2).2.1, rfl⟩
theorem hsh_lt {M mask : Int32} {m b : Nat} (hb : b < 31) (hm : m = 2 ^ b) (hM : M.toInt = m) (hk : mask.toBitVec.toNat = 2 ^ b - 1) (x : Int32) : hsh mask x < m := by
  have h := ix_slot hb hm hM hk x
  have e := h.int
  have l : (slotv x mask).toInt < M.toInt := by rw [← Int32.lt_iff_toInt_lt]; exact h.2.1
  omega
theorem own_getD {t : List Int32} {j : Int32} {i : Nat} (h : j.toNatClampNeg = i) : (t.map Value.int).getD j.toNatClampNeg (.int (0 : Int32)) = .int (t.getD i 0) := by
  subst h
  simp only [List.getD_eq_getElem?_getD, List.getElem?_map]
  cases t[j.toNatClampNeg]? <;> rfl
theorem tab_nf {es : List Int32} {x : Int32} (hg : Good es) (hx0 : 0 ≤ x.toInt) (hxn : x ∉ es) (hl : es.length ≤ 8) : ∀ i, i < 8 → (tab 8 (hsh (7 : Int32)) es).getD i 0 ≠ x := by
  intro i hi e
  have I := inv_tab (M := 8) (hsh_lt (M := 8) (mask := 7) (b := 3) (by decide) rfl (by decide) (by decide)) hg hl
  rcases I.2.1 i hi with u | u
  · rw [e] at u; rw [u] at hx0; exact absurd hx0 (by decide)
  · exact hxn (e ▸ u)
theorem own_ffl {es : List Int32} {x : Int32} (hg : Good es) (hl : es.length < 8) : ffN (tab 8 (hsh (7 : Int32)) es) 8 8 (hsh (7 : Int32) x) < 8 := by
  have I := inv_tab (M := 8) (hsh_lt (M := 8) (mask := 7) (b := 3) (by decide) rfl (by decide) (by decide)) hg (by omega)
  obtain ⟨d, hd, g1, -⟩ := ff_spec (t := tab 8 (hsh (7 : Int32)) es) (M := 8) 8 (hsh (7 : Int32) x) (hsh_lt (M := 8) (mask := 7) (b := 3) (by decide) rfl (by decide) (by decide) x) (free_at I hl _)
  rw [g1]; exact Nat.mod_lt _ (by omega)
theorem hl8 (x : Int32) : hsh (7 : Int32) x < 8 := hsh_lt (M := 8) (mask := 7) (b := 3) (by decide) rfl (by decide) (by decide) x
theorem hl16 (x : Int32) : hsh (15 : Int32) x < 16 := hsh_lt (M := 16) (mask := 15) (b := 4) (by decide) rfl (by decide) (by decide) x
theorem inv8 {es : List Int32} (g : Good es) (hl : es.length ≤ 8) : Inv 8 (hsh (7 : Int32)) (tab 8 (hsh (7 : Int32)) es) es := inv_tab hl8 g hl
theorem inv16 {es : List Int32} (g : Good es) (hl : es.length ≤ 16) : Inv 16 (hsh (15 : Int32)) (tab 16 (hsh (15 : Int32)) es) es := inv_tab hl16 g hl
theorem Ctr.mono {l : Launch} {Z : State} {y : MethodName} {code : ByteArray} {mx : Nat} {ret : Option FieldType} {Rm : Room} {as' : Array Value} {h : Heap} {Q Q' : Option Value → Heap → List Loc → Prop} (C : Ctr l Z y code mx ret Rm as' h Q) (hQ : ∀ v h' L, Q v h' L → Q' v h' L) : Ctr l Z y code mx ret Rm as' h Q' := by
  intro ws p e h1 h2 h3 s m args below h4 h5 h6 h7
  obtain ⟨n, o, g1, g2, g3, v, L, g4, g5, g6⟩ := C ws p e h1 h2 h3 s m args below h4 h5 h6 h7
  exact ⟨n, o, g1, g2, g3, v, L, g4, hQ v _ L g5, g6⟩
/-- the cells ahead of a stand as they stood -/
def Blw (a : Addr) (h h' : Heap) : Prop := h.size ≤ h'.size ∧ ∀ (y : Addr) (c : Cell), y < a → h[y]? = some c → h'[y]? = some c
theorem Blw.of {a : Addr} {h h' : Heap} {ws : List Addr} (K : Keep h h' ws) (q : ∀ x ∈ ws, a ≤ x) : Blw a h h' := ⟨K.1, fun y c hy hc => K.2.1 y c hc fun z => absurd hy (Nat.not_lt.mpr (q y z))⟩
theorem Blw.refl (a : Addr) (h : Heap) : Blw a h h := ⟨Nat.le_refl _, fun _ _ _ q => q⟩
theorem Blw.old {a : Addr} {Z : State} {h h' : Heap} (B : Blw a h h') (g : Z.heap.size ≤ a) (O : Old Z Z.heap.size h) : Old Z Z.heap.size h' := ⟨rfl, Nat.le_trans O.2.1 B.1, fun x c q => B.2 x c (Nat.lt_of_lt_of_le (Array.getElem?_eq_some_iff.mp q).1 g) (O.2.2 x c q)⟩
theorem Arv.blw {Z : State} {h h' : Heap} {a b : Addr} {k : ClassId} {ty : FieldType} {z : Int32} {vs : List Value} {dv : Value} (F : Arv Z h b k ty z vs dv) (B : Blw a h h') (q : b < a) : Arv Z h' b k ty z vs dv := by obtain ⟨c, A, r⟩ := F; exact ⟨c, ⟨B.2 b c q A.1, A.2⟩, r⟩
def addL (es : List Int32) (x : Int32) : List Int32 := if x ∈ es then es else es ++ [x]
theorem mem_addL (es : List Int32) (x q : Int32) : q ∈ addL es x ↔ q ∈ es ∨ q = x := by
  unfold addL
  by_cases h : x ∈ es
  · rw [if_pos h]; exact ⟨Or.inl, fun u => u.elim id fun e => e ▸ h⟩
  · rw [if_neg h]; simp
theorem good_addL {es : List Int32} {x : Int32} (g : Good es) (hx : 0 ≤ x.toInt) : Good (addL es x) := by
  unfold addL
  by_cases h : x ∈ es
  · rw [if_pos h]; exact g
  · rw [if_neg h]
    refine ⟨List.nodup_append.mpr ⟨g.1, by simp, fun a ha b hb e => ?_⟩, fun e he => ?_⟩
    · rw [List.mem_singleton] at hb; subst hb; subst e; exact h ha
    · rcases List.mem_append.mp he with u | u
      · exact g.2 e u
      · rw [List.mem_singleton] at u; subst u; exact hx
theorem addL_len (es : List Int32) (x : Int32) : (addL es x).length ≤ es.length + 1 := by
  unfold addL; split <;> simp
def ISN : String := "com/example/overrule/overrule/engine/IntSet"
/-- the IntSet at a holds es in an array of E places and a table of M -/
def RepA (Z : State) (h : Heap) (a : Addr) (es : List Int32) (E M mask : Int32) (En Mn : Nat) : Prop :=
  ∃ (eb sl : Addr) (kb ks : ClassId) (pad : List Int32), a < eb ∧ a < sl ∧ eb ≠ sl ∧ (es ++ pad).length = En ∧ Fld Z h a ISN "elements" "[I" (.ref eb) ∧ Fld Z h a ISN "size" "I" (.int (Int32.ofNat es.length)) ∧ Fld Z h a ISN "slots" "[I" (.ref sl) ∧
     Arv Z h eb kb .int E ((es ++ pad).map Value.int) (.int (0 : Int32)) ∧ Arv Z h sl ks .int M ((tab Mn (hsh mask) es).map Value.int) (.int (0 : Int32))
/-- nothing made yet -/
def RepN (Z : State) (aN : Addr) (h : Heap) (a : Addr) : Prop := Fld Z h a ISN "elements" "[I" (.ref aN) ∧ Fld Z h a ISN "size" "I" (.int (0 : Int32)) ∧ Fld Z h a ISN "slots" "[I" (.ref aN)
/-- the IntSet at a holds es -/
def Rep (Z : State) (aN : Addr) (h : Heap) (a : Addr) (es : List Int32) : Prop := Z.heap.size ≤ a ∧ Good es ∧ Exa Z h a ISN ∧
  ((es = [] ∧ RepN Z aN h a) ∨ (es ≠ [] ∧ es.length ≤ 4 ∧ RepA Z h a es 4 8 7 4 8) ∨ (es.length = 5 ∧ RepA Z h a es 8 16 15 8 16))
theorem rep_look8 {es : List Int32} (x : Int32) (g : Good es) (hl : es.length ≤ 8) : lookN (tab 8 (hsh (7 : Int32)) es) 8 x 8 (hsh (7 : Int32) x) = decide (x ∈ es) := look_spec (inv8 g hl) (good_ne g) (hl8 x)
theorem rep_look16 {es : List Int32} (x : Int32) (g : Good es) (hl : es.length ≤ 16) : lookN (tab 16 (hsh (15 : Int32)) es) 16 x 16 (hsh (15 : Int32) x) = decide (x ∈ es) := look_spec (inv16 g hl) (good_ne g) (hl16 x)
theorem good_nil : Good [] := ⟨List.nodup_nil, fun _ h => nomatch h⟩
theorem len_3 {l : List Int32} (h : l.length = 3) : ∃ a b c, l = [a, b, c] := by match l, h with | [a, b, c], _ => exact ⟨a, b, c, rfl⟩
theorem len_2 {l : List Int32} (h : l.length = 2) : ∃ a b, l = [a, b] := by match l, h with | [a, b], _ => exact ⟨a, b, rfl⟩
theorem len_1 {l : List Int32} (h : l.length = 1) : ∃ a, l = [a] := by match l, h with | [a], _ => exact ⟨a, rfl⟩
theorem own_ofNat {n : Nat} (h : n ≠ 0) (h2 : n ≤ 16) : ¬ Int32.ofNat n = 0 := by
  have : ∀ k : Fin 17, k.val ≠ 0 → ¬ Int32.ofNat k.val = 0 := by decide
  exact this ⟨n, by omega⟩ h
theorem rep_read {Z : State} {aN a : Addr} {h : Heap} {es : List Int32} (R : Rep Z aN h a es) : RepN Z aN h a ∧ es = [] ∨ (es.length ≤ 4 ∧ RepA Z h a es 4 8 7 4 8) ∨ (es.length ≤ 8 ∧ RepA Z h a es 8 16 15 8 16) := by
  obtain ⟨-, -, -, ⟨h1, h2⟩ | ⟨-, h1, h2⟩ | ⟨h1, h2⟩⟩ := R
  · exact Or.inl ⟨h2, h1⟩
  · exact Or.inr (Or.inl ⟨h1, h2⟩)
  · exact Or.inr (Or.inr ⟨by omega, h2⟩)
theorem rep_read4 {Z : State} {aN a : Addr} {h : Heap} {es : List Int32} (R : Rep Z aN h a es) (hl : es.length ≤ 4) : RepN Z aN h a ∧ es = [] ∨ (es.length ≤ 4 ∧ RepA Z h a es 4 8 7 4 8) := by
  obtain ⟨-, -, -, ⟨h1, h2⟩ | ⟨-, h1, h2⟩ | ⟨h1, h2⟩⟩ := R
  · exact Or.inl ⟨h2, h1⟩
  · exact Or.inr ⟨h1, h2⟩
  · omega
theorem own_nn (x : Int32) : 0 ≤ (x &&& (2147483647 : Int32)).toInt := by
  have e1 : (x &&& (2147483647 : Int32)).toInt = x.toInt % 2 ^ 31 := Jvm.Kit.i32_mask x 2147483647 (k := 31) (by decide) (by decide)
  omega
theorem own_and3 (x : Int32) : (x &&& (3 : Int32)) = 0 ∨ (x &&& (3 : Int32)) = 1 ∨ (x &&& (3 : Int32)) = 2 ∨ (x &&& (3 : Int32)) = 3 := by
  have e1 : (x &&& (3 : Int32)).toInt = x.toInt % 2 ^ 2 := Jvm.Kit.i32_mask x 3 (k := 2) (by decide) (by decide)
  generalize (x &&& (3 : Int32)) = k at *
  have e3 : k.toInt = 0 ∨ k.toInt = 1 ∨ k.toInt = 2 ∨ k.toInt = 3 := by omega
  rcases e3 with h | h | h | h
  · exact Or.inl (own_i32 h (by decide))
  · exact Or.inr (Or.inl (own_i32 h (by decide)))
  · exact Or.inr (Or.inr (Or.inl (own_i32 h (by decide))))
  · exact Or.inr (Or.inr (Or.inr (own_i32 h (by decide))))
theorem own_and7 (x : Int32) : (x &&& (7 : Int32)) = 0 ∨ (x &&& (7 : Int32)) = 1 ∨ (x &&& (7 : Int32)) = 2 ∨ (x &&& (7 : Int32)) = 3 ∨ (x &&& (7 : Int32)) = 4 ∨ (x &&& (7 : Int32)) = 5 ∨ (x &&& (7 : Int32)) = 6 ∨ (x &&& (7 : Int32)) = 7 := by
  have e1 : (x &&& (7 : Int32)).toInt = x.toInt % 2 ^ 3 := Jvm.Kit.i32_mask x 7 (k := 3) (by decide) (by decide)
  generalize (x &&& (7 : Int32)) = k at *
  have e3 : k.toInt = 0 ∨ k.toInt = 1 ∨ k.toInt = 2 ∨ k.toInt = 3 ∨ k.toInt = 4 ∨ k.toInt = 5 ∨ k.toInt = 6 ∨ k.toInt = 7 := by omega
  rcases e3 with h | h | h | h | h | h | h | h
  · exact Or.inl (own_i32 h (by decide))
  · exact Or.inr (Or.inl (own_i32 h (by decide)))
  · exact Or.inr (Or.inr (Or.inl (own_i32 h (by decide))))
  · exact Or.inr (Or.inr (Or.inr (Or.inl (own_i32 h (by decide)))))
  · exact Or.inr (Or.inr (Or.inr (Or.inr (Or.inl (own_i32 h (by decide))))))
  · exact Or.inr (Or.inr (Or.inr (Or.inr (Or.inr (Or.inl (own_i32 h (by decide)))))))
  · exact Or.inr (Or.inr (Or.inr (Or.inr (Or.inr (Or.inr (Or.inl (own_i32 h (by decide))))))))
  · exact Or.inr (Or.inr (Or.inr (Or.inr (Or.inr (Or.inr (Or.inr (own_i32 h (by decide))))))))
theorem good_pre {l r : List Int32} (g : Good (l ++ r)) : Good l := ⟨(List.nodup_append.mp g.1).1, fun e h => g.2 e (List.mem_append_left _ h)⟩
theorem ofNat_pred (n : Nat) : Int32.ofNat (n + 1) - (1 : Int32) = Int32.ofNat n := by
  rw [Int32.ofNat_add]; exact Int32.add_sub_cancel _ _
theorem ofNat_int {n : Nat} (h : n ≤ 16) : (Int32.ofNat n).toInt = n := by
  have : ∀ k : Fin 17, (Int32.ofNat k.val).toInt = k.val := by decide
  exact this ⟨n, by omega⟩
theorem ofNat_lt {n : Nat} {t : Int32} (h : n ≤ 16) : t < Int32.ofNat n ↔ t.toInt < n := by rw [Int32.lt_iff_toInt_lt, ofNat_int h]
theorem lt_ofNat {n : Nat} {t : Int32} (h : n ≤ 16) : Int32.ofNat n < t ↔ n < t.toInt := by rw [Int32.lt_iff_toInt_lt, ofNat_int h]
theorem ofNat_nat {n : Nat} (h : n ≤ 16) : (Int32.ofNat n).toNatClampNeg = n := by
  have := ofNat_int h; simp only [Int32.toNatClampNeg]; omega
theorem pre_addL (es : List Int32) (x : Int32) : es <+: addL es x := by
  unfold addL; split
  · exact List.prefix_refl _
  · exact List.prefix_append _ _
theorem len_addL (es : List Int32) (x : Int32) : Int32.ofNat es.length + (if x ∈ es then 0 else 1 : Int32) = Int32.ofNat (addL es x).length := by
  unfold addL; split
  · exact Int32.add_zero _
  · rw [List.length_append, Int32.ofNat_add]; rfl
theorem len1_addL (w x : Int32) : (1 : Int32) + (if x ∈ addL [] w then 0 else 1 : Int32) = Int32.ofNat (addL (addL [] w) x).length := by
  rw [← len_addL]; simp [addL]
theorem own_r1 {P : Prop} [Decidable P] (h : ¬ (if P then 0 else 1 : Int32) = 0) : (1 : Int32) = (if P then 0 else 1 : Int32) := by
  by_cases q : P
  · rw [if_pos q] at h; exact absurd rfl h
  · rw [if_neg q]
theorem own_rn {P : Prop} [Decidable P] (h : ¬ (if P then 0 else 1 : Int32) = 0) : ¬ P := fun q => h (if_pos q)
theorem take_mem {full es : List Int32} {x : Int32} {k : Nat} (hn : full.Nodup) (hp : es ++ [x] <+: full) : x ∈ full.take k ↔ es.length < k := by
  obtain ⟨r, rfl⟩ := hp
  constructor
  · intro h
    apply Classical.byContradiction
    intro hk
    have e : (es ++ [x] ++ r).take k = es.take k := by
      rw [List.append_assoc, List.take_append_of_le_length (by omega)]
    rw [e] at h
    have h1 := List.mem_of_mem_take h
    have h2 := (List.nodup_append.mp (List.nodup_append.mp hn).1).2.2
    exact h2 x h1 x (List.mem_singleton_self x) rfl
  · intro h
    have e : (es ++ [x]) <+: (es ++ [x] ++ r).take k := by
      rw [List.prefix_take_iff]
      refine ⟨List.prefix_append _ _, ?_⟩
      rw [List.length_append]; exact h
    exact e.subset (by simp)
theorem ok_one {full : List Int32} {x r pos t : Int32} (hr : ¬ r = 0 → (x ∈ full ↔ pos < t)) : (if r = 0 then 1 else (if (if x ∈ full then 1 else 0 : Int32) = (if pos < t then 1 else 0 : Int32) then 1 else 0) : Int32) = 1 := by
  by_cases h : r = 0
  · rw [if_pos h]
  · rw [if_neg h]
    have q := hr h
    by_cases u : pos < t
    · rw [if_pos u, if_pos (q.mpr u), if_pos rfl]
    · rw [if_neg u, if_neg (fun v => u (q.mp v)), if_pos rfl]
theorem ok_mem {full es : List Int32} {x t : Int32} (hl : es.length ≤ 16) (hn : full.Nodup) (hp : addL es x <+: full) (hr : ¬ (if x ∈ es then 0 else 1 : Int32) = 0) (ht : 0 ≤ t.toInt) : x ∈ full.take t.toInt.toNat ↔ Int32.ofNat es.length < t := by
  rw [lt_ofNat hl]
  have h := own_rn hr
  rw [addL, if_neg h] at hp
  rw [take_mem hn hp]; omega
theorem min_take {full : List Int32} {t : Int32} (hl : full.length ≤ 16) (h0 : 0 ≤ t.toInt) (h8 : t.toInt < 8) : Int32.ofNat (full.take t.toInt.toNat).length = (if Int32.ofNat full.length < t then Int32.ofNat full.length else t) := by
  rw [List.length_take]
  by_cases h : Int32.ofNat full.length < t
  · rw [if_pos h, Nat.min_eq_right (by have := (lt_ofNat hl).mp h; omega)]
  · rw [if_neg h]
    have h' : ¬ (full.length : Int) < t.toInt := fun q => h ((lt_ofNat hl).mpr q)
    rw [Nat.min_eq_left (by omega)]
    apply Int32.toInt_inj.mp
    rw [ofNat_int (by omega)]; omega
theorem good_take {es : List Int32} (g : Good es) (k : Nat) : Good (es.take k) := ⟨g.1.sublist (List.take_sublist _ _), fun e h => g.2 e (List.mem_of_mem_take h)⟩
theorem snoc_of {es : List Int32} {n : Nat} (h : es.length = n + 1) : ∃ es' x, es = es' ++ [x] ∧ es'.length = n := by
  have hne : es ≠ [] := by intro q; subst q; simp at h
  exact ⟨es.dropLast, es.getLast hne, (List.dropLast_concat_getLast hne).symm, by rw [List.length_dropLast]; omega⟩
theorem read_at {es pad : List Int32} {x : Int32} {n : Nat} (h : es.length = n) : (es ++ [x] ++ pad).getD n 0 = x := by subst h; simp
theorem take_snoc {es : List Int32} {x : Int32} {k : Nat} (h : k < (es ++ [x]).length) : (es ++ [x]).take k = es.take k := by rw [List.take_append_of_le_length]; rw [List.length_append] at h; simp at h; omega
def qry (k : Int32) (w0 w1 w2 w3 w4 q : Int32) : Int32 := if k = 0 then w0 else if k = 1 then w1 else if k = 2 then w2 else if k = 3 then w3 else if k = 4 then w4 else q
theorem own_ffl16 {es : List Int32} {x : Int32} (hg : Good es) (hl : es.length < 16) : ffN (tab 16 (hsh (15 : Int32)) es) 16 16 (hsh (15 : Int32) x) < 16 := by
  obtain ⟨d, hd, g1, -⟩ := ff_spec (t := tab 16 (hsh (15 : Int32)) es) (M := 16) 16 (hsh (15 : Int32) x) (hl16 x) (free_at (inv16 hg (by omega)) hl _)
  rw [g1]; exact Nat.mod_lt _ (by omega)
theorem rem_pack {M : Nat} {h : Int32 → Nat} (hh : ∀ x, h x < M) {es : List Int32} {x : Int32} (g : Good (es ++ [x])) (hl : (es ++ [x]).length ≤ M) :
    (∃ d, d < M ∧ (tab M h (es ++ [x])).getD ((h x + d) % M) 0 = x) ∧ tfN (tab M h (es ++ [x])) M x M (h x) < M ∧ (tab M h (es ++ [x])).set (tfN (tab M h (es ++ [x])) M x M (h x)) (-1) = tab M h es := by
  rw [List.length_append, List.length_singleton] at hl
  have I := inv_tab hh (good_pre g) (by omega)
  have hx : x ∉ es := fun q => (List.nodup_append.mp g.1).2.2 x q x (List.mem_singleton_self x) rfl
  obtain ⟨d, hd, e1, e2, e3, e4⟩ := rem_tab I hx (good_ne g x (by simp)) (by omega) (hh x)
  rw [tab_snoc, e1]
  exact ⟨⟨d, hd, e4⟩, e2, e3⟩
theorem ofNat_in {n k : Nat} (h : n < k) (hk : k ≤ 16) : ¬ Int32.ofNat n < 0 ∧ Int32.ofNat n < Int32.ofNat k := by
  refine ⟨fun q => ?_, (lt_ofNat (by omega)).mpr (by rw [ofNat_int hk]; omega)⟩
  have q' := Int32.lt_iff_toInt_lt.mp q
  rw [ofNat_int (by omega), show (0 : Int32).toInt = 0 from rfl] at q'; omega
def RepT (Z : State) (h : Heap) (a : Addr) (es : List Int32) : Prop := Good es ∧ Exa Z h a ISN ∧ ((es.length ≤ 4 ∧ RepA Z h a es 4 8 7 4 8) ∨ (es.length ≤ 8 ∧ RepA Z h a es 8 16 15 8 16))
theorem rept_read {Z : State} {h : Heap} {a aN : Addr} {es : List Int32} (R : RepT Z h a es) : RepN Z aN h a ∧ es = [] ∨ (es.length ≤ 4 ∧ RepA Z h a es 4 8 7 4 8) ∨ (es.length ≤ 8 ∧ RepA Z h a es 8 16 15 8 16) := Or.inr R.2.2
theorem rept_size {Z : State} {h : Heap} {a : Addr} {es : List Int32} (R : RepT Z h a es) : Fld Z h a ISN "size" "I" (.int (Int32.ofNat es.length)) := by
  obtain ⟨-, -, ⟨-, eb, sl, kb, ks, pad, l1, l2, ne, lp, Fe, Fn, r⟩ | ⟨-, eb, sl, kb, ks, pad, l1, l2, ne, lp, Fe, Fn, r⟩⟩ := R
  · exact Fn
  · exact Fn
theorem own_min5 (x : Int32) : (if (5 : Int32) < (x &&& (7 : Int32)) then (5 : Int32) else (x &&& (7 : Int32))) = 0 ∨ (if (5 : Int32) < (x &&& (7 : Int32)) then (5 : Int32) else (x &&& (7 : Int32))) = 1 ∨ (if (5 : Int32) < (x &&& (7 : Int32)) then (5 : Int32) else (x &&& (7 : Int32))) = 2 ∨ (if (5 : Int32) < (x &&& (7 : Int32)) then (5 : Int32) else (x &&& (7 : Int32))) = 3 ∨ (if (5 : Int32) < (x &&& (7 : Int32)) then (5 : Int32) else (x &&& (7 : Int32))) = 4 ∨ (if (5 : Int32) < (x &&& (7 : Int32)) then (5 : Int32) else (x &&& (7 : Int32))) = 5 := by
  rcases own_and7 x with h | h | h | h | h | h | h | h <;> rw [h] <;> decide
theorem own_w7 (x : Int32) : 0 ≤ (x &&& (7 : Int32)).toInt ∧ (x &&& (7 : Int32)).toInt < 8 := by
  have e1 : (x &&& (7 : Int32)).toInt = x.toInt % 2 ^ 3 := Jvm.Kit.i32_mask x 7 (k := 3) (by decide) (by decide)
  omega
theorem addL_ne (es : List Int32) (x : Int32) : addL es x ≠ [] := fun q => by
  have h : x ∈ addL es x := (mem_addL es x x).mpr (Or.inr rfl)
  rw [q] at h; cases h
section OwnP
variable {p : Program} {l : Launch} {e : Env} {R : Room} {s Z : State} {m : MethodId} {args a0 : Array Value} {below : List Frame} {meth : Method} {c : Code} {T : State} {locs : List Loc} {cells slots : Nat} {h : Heap} {P : Outcome → State → Prop}
theorem own_nfw : nativeFrameWords "java/lang/System" "arraycopy" 5 = 7 := by first | rfl | decide +kernel | simp [nativeFrameWords]
theorem own_selp {C : String} {y y' : MethodName} (hc : y.cls = y'.cls) (hsel : (Cond.selects C y' y').before args s = true) (hinst : (Cond.instanceMethod y).before args s = true) (hp : s.PrivateAt y) (hy : y.cls ≠ "java/lang/invoke/MethodHandle" ∧ y.cls ≠ "java/lang/invoke/VarHandle") : (Cond.selects y.cls y y).before args s = true := by
  obtain ⟨c2, r2, m2, q1, q2, q3, q4, kP, hkP, hkPi⟩ := Cond.selects_spec hsel
  have e2 := findClass_of_methodNamed q3
  rw [← hc] at e2
  exact selects_self_of_private e2 hkP hkPi hp hinst hy
theorem Go.callP (X : Stand p l e R s m args below meth c T locs cells slots) (hx : p.tables.exec = Jvm.exec) (hZ : Z.Warmed39 s.vm) {own C C' : String} {index : Nat} {y y' : MethodName} {bytes : ByteArray} {maxL : Nat} {ret : Option FieldType} (hown : s.vm.findClass own = some m.cls)
    (w1 : (Cond.methodLink own index y).before a0 Z = true) (w2 : (Cond.instanceMethod y).before a0 Z = true) (wp : (Cond.privateMethod y).before a0 Z = true) (hcl : y.cls = y'.cls) (w3 : (Cond.selects C y' y').before a0 Z = true) (w5 : (Cond.initialized y.cls).before a0 Z = true) (w6 : (Cond.code y bytes maxL ret).before a0 Z = true) (hy : y.cls ≠ "java/lang/invoke/MethodHandle" ∧ y.cls ≠ "java/lang/invoke/VarHandle")
    {Rm : Room} {Q : Option Value → Heap → List Loc → Prop} {b : Addr} (argsL rest : List Value) (E : Exa Z h b C') (Ct : Ctr l Z y bytes maxL ret Rm (.ref b :: argsL).toArray h Q) (eT : T.heap = h) {pc : Nat} {Ls : Array Slot} {st : List Value} (hst : st = argsL.reverse ++ .ref b :: rest) (hsz : Ls.size = c.maxLocals) {ps : List FieldType} {r : Option FieldType} (hpd : parseMethodDescriptor y.desc = some ⟨ps, r⟩) (hln : argsL.length = ps.length)
    (hd : decode c.code pc = .ok (.invokevirtual index, 3)) (hfr : Rm.frames + 1 ≤ R.frames) (hlo : (rest.map fun v => v.category).sum + (maxL + 11) + Rm.locals ≤ R.locals) (hc : cells + Rm.cells ≤ R.cells) (hs : slots + Rm.slots ≤ R.slots)
    (K : ∀ v T' L, Stand p l e R s m args below meth c T' (locs ++ L) (cells + Rm.cells) (slots + Rm.slots) → Q v T'.heap L → Go p e below P T' (mkF m (pc + 3) Ls (v.toList ++ rest))) : Go p e below P T (mkF m pc Ls st) := by
  subst hst
  obtain ⟨cq, q1, q3⟩ := E.cell
  have hp := Cond.privateMethod_at (mvP hZ wp (args := #[]))
  obtain ⟨v, _, ⟨T', L', k', n'⟩, -, X', ⟨L, hQ, l1, l2, l3⟩, st⟩ := X.privateBack hx (y := y) hown (mvT hZ w1) (mvT hZ w2) (own_selp hcl (mvT hZ w3) (mvT hZ w2) hp hy) hp (mvT hZ w6) hy (backOf (W := (rest.map fun v => v.category).sum) (Q := Q) (Ct []) hZ w6 w5 hfr hlo) (g := mkF m pc Ls (argsL.reverse ++ .ref b :: rest)) rfl hsz (Steps.refl _) (a := b) (by rw [eT]; exact q1) q3 (argsL := argsL) (rest := rest) (lenOf hpd hln) rfl (by show 2 * 0 + _ ≤ _; omega) hd (fun _ _ => ⟨rfl, eT, hc, hs⟩)
  dsimp only [Pt.U, Pt.locs, Pt.cells, Pt.slots] at X' l1 l2 l3 st hQ
  subst l1 l2 l3
  exact Go.of (fun _ k => st.trans k) (K v T' L X' hQ)
end OwnP
theorem pd_0 : parseMethodDescriptor "([II)V" = some ⟨[(.array .int), .int], none⟩ := by decide +kernel
theorem pd_1 : parseMethodDescriptor "(I)[I" = some ⟨[.int], some (.array .int)⟩ := by decide +kernel
theorem pd_2 : parseMethodDescriptor "(II)I" = some ⟨[.int, .int], some .int⟩ := by decide +kernel
theorem pd_3 : parseMethodDescriptor "([II)[I" = some ⟨[(.array .int), .int], some (.array .int)⟩ := by decide +kernel
theorem pd_4 : parseMethodDescriptor "(I)V" = some ⟨[.int], none⟩ := by decide +kernel
theorem pd_5 : parseMethodDescriptor "(I)Z" = some ⟨[.int], some .boolean⟩ := by decide +kernel
theorem pd_6 : parseMethodDescriptor "()V" = some ⟨[], none⟩ := by decide +kernel
theorem pd_7 : parseMethodDescriptor "()I" = some ⟨[], some .int⟩ := by decide +kernel
theorem pd_8 : parseMethodDescriptor "(Lcom/example/overrule/overrule/engine/IntSet;ZIII)Z" = some ⟨[(.object "com/example/overrule/overrule/engine/IntSet"), .boolean, .int, .int, .int], some .boolean⟩ := by decide +kernel
def Facts (Z : State) (a_NONE : Addr) (k_NONE : ClassId) : Prop := (Sta Z Z.heap "com/example/overrule/overrule/engine/IntSet" "NONE" "[I" (.ref a_NONE)) ∧ (Arv Z Z.heap a_NONE k_NONE .int (0 : Int32) [] (.int (0 : Int32)))
theorem d4_0 : decode prog_46_method_11_code 0 = .ok (.iload_n 0, 1) := by decide +kernel
theorem d4_1 : decode prog_46_method_11_code 1 = .ok (.newarray .int, 2) := by decide +kernel
theorem d4_3 : decode prog_46_method_11_code 3 = .ok (.astore_n 1, 1) := by decide +kernel
theorem d4_4 : decode prog_46_method_11_code 4 = .ok (.aload_n 1, 1) := by decide +kernel
theorem d4_5 : decode prog_46_method_11_code 5 = .ok (.iconst (-1), 1) := by decide +kernel
theorem d4_6 : decode prog_46_method_11_code 6 = .ok (.invokestatic 46, 3) := by decide +kernel
theorem d4_9 : decode prog_46_method_11_code 9 = .ok (.aload_n 1, 1) := by decide +kernel
theorem d4_10 : decode prog_46_method_11_code 10 = .ok (.areturn, 1) := by decide +kernel
theorem pn_4 : plainName "com/example/overrule/overrule/engine/IntSet" = true := by first | (simp [plainName, overriddenIn]; done) | decide +kernel
theorem ef_4 (m : MethodId) (x0 : Int32) : entryFrame m #[(.int x0)] 2 = mkF m 0 #[.val (.int x0), .unset] [] := by first | (simp [entryFrame, mkF, argsToLocals, Value.category]; done) | rfl
theorem d5_0 : decode jdk_65_method_103_code 0 = .ok (.iconst 0, 1) := by decide +kernel
theorem d5_1 : decode jdk_65_method_103_code 1 = .ok (.istore_n 2, 1) := by decide +kernel
theorem d5_2 : decode jdk_65_method_103_code 2 = .ok (.aload_n 0, 1) := by decide +kernel
theorem d5_3 : decode jdk_65_method_103_code 3 = .ok (.arraylength, 1) := by decide +kernel
theorem d5_4 : decode jdk_65_method_103_code 4 = .ok (.istore_n 3, 1) := by decide +kernel
theorem d5_5 : decode jdk_65_method_103_code 5 = .ok (.iload_n 2, 1) := by decide +kernel
theorem d5_6 : decode jdk_65_method_103_code 6 = .ok (.iload_n 3, 1) := by decide +kernel
theorem d5_7 : decode jdk_65_method_103_code 7 = .ok (.if_icmp .ge 13, 3) := by decide +kernel
theorem d5_10 : decode jdk_65_method_103_code 10 = .ok (.aload_n 0, 1) := by decide +kernel
theorem d5_11 : decode jdk_65_method_103_code 11 = .ok (.iload_n 2, 1) := by decide +kernel
theorem d5_12 : decode jdk_65_method_103_code 12 = .ok (.iload_n 1, 1) := by decide +kernel
theorem d5_13 : decode jdk_65_method_103_code 13 = .ok (.iastore, 1) := by decide +kernel
theorem d5_14 : decode jdk_65_method_103_code 14 = .ok (.iinc 2 1, 3) := by decide +kernel
theorem d5_17 : decode jdk_65_method_103_code 17 = .ok (.goto (-12), 3) := by decide +kernel
theorem d5_20 : decode jdk_65_method_103_code 20 = .ok (.return_, 1) := by decide +kernel
theorem pn_5 : plainName "java/util/Arrays" = true := by first | (simp [plainName, overriddenIn]; done) | decide +kernel
theorem ef_5 (m : MethodId) (x0 : Addr) (x1 : Int32) : entryFrame m #[(.ref x0), (.int x1)] 4 = mkF m 0 #[.val (.ref x0), .val (.int x1), .unset, .unset] [] := by first | (simp [entryFrame, mkF, argsToLocals, Value.category]; done) | rfl
set_option maxRecDepth 65536 in
set_option maxHeartbeats 40000000 in
theorem isFill8 (l : Launch) (Z : State) (a0 : Array Value) (hw : ∀ d ∈ tables_1, d.before a0 Z = true) (g : Addr) (kg : ClassId) (y : Int32) (h0 : Heap) (O0 : Old Z Z.heap.size h0) (gg : Z.heap.size ≤ g) (Vg : Arv Z h0 g kg .int (8 : Int32) [(.int (0 : Int32)), (.int (0 : Int32)), (.int (0 : Int32)), (.int (0 : Int32)), (.int (0 : Int32)), (.int (0 : Int32)), (.int (0 : Int32)), (.int (0 : Int32))] (.int (0 : Int32))) : Ctr l Z (⟨"java/util/Arrays", "fill", "([II)V"⟩ : MethodName) jdk_65_method_103_code 4 none ({ frames := 0, cells := 0, slots := 0, locals := 0 } : Room) #[(.ref g), (.int y)] h0 (fun v h L => v = none ∧ Fr Z.heap.size L ∧ Keep h0 h [g] ∧ Arv Z h g kg .int (8 : Int32) [(.int y), (.int y), (.int y), (.int y), (.int y), (.int y), (.int y), (.int y)] (.int (0 : Int32))) := by
  refine Ctr.of (plainFor_of_name pn_5) ?_
  have wd : ∀ {d : Jvm.Cond} (i : Nat), tables_1[i]? = some d → d.before a0 Z = true := fun i q => hw _ (List.mem_of_getElem? q)
  intro p e s m below meth c s₁ hx hby hml hown hnm hret hlk hZ X0 e0
  refine Go.cast (ef_5 m g y) ?_
  show Go p e below _ s₁ (mkF m 0 #[.val (.ref g), .val (.int y), .unset, .unset] [])
  refine Go.iconst X0 hx (hb hby d5_0) rfl (0 : Int32) rfl ?_
  refine Go.istoreN X0 hx (hb hby d5_1) rfl  #[.val (.ref g), .val (.int y), .val (.int (0 : Int32)), .unset] rfl ?_
  refine Go.aloadN X0 hx (hb hby d5_2) rfl rfl rfl ?_
  refine Go.alen X0 hx hZ Vg e0 (hb hby d5_3) rfl ?_
  refine Go.istoreN X0 hx (hb hby d5_4) rfl  #[.val (.ref g), .val (.int y), .val (.int (0 : Int32)), .val (.int (8 : Int32))] rfl ?_
  refine Go.iloadN X0 hx (hb hby d5_5) rfl rfl  ?_
  refine Go.iloadN X0 hx (hb hby d5_6) rfl rfl  ?_
  refine Go.icmpNo X0 hx (hb hby d5_7) rfl (tlt (by decide : (0 : Int32) < (8 : Int32))).2.1 ?_
  refine Go.aloadN X0 hx (hb hby d5_10) rfl rfl rfl ?_
  refine Go.iloadN X0 hx (hb hby d5_11) rfl rfl  ?_
  refine Go.iloadN X0 hx (hb hby d5_12) rfl rfl  ?_
  refine Go.iastore X0 hx hZ Vg e0 ⟨by decide, by decide⟩ 0 (by decide) (Nat.le_of_ble_eq_true rfl)  (hb hby d5_13) rfl ?_
  intro T1 h1 X1 e1 W1 V1'
  have V1 : Arv Z h1 g kg .int (8 : Int32) [(.int y), (.int (0 : Int32)), (.int (0 : Int32)), (.int (0 : Int32)), (.int (0 : Int32)), (.int (0 : Int32)), (.int (0 : Int32)), (.int (0 : Int32))] (.int (0 : Int32)) := V1'
  have K2 := (Keep.refl h0 [g]).wr W1 (Or.inl (List.mem_of_getElem? (i := 0) rfl))
  have O3 := O0.wr W1 gg
  have N4 := Fr.snoc X1 (Fr.nil _) gg
  refine Go.iinc X1 hx (hb hby d5_14) rfl rfl #[.val (.ref g), .val (.int y), .val (.int ((0 : Int32) + (1 : Int32))), .val (.int (8 : Int32))] rfl ?_
  show Go p e below _ T1 (mkF m 17 #[.val (.ref g), .val (.int y), .val (.int ((0 : Int32) + (1 : Int32))), .val (.int (8 : Int32))] [])
  rw [show ((0 : Int32) + (1 : Int32)) = (1 : Int32) from by decide]
  show Go p e below _ T1 (mkF m 17 #[.val (.ref g), .val (.int y), .val (.int (1 : Int32)), .val (.int (8 : Int32))] [])
  refine Go.goto X1 hx (hb hby d5_17) rfl 5 (by decide) (by decide) ?_
  refine Go.iloadN X1 hx (hb hby d5_5) rfl rfl  ?_
  refine Go.iloadN X1 hx (hb hby d5_6) rfl rfl  ?_
  refine Go.icmpNo X1 hx (hb hby d5_7) rfl (tlt (by decide : (1 : Int32) < (8 : Int32))).2.1 ?_
  refine Go.aloadN X1 hx (hb hby d5_10) rfl rfl rfl ?_
  refine Go.iloadN X1 hx (hb hby d5_11) rfl rfl  ?_
  refine Go.iloadN X1 hx (hb hby d5_12) rfl rfl  ?_
  refine Go.iastore X1 hx hZ V1 e1 ⟨by decide, by decide⟩ 1 (by decide) (Nat.le_of_ble_eq_true rfl)  (hb hby d5_13) rfl ?_
  intro T5 h5 X5 e5 W5 V5'
  have V5 : Arv Z h5 g kg .int (8 : Int32) [(.int y), (.int y), (.int (0 : Int32)), (.int (0 : Int32)), (.int (0 : Int32)), (.int (0 : Int32)), (.int (0 : Int32)), (.int (0 : Int32))] (.int (0 : Int32)) := V5'
  have K6 := K2.wr W5 (Or.inl (List.mem_of_getElem? (i := 0) rfl))
  have O7 := O3.wr W5 gg
  have N8 := Fr.snoc X5 N4 gg
  refine Go.iinc X5 hx (hb hby d5_14) rfl rfl #[.val (.ref g), .val (.int y), .val (.int ((1 : Int32) + (1 : Int32))), .val (.int (8 : Int32))] rfl ?_
  show Go p e below _ T5 (mkF m 17 #[.val (.ref g), .val (.int y), .val (.int ((1 : Int32) + (1 : Int32))), .val (.int (8 : Int32))] [])
  rw [show ((1 : Int32) + (1 : Int32)) = (2 : Int32) from by decide]
  show Go p e below _ T5 (mkF m 17 #[.val (.ref g), .val (.int y), .val (.int (2 : Int32)), .val (.int (8 : Int32))] [])
  refine Go.goto X5 hx (hb hby d5_17) rfl 5 (by decide) (by decide) ?_
  refine Go.iloadN X5 hx (hb hby d5_5) rfl rfl  ?_
  refine Go.iloadN X5 hx (hb hby d5_6) rfl rfl  ?_
  refine Go.icmpNo X5 hx (hb hby d5_7) rfl (tlt (by decide : (2 : Int32) < (8 : Int32))).2.1 ?_
  refine Go.aloadN X5 hx (hb hby d5_10) rfl rfl rfl ?_
  refine Go.iloadN X5 hx (hb hby d5_11) rfl rfl  ?_
  refine Go.iloadN X5 hx (hb hby d5_12) rfl rfl  ?_
  refine Go.iastore X5 hx hZ V5 e5 ⟨by decide, by decide⟩ 2 (by decide) (Nat.le_of_ble_eq_true rfl)  (hb hby d5_13) rfl ?_
  intro T9 h9 X9 e9 W9 V9'
  have V9 : Arv Z h9 g kg .int (8 : Int32) [(.int y), (.int y), (.int y), (.int (0 : Int32)), (.int (0 : Int32)), (.int (0 : Int32)), (.int (0 : Int32)), (.int (0 : Int32))] (.int (0 : Int32)) := V9'
  have K10 := K6.wr W9 (Or.inl (List.mem_of_getElem? (i := 0) rfl))
  have O11 := O7.wr W9 gg
  have N12 := Fr.snoc X9 N8 gg
  refine Go.iinc X9 hx (hb hby d5_14) rfl rfl #[.val (.ref g), .val (.int y), .val (.int ((2 : Int32) + (1 : Int32))), .val (.int (8 : Int32))] rfl ?_
  show Go p e below _ T9 (mkF m 17 #[.val (.ref g), .val (.int y), .val (.int ((2 : Int32) + (1 : Int32))), .val (.int (8 : Int32))] [])
  rw [show ((2 : Int32) + (1 : Int32)) = (3 : Int32) from by decide]
  show Go p e below _ T9 (mkF m 17 #[.val (.ref g), .val (.int y), .val (.int (3 : Int32)), .val (.int (8 : Int32))] [])
  refine Go.goto X9 hx (hb hby d5_17) rfl 5 (by decide) (by decide) ?_
  refine Go.iloadN X9 hx (hb hby d5_5) rfl rfl  ?_
  refine Go.iloadN X9 hx (hb hby d5_6) rfl rfl  ?_
  refine Go.icmpNo X9 hx (hb hby d5_7) rfl (tlt (by decide : (3 : Int32) < (8 : Int32))).2.1 ?_
  refine Go.aloadN X9 hx (hb hby d5_10) rfl rfl rfl ?_
  refine Go.iloadN X9 hx (hb hby d5_11) rfl rfl  ?_
  refine Go.iloadN X9 hx (hb hby d5_12) rfl rfl  ?_
  refine Go.iastore X9 hx hZ V9 e9 ⟨by decide, by decide⟩ 3 (by decide) (Nat.le_of_ble_eq_true rfl)  (hb hby d5_13) rfl ?_
  intro T13 h13 X13 e13 W13 V13'
  have V13 : Arv Z h13 g kg .int (8 : Int32) [(.int y), (.int y), (.int y), (.int y), (.int (0 : Int32)), (.int (0 : Int32)), (.int (0 : Int32)), (.int (0 : Int32))] (.int (0 : Int32)) := V13'
  have K14 := K10.wr W13 (Or.inl (List.mem_of_getElem? (i := 0) rfl))
  have O15 := O11.wr W13 gg
  have N16 := Fr.snoc X13 N12 gg
  refine Go.iinc X13 hx (hb hby d5_14) rfl rfl #[.val (.ref g), .val (.int y), .val (.int ((3 : Int32) + (1 : Int32))), .val (.int (8 : Int32))] rfl ?_
  show Go p e below _ T13 (mkF m 17 #[.val (.ref g), .val (.int y), .val (.int ((3 : Int32) + (1 : Int32))), .val (.int (8 : Int32))] [])
  rw [show ((3 : Int32) + (1 : Int32)) = (4 : Int32) from by decide]
  show Go p e below _ T13 (mkF m 17 #[.val (.ref g), .val (.int y), .val (.int (4 : Int32)), .val (.int (8 : Int32))] [])
  refine Go.goto X13 hx (hb hby d5_17) rfl 5 (by decide) (by decide) ?_
  refine Go.iloadN X13 hx (hb hby d5_5) rfl rfl  ?_
  refine Go.iloadN X13 hx (hb hby d5_6) rfl rfl  ?_
  refine Go.icmpNo X13 hx (hb hby d5_7) rfl (tlt (by decide : (4 : Int32) < (8 : Int32))).2.1 ?_
  refine Go.aloadN X13 hx (hb hby d5_10) rfl rfl rfl ?_
  refine Go.iloadN X13 hx (hb hby d5_11) rfl rfl  ?_
  refine Go.iloadN X13 hx (hb hby d5_12) rfl rfl  ?_
  refine Go.iastore X13 hx hZ V13 e13 ⟨by decide, by decide⟩ 4 (by decide) (Nat.le_of_ble_eq_true rfl)  (hb hby d5_13) rfl ?_
  intro T17 h17 X17 e17 W17 V17'
  have V17 : Arv Z h17 g kg .int (8 : Int32) [(.int y), (.int y), (.int y), (.int y), (.int y), (.int (0 : Int32)), (.int (0 : Int32)), (.int (0 : Int32))] (.int (0 : Int32)) := V17'
  have K18 := K14.wr W17 (Or.inl (List.mem_of_getElem? (i := 0) rfl))
  have O19 := O15.wr W17 gg
  have N20 := Fr.snoc X17 N16 gg
  refine Go.iinc X17 hx (hb hby d5_14) rfl rfl #[.val (.ref g), .val (.int y), .val (.int ((4 : Int32) + (1 : Int32))), .val (.int (8 : Int32))] rfl ?_
  show Go p e below _ T17 (mkF m 17 #[.val (.ref g), .val (.int y), .val (.int ((4 : Int32) + (1 : Int32))), .val (.int (8 : Int32))] [])
  rw [show ((4 : Int32) + (1 : Int32)) = (5 : Int32) from by decide]
  show Go p e below _ T17 (mkF m 17 #[.val (.ref g), .val (.int y), .val (.int (5 : Int32)), .val (.int (8 : Int32))] [])
  refine Go.goto X17 hx (hb hby d5_17) rfl 5 (by decide) (by decide) ?_
  refine Go.iloadN X17 hx (hb hby d5_5) rfl rfl  ?_
  refine Go.iloadN X17 hx (hb hby d5_6) rfl rfl  ?_
  refine Go.icmpNo X17 hx (hb hby d5_7) rfl (tlt (by decide : (5 : Int32) < (8 : Int32))).2.1 ?_
  refine Go.aloadN X17 hx (hb hby d5_10) rfl rfl rfl ?_
  refine Go.iloadN X17 hx (hb hby d5_11) rfl rfl  ?_
  refine Go.iloadN X17 hx (hb hby d5_12) rfl rfl  ?_
  refine Go.iastore X17 hx hZ V17 e17 ⟨by decide, by decide⟩ 5 (by decide) (Nat.le_of_ble_eq_true rfl)  (hb hby d5_13) rfl ?_
  intro T21 h21 X21 e21 W21 V21'
  have V21 : Arv Z h21 g kg .int (8 : Int32) [(.int y), (.int y), (.int y), (.int y), (.int y), (.int y), (.int (0 : Int32)), (.int (0 : Int32))] (.int (0 : Int32)) := V21'
  have K22 := K18.wr W21 (Or.inl (List.mem_of_getElem? (i := 0) rfl))
  have O23 := O19.wr W21 gg
  have N24 := Fr.snoc X21 N20 gg
  refine Go.iinc X21 hx (hb hby d5_14) rfl rfl #[.val (.ref g), .val (.int y), .val (.int ((5 : Int32) + (1 : Int32))), .val (.int (8 : Int32))] rfl ?_
  show Go p e below _ T21 (mkF m 17 #[.val (.ref g), .val (.int y), .val (.int ((5 : Int32) + (1 : Int32))), .val (.int (8 : Int32))] [])
  rw [show ((5 : Int32) + (1 : Int32)) = (6 : Int32) from by decide]
  show Go p e below _ T21 (mkF m 17 #[.val (.ref g), .val (.int y), .val (.int (6 : Int32)), .val (.int (8 : Int32))] [])
  refine Go.goto X21 hx (hb hby d5_17) rfl 5 (by decide) (by decide) ?_
  refine Go.iloadN X21 hx (hb hby d5_5) rfl rfl  ?_
  refine Go.iloadN X21 hx (hb hby d5_6) rfl rfl  ?_
  refine Go.icmpNo X21 hx (hb hby d5_7) rfl (tlt (by decide : (6 : Int32) < (8 : Int32))).2.1 ?_
  refine Go.aloadN X21 hx (hb hby d5_10) rfl rfl rfl ?_
  refine Go.iloadN X21 hx (hb hby d5_11) rfl rfl  ?_
  refine Go.iloadN X21 hx (hb hby d5_12) rfl rfl  ?_
  refine Go.iastore X21 hx hZ V21 e21 ⟨by decide, by decide⟩ 6 (by decide) (Nat.le_of_ble_eq_true rfl)  (hb hby d5_13) rfl ?_
  intro T25 h25 X25 e25 W25 V25'
  have V25 : Arv Z h25 g kg .int (8 : Int32) [(.int y), (.int y), (.int y), (.int y), (.int y), (.int y), (.int y), (.int (0 : Int32))] (.int (0 : Int32)) := V25'
  have K26 := K22.wr W25 (Or.inl (List.mem_of_getElem? (i := 0) rfl))
  have O27 := O23.wr W25 gg
  have N28 := Fr.snoc X25 N24 gg
  refine Go.iinc X25 hx (hb hby d5_14) rfl rfl #[.val (.ref g), .val (.int y), .val (.int ((6 : Int32) + (1 : Int32))), .val (.int (8 : Int32))] rfl ?_
  show Go p e below _ T25 (mkF m 17 #[.val (.ref g), .val (.int y), .val (.int ((6 : Int32) + (1 : Int32))), .val (.int (8 : Int32))] [])
  rw [show ((6 : Int32) + (1 : Int32)) = (7 : Int32) from by decide]
  show Go p e below _ T25 (mkF m 17 #[.val (.ref g), .val (.int y), .val (.int (7 : Int32)), .val (.int (8 : Int32))] [])
  refine Go.goto X25 hx (hb hby d5_17) rfl 5 (by decide) (by decide) ?_
  refine Go.iloadN X25 hx (hb hby d5_5) rfl rfl  ?_
  refine Go.iloadN X25 hx (hb hby d5_6) rfl rfl  ?_
  refine Go.icmpNo X25 hx (hb hby d5_7) rfl (tlt (by decide : (7 : Int32) < (8 : Int32))).2.1 ?_
  refine Go.aloadN X25 hx (hb hby d5_10) rfl rfl rfl ?_
  refine Go.iloadN X25 hx (hb hby d5_11) rfl rfl  ?_
  refine Go.iloadN X25 hx (hb hby d5_12) rfl rfl  ?_
  refine Go.iastore X25 hx hZ V25 e25 ⟨by decide, by decide⟩ 7 (by decide) (Nat.le_of_ble_eq_true rfl)  (hb hby d5_13) rfl ?_
  intro T29 h29 X29 e29 W29 V29'
  have V29 : Arv Z h29 g kg .int (8 : Int32) [(.int y), (.int y), (.int y), (.int y), (.int y), (.int y), (.int y), (.int y)] (.int (0 : Int32)) := V29'
  have K30 := K26.wr W29 (Or.inl (List.mem_of_getElem? (i := 0) rfl))
  have O31 := O27.wr W29 gg
  have N32 := Fr.snoc X29 N28 gg
  refine Go.iinc X29 hx (hb hby d5_14) rfl rfl #[.val (.ref g), .val (.int y), .val (.int ((7 : Int32) + (1 : Int32))), .val (.int (8 : Int32))] rfl ?_
  show Go p e below _ T29 (mkF m 17 #[.val (.ref g), .val (.int y), .val (.int ((7 : Int32) + (1 : Int32))), .val (.int (8 : Int32))] [])
  rw [show ((7 : Int32) + (1 : Int32)) = (8 : Int32) from by decide]
  show Go p e below _ T29 (mkF m 17 #[.val (.ref g), .val (.int y), .val (.int (8 : Int32)), .val (.int (8 : Int32))] [])
  refine Go.goto X29 hx (hb hby d5_17) rfl 5 (by decide) (by decide) ?_
  refine Go.iloadN X29 hx (hb hby d5_5) rfl rfl  ?_
  refine Go.iloadN X29 hx (hb hby d5_6) rfl rfl  ?_
  refine Go.icmpYes X29 hx (hb hby d5_7) rfl 20 (flt (by decide : ¬ ((8 : Int32) < (8 : Int32)))).2.1 (by decide) (by decide) ?_
  exact Go.retV X29 hx hret hlk (hb hby d5_20) rfl (by rw [e29]; exact ⟨rfl, N32, K30, V29⟩) (Nat.le_of_ble_eq_true rfl) (Nat.le_of_ble_eq_true rfl)
set_option maxRecDepth 65536 in
set_option maxHeartbeats 40000000 in
theorem isFree8 (l : Launch) (Z : State) (a0 : Array Value) (hw : ∀ d ∈ tables_1, d.before a0 Z = true)  (h0 : Heap) (O0 : Old Z Z.heap.size h0)  : Ctr l Z (⟨"com/example/overrule/overrule/engine/IntSet", "freeSlots", "(I)[I"⟩ : MethodName) prog_46_method_11_code 2 (some (.array .int)) ({ frames := 1, cells := 1, slots := 8, locals := 15 } : Room) #[(.int (8 : Int32))] h0 (fun v h L => ∃ (g : Addr) (kg : ClassId), v = some (.ref g) ∧ Fr Z.heap.size L ∧ Keep h0 h [] ∧ h0.size ≤ g ∧ Arv Z h g kg .int (8 : Int32) [(.int (-1 : Int32)), (.int (-1 : Int32)), (.int (-1 : Int32)), (.int (-1 : Int32)), (.int (-1 : Int32)), (.int (-1 : Int32)), (.int (-1 : Int32)), (.int (-1 : Int32))] (.int (0 : Int32))) := by
  refine Ctr.of (plainFor_of_name pn_4) ?_
  have wd : ∀ {d : Jvm.Cond} (i : Nat), tables_1[i]? = some d → d.before a0 Z = true := fun i q => hw _ (List.mem_of_getElem? q)
  intro p e s m below meth c s₁ hx hby hml hown hnm hret hlk hZ X0 e0
  refine Go.cast (ef_4 m (8 : Int32)) ?_
  show Go p e below _ s₁ (mkF m 0 #[.val (.int (8 : Int32)), .unset] [])
  refine Go.iloadN X0 hx (hb hby d4_0) rfl rfl  ?_
  refine Go.newP X0 hx hZ (wd 21 rfl) e0 8 (by decide) 8 (by decide) (by decide) (Nat.le_of_ble_eq_true rfl) (Nat.le_of_ble_eq_true rfl) "[I" (by decide) (hb hby d4_1) rfl ?_
  intro T1 h1 b1 k1 g1 X1 e1 E1 V1' A1
  have V1 : Arv Z h1 b1 k1 .int (8 : Int32) [(.int (0 : Int32)), (.int (0 : Int32)), (.int (0 : Int32)), (.int (0 : Int32)), (.int (0 : Int32)), (.int (0 : Int32)), (.int (0 : Int32)), (.int (0 : Int32))] (.int (0 : Int32)) := V1'
  have q1 : Z.heap.size ≤ b1 := Nat.le_trans O0.2.1 (Nat.le_of_eq g1.symm)
  have z1 : h0.size ≤ b1 := Nat.le_trans (Keep.refl h0 []).1 (Nat.le_of_eq g1.symm)
  have K2 := (Keep.refl h0 []).ext E1
  have O3 := O0.ext E1
  refine Go.astoreN X1 hx (hb hby d4_3) rfl rfl #[.val (.int (8 : Int32)), .val (.ref b1)] rfl ?_
  refine Go.aloadN X1 hx (hb hby d4_4) rfl rfl rfl ?_
  refine Go.iconst X1 hx (hb hby d4_5) rfl (-1 : Int32) rfl ?_
  refine Go.callS X1 hx hZ hown (wd 25 rfl) (wd 26 rfl) (wd 27 rfl) (wd 28 rfl) (by decide) [(.ref b1), (.int (-1 : Int32))] [] (isFill8 l Z a0 hw b1 k1 (-1 : Int32) h1 O3 q1 V1) e1 rfl (by rw [hml]; rfl) pd_0 rfl (hb hby d4_6) (Nat.le_of_ble_eq_true rfl) (Nat.le_of_ble_eq_true rfl) (Nat.le_of_ble_eq_true rfl) (Nat.le_of_ble_eq_true rfl) ?_
  rintro vv4 T4 L4 X4 Q4
  obtain ⟨rfl, N4, K4, V4⟩ := Q4
  have M5 := Fr.app (Fr.nil _) N4
  have O6 := O3.keep K4 (allS q1 (all0))
  have K7 := Keep.trans K2 K4 (allS (Or.inr z1) (all0))
  refine Go.aloadN X4 hx (hb hby d4_9) rfl rfl rfl ?_
  exact Go.retA X4 hx hret hlk rfl rfl (hb hby d4_10) rfl ⟨b1, k1, rfl, M5, K7, z1, V4⟩ (Nat.le_of_ble_eq_true rfl) (Nat.le_of_ble_eq_true rfl)
theorem d1_0 : decode prog_46_method_1_code 0 = .ok (.aload_n 0, 1) := by decide +kernel
theorem d1_1 : decode prog_46_method_1_code 1 = .ok (.invokespecial 1, 3) := by decide +kernel
theorem d1_4 : decode prog_46_method_1_code 4 = .ok (.aload_n 0, 1) := by decide +kernel
theorem d1_5 : decode prog_46_method_1_code 5 = .ok (.getstatic 7, 3) := by decide +kernel
theorem d1_8 : decode prog_46_method_1_code 8 = .ok (.putfield 13, 3) := by decide +kernel
theorem d1_11 : decode prog_46_method_1_code 11 = .ok (.aload_n 0, 1) := by decide +kernel
theorem d1_12 : decode prog_46_method_1_code 12 = .ok (.getstatic 7, 3) := by decide +kernel
theorem d1_15 : decode prog_46_method_1_code 15 = .ok (.putfield 16, 3) := by decide +kernel
theorem d1_18 : decode prog_46_method_1_code 18 = .ok (.return_, 1) := by decide +kernel
theorem ef_1 (m : MethodId) (x0 : Addr) : entryFrame m #[(.ref x0)] 1 = mkF m 0 #[.val (.ref x0)] [] := by first | (simp [entryFrame, mkF, argsToLocals, Value.category]; done) | rfl
set_option maxRecDepth 65536 in
set_option maxHeartbeats 40000000 in
theorem isInit (l : Launch) (Z : State) (a0 : Array Value) (hw : ∀ d ∈ tables_1, d.before a0 Z = true) (a : Addr) (a_NONE : Addr) (k_NONE : ClassId) (h0 : Heap) (O0 : Old Z Z.heap.size h0) (FF : Facts Z a_NONE k_NONE) (Ea : Exa Z h0 a "com/example/overrule/overrule/engine/IntSet") (ga : Z.heap.size ≤ a) (Fe : Fld Z h0 a "com/example/overrule/overrule/engine/IntSet" "elements" "[I" .null) (Fn : Fld Z h0 a "com/example/overrule/overrule/engine/IntSet" "size" "I" (.int (0 : Int32))) (Fs : Fld Z h0 a "com/example/overrule/overrule/engine/IntSet" "slots" "[I" .null) : Ctr l Z (⟨"com/example/overrule/overrule/engine/IntSet", "<init>", "()V"⟩ : MethodName) prog_46_method_1_code 1 none ({ frames := 1, cells := 0, slots := 0, locals := 12 } : Room) #[(.ref a)] h0 (fun v h L => v = none ∧ Fr Z.heap.size L ∧ Keep h0 h [a] ∧ Exa Z h a "com/example/overrule/overrule/engine/IntSet" ∧ Fld Z h a "com/example/overrule/overrule/engine/IntSet" "elements" "[I" (.ref a_NONE) ∧ Fld Z h a "com/example/overrule/overrule/engine/IntSet" "size" "I" (.int (0 : Int32)) ∧ Fld Z h a "com/example/overrule/overrule/engine/IntSet" "slots" "[I" (.ref a_NONE)) := by
  refine Ctr.of (plainFor_of_name pn_4) ?_
  have wd : ∀ {d : Jvm.Cond} (i : Nat), tables_1[i]? = some d → d.before a0 Z = true := fun i q => hw _ (List.mem_of_getElem? q)
  intro p e s m below meth c s₁ hx hby hml hown hnm hret hlk hZ X0 e0
  have FF' := FF
  obtain ⟨S_NONE, V_NONE⟩ := FF'
  refine Go.cast (ef_1 m a) ?_
  show Go p e below _ s₁ (mkF m 0 #[.val (.ref a)] [])
  refine Go.aloadN X0 hx (hb hby d1_0) rfl rfl rfl ?_
  refine Go.initO X0 hx hZ hown (wd 7 rfl) (wd 8 rfl) (wd 9 rfl) e0 (by rw [hml]; rfl) (hb hby d1_1) rfl (Nat.le_of_ble_eq_true rfl) (Nat.le_of_ble_eq_true rfl) ?_
  intro T1 X1 e1
  refine Go.aloadN X1 hx (hb hby d1_4) rfl rfl rfl ?_
  refine Go.getS X1 hx hZ hown (host := "") (Or.inl (wd 10 rfl)) Via.refl e1 (S_NONE.ext O0.2) (hb hby d1_5) rfl ?_
  intro T2 X2 e2
  refine Go.putF X2 hx hZ hown (host := "") (Or.inl (wd 12 rfl)) Via.refl e2 Fe Ea (Or.inl (wd 13 rfl)) (wd 2 rfl) (ty := (.array .int)) (by decide) rfl rfl (hb hby d1_8) rfl ?_
  intro T3 h3 X3 e3 W3 F4
  have K5 := (Keep.refl h0 [a]).wr W3 (Or.inl (List.mem_of_getElem? (i := 0) rfl))
  have O6 := O0.wr W3 ga
  have N7 := Fr.snoc X3 (Fr.nil _) ga
  have E8 := Ea.wr W3
  have F9 := Fn.other W3 (Or.inr (slot_ne (Or.inl (wd 34 rfl)) (Or.inl (wd 13 rfl)) (by decide) (t := .int) (t' := (.array .int)) (by decide) (by decide)))
  have F10 := Fs.other W3 (Or.inr (slot_ne (Or.inl (wd 15 rfl)) (Or.inl (wd 13 rfl)) (by decide) (t := (.array .int)) (t' := (.array .int)) (by decide) (by decide)))
  refine Go.aloadN X3 hx (hb hby d1_11) rfl rfl rfl ?_
  refine Go.getS X3 hx hZ hown (host := "") (Or.inl (wd 10 rfl)) Via.refl e3 (S_NONE.ext O6.2) (hb hby d1_12) rfl ?_
  intro T11 X11 e11
  refine Go.putF X11 hx hZ hown (host := "") (Or.inl (wd 14 rfl)) Via.refl e11 F10 E8 (Or.inl (wd 15 rfl)) (wd 2 rfl) (ty := (.array .int)) (by decide) rfl rfl (hb hby d1_15) rfl ?_
  intro T12 h12 X12 e12 W12 F13
  have K14 := K5.wr W12 (Or.inl (List.mem_of_getElem? (i := 0) rfl))
  have O15 := O6.wr W12 ga
  have N16 := Fr.snoc X12 N7 ga
  have E17 := E8.wr W12
  have F18 := F4.other W12 (Or.inr (slot_ne (Or.inl (wd 13 rfl)) (Or.inl (wd 15 rfl)) (by decide) (t := (.array .int)) (t' := (.array .int)) (by decide) (by decide)))
  have F19 := F9.other W12 (Or.inr (slot_ne (Or.inl (wd 34 rfl)) (Or.inl (wd 15 rfl)) (by decide) (t := .int) (t' := (.array .int)) (by decide) (by decide)))
  exact Go.retV X12 hx hret hlk (hb hby d1_18) rfl (by rw [e12]; exact ⟨rfl, N16, K14, E17, F18, F19, F13⟩) (Nat.le_of_ble_eq_true rfl) (Nat.le_of_ble_eq_true rfl)
theorem d3_0 : decode prog_46_method_2_code 0 = .ok (.aload_n 0, 1) := by decide +kernel
theorem d3_1 : decode prog_46_method_2_code 1 = .ok (.getfield 16, 3) := by decide +kernel
theorem d3_4 : decode prog_46_method_2_code 4 = .ok (.getstatic 7, 3) := by decide +kernel
theorem d3_7 : decode prog_46_method_2_code 7 = .ok (.if_acmp .ne 19, 3) := by decide +kernel
theorem d3_10 : decode prog_46_method_2_code 10 = .ok (.aload_n 0, 1) := by decide +kernel
theorem d3_11 : decode prog_46_method_2_code 11 = .ok (.iconst 4, 1) := by decide +kernel
theorem d3_12 : decode prog_46_method_2_code 12 = .ok (.newarray .int, 2) := by decide +kernel
theorem d3_14 : decode prog_46_method_2_code 14 = .ok (.putfield 13, 3) := by decide +kernel
theorem d3_17 : decode prog_46_method_2_code 17 = .ok (.aload_n 0, 1) := by decide +kernel
theorem d3_18 : decode prog_46_method_2_code 18 = .ok (.bipush 8, 2) := by decide +kernel
theorem d3_20 : decode prog_46_method_2_code 20 = .ok (.invokestatic 19, 3) := by decide +kernel
theorem d3_23 : decode prog_46_method_2_code 23 = .ok (.putfield 16, 3) := by decide +kernel
theorem d3_26 : decode prog_46_method_2_code 26 = .ok (.aload_n 0, 1) := by decide +kernel
theorem d3_27 : decode prog_46_method_2_code 27 = .ok (.getfield 16, 3) := by decide +kernel
theorem d3_30 : decode prog_46_method_2_code 30 = .ok (.arraylength, 1) := by decide +kernel
theorem d3_31 : decode prog_46_method_2_code 31 = .ok (.iconst 1, 1) := by decide +kernel
theorem d3_32 : decode prog_46_method_2_code 32 = .ok (.isub, 1) := by decide +kernel
theorem d3_33 : decode prog_46_method_2_code 33 = .ok (.istore_n 2, 1) := by decide +kernel
theorem d3_34 : decode prog_46_method_2_code 34 = .ok (.iload_n 1, 1) := by decide +kernel
theorem d3_35 : decode prog_46_method_2_code 35 = .ok (.iload_n 2, 1) := by decide +kernel
theorem d3_36 : decode prog_46_method_2_code 36 = .ok (.invokestatic 23, 3) := by decide +kernel
theorem d3_39 : decode prog_46_method_2_code 39 = .ok (.istore_n 3, 1) := by decide +kernel
theorem d3_40 : decode prog_46_method_2_code 40 = .ok (.aload_n 0, 1) := by decide +kernel
theorem d3_41 : decode prog_46_method_2_code 41 = .ok (.getfield 16, 3) := by decide +kernel
theorem d3_44 : decode prog_46_method_2_code 44 = .ok (.iload_n 3, 1) := by decide +kernel
theorem d3_45 : decode prog_46_method_2_code 45 = .ok (.iaload, 1) := by decide +kernel
theorem d3_46 : decode prog_46_method_2_code 46 = .ok (.iconst (-1), 1) := by decide +kernel
theorem d3_47 : decode prog_46_method_2_code 47 = .ok (.if_icmp .eq 24, 3) := by decide +kernel
theorem d3_50 : decode prog_46_method_2_code 50 = .ok (.aload_n 0, 1) := by decide +kernel
theorem d3_51 : decode prog_46_method_2_code 51 = .ok (.getfield 16, 3) := by decide +kernel
theorem d3_54 : decode prog_46_method_2_code 54 = .ok (.iload_n 3, 1) := by decide +kernel
theorem d3_55 : decode prog_46_method_2_code 55 = .ok (.iaload, 1) := by decide +kernel
theorem d3_56 : decode prog_46_method_2_code 56 = .ok (.iload_n 1, 1) := by decide +kernel
theorem d3_57 : decode prog_46_method_2_code 57 = .ok (.if_icmp .ne 5, 3) := by decide +kernel
theorem d3_60 : decode prog_46_method_2_code 60 = .ok (.iconst 0, 1) := by decide +kernel
theorem d3_61 : decode prog_46_method_2_code 61 = .ok (.ireturn, 1) := by decide +kernel
theorem d3_62 : decode prog_46_method_2_code 62 = .ok (.iload_n 3, 1) := by decide +kernel
theorem d3_63 : decode prog_46_method_2_code 63 = .ok (.iconst 1, 1) := by decide +kernel
theorem d3_64 : decode prog_46_method_2_code 64 = .ok (.iadd, 1) := by decide +kernel
theorem d3_65 : decode prog_46_method_2_code 65 = .ok (.iload_n 2, 1) := by decide +kernel
theorem d3_66 : decode prog_46_method_2_code 66 = .ok (.iand, 1) := by decide +kernel
theorem d3_67 : decode prog_46_method_2_code 67 = .ok (.istore_n 3, 1) := by decide +kernel
theorem d3_68 : decode prog_46_method_2_code 68 = .ok (.goto (-28), 3) := by decide +kernel
theorem d3_71 : decode prog_46_method_2_code 71 = .ok (.aload_n 0, 1) := by decide +kernel
theorem d3_72 : decode prog_46_method_2_code 72 = .ok (.getfield 16, 3) := by decide +kernel
theorem d3_75 : decode prog_46_method_2_code 75 = .ok (.iload_n 3, 1) := by decide +kernel
theorem d3_76 : decode prog_46_method_2_code 76 = .ok (.iload_n 1, 1) := by decide +kernel
theorem d3_77 : decode prog_46_method_2_code 77 = .ok (.iastore, 1) := by decide +kernel
theorem d3_78 : decode prog_46_method_2_code 78 = .ok (.aload_n 0, 1) := by decide +kernel
theorem d3_79 : decode prog_46_method_2_code 79 = .ok (.getfield 27, 3) := by decide +kernel
theorem d3_82 : decode prog_46_method_2_code 82 = .ok (.aload_n 0, 1) := by decide +kernel
theorem d3_83 : decode prog_46_method_2_code 83 = .ok (.getfield 13, 3) := by decide +kernel
theorem d3_86 : decode prog_46_method_2_code 86 = .ok (.arraylength, 1) := by decide +kernel
theorem d3_87 : decode prog_46_method_2_code 87 = .ok (.if_icmp .ne 20, 3) := by decide +kernel
theorem d3_90 : decode prog_46_method_2_code 90 = .ok (.aload_n 0, 1) := by decide +kernel
theorem d3_91 : decode prog_46_method_2_code 91 = .ok (.aload_n 0, 1) := by decide +kernel
theorem d3_92 : decode prog_46_method_2_code 92 = .ok (.getfield 13, 3) := by decide +kernel
theorem d3_95 : decode prog_46_method_2_code 95 = .ok (.aload_n 0, 1) := by decide +kernel
theorem d3_96 : decode prog_46_method_2_code 96 = .ok (.getfield 27, 3) := by decide +kernel
theorem d3_99 : decode prog_46_method_2_code 99 = .ok (.iconst 2, 1) := by decide +kernel
theorem d3_100 : decode prog_46_method_2_code 100 = .ok (.imul, 1) := by decide +kernel
theorem d3_101 : decode prog_46_method_2_code 101 = .ok (.invokestatic 31, 3) := by decide +kernel
theorem d3_104 : decode prog_46_method_2_code 104 = .ok (.putfield 13, 3) := by decide +kernel
theorem d3_107 : decode prog_46_method_2_code 107 = .ok (.aload_n 0, 1) := by decide +kernel
theorem d3_108 : decode prog_46_method_2_code 108 = .ok (.getfield 13, 3) := by decide +kernel
theorem d3_111 : decode prog_46_method_2_code 111 = .ok (.aload_n 0, 1) := by decide +kernel
theorem d3_112 : decode prog_46_method_2_code 112 = .ok (.dup, 1) := by decide +kernel
theorem d3_113 : decode prog_46_method_2_code 113 = .ok (.getfield 27, 3) := by decide +kernel
theorem d3_116 : decode prog_46_method_2_code 116 = .ok (.dup_x1, 1) := by decide +kernel
theorem d3_117 : decode prog_46_method_2_code 117 = .ok (.iconst 1, 1) := by decide +kernel
theorem d3_118 : decode prog_46_method_2_code 118 = .ok (.iadd, 1) := by decide +kernel
theorem d3_119 : decode prog_46_method_2_code 119 = .ok (.putfield 27, 3) := by decide +kernel
theorem d3_122 : decode prog_46_method_2_code 122 = .ok (.iload_n 1, 1) := by decide +kernel
theorem d3_123 : decode prog_46_method_2_code 123 = .ok (.iastore, 1) := by decide +kernel
theorem d3_124 : decode prog_46_method_2_code 124 = .ok (.aload_n 0, 1) := by decide +kernel
theorem d3_125 : decode prog_46_method_2_code 125 = .ok (.getfield 27, 3) := by decide +kernel
theorem d3_128 : decode prog_46_method_2_code 128 = .ok (.iconst 2, 1) := by decide +kernel
theorem d3_129 : decode prog_46_method_2_code 129 = .ok (.imul, 1) := by decide +kernel
theorem d3_130 : decode prog_46_method_2_code 130 = .ok (.aload_n 0, 1) := by decide +kernel
theorem d3_131 : decode prog_46_method_2_code 131 = .ok (.getfield 16, 3) := by decide +kernel
theorem d3_134 : decode prog_46_method_2_code 134 = .ok (.arraylength, 1) := by decide +kernel
theorem d3_135 : decode prog_46_method_2_code 135 = .ok (.if_icmp .le 14, 3) := by decide +kernel
theorem d3_138 : decode prog_46_method_2_code 138 = .ok (.aload_n 0, 1) := by decide +kernel
theorem d3_139 : decode prog_46_method_2_code 139 = .ok (.aload_n 0, 1) := by decide +kernel
theorem d3_140 : decode prog_46_method_2_code 140 = .ok (.getfield 16, 3) := by decide +kernel
theorem d3_143 : decode prog_46_method_2_code 143 = .ok (.arraylength, 1) := by decide +kernel
theorem d3_144 : decode prog_46_method_2_code 144 = .ok (.iconst 2, 1) := by decide +kernel
theorem d3_145 : decode prog_46_method_2_code 145 = .ok (.imul, 1) := by decide +kernel
theorem d3_146 : decode prog_46_method_2_code 146 = .ok (.invokevirtual 37, 3) := by decide +kernel
theorem d3_149 : decode prog_46_method_2_code 149 = .ok (.iconst 1, 1) := by decide +kernel
theorem d3_150 : decode prog_46_method_2_code 150 = .ok (.ireturn, 1) := by decide +kernel
theorem ef_3 (m : MethodId) (x0 : Addr) (x1 : Int32) : entryFrame m #[(.ref x0), (.int x1)] 4 = mkF m 0 #[.val (.ref x0), .val (.int x1), .unset, .unset] [] := by first | (simp [entryFrame, mkF, argsToLocals, Value.category]; done) | rfl
set_option maxRecDepth 65536 in
set_option maxHeartbeats 40000000 in
theorem isProbe {p : Program} {l : Launch} {e : Env} {R : Room} {s : State} {m : MethodId} {args : Array Value} {below : List Frame} {meth : Method} {c : Code} {locs : List Loc} {cells slots : Nat} {Z : State} {a0 : Array Value} {P : Outcome → State → Prop} (hw : ∀ d ∈ tables_1, d.before a0 Z = true) (hx : p.tables.exec = Jvm.exec) (hby : c.code = prog_46_method_2_code) (hml : c.maxLocals = 4) (hown : s.vm.findClass "com/example/overrule/overrule/engine/IntSet" = some m.cls) (hZ : Z.Warmed39 s.vm) (a sl : Addr) (ks : ClassId) (x : Int32) (t : List Int32) (h0 : Heap) (Fs : Fld Z h0 a "com/example/overrule/overrule/engine/IntSet" "slots" "[I" (.ref sl)) (Vs : Arv Z h0 sl ks .int (8 : Int32) (t.map Value.int) (.int (0 : Int32))) (hnf : ∀ i, i < 8 → t.getD i 0 ≠ x) : ∀ (k : Nat) (j : Int32) (i : Nat) (T : State), Stand p l e R s m args below meth c T locs cells slots → T.heap = h0 → Ix (8 : Int32) j i → (∃ d, d < k ∧ t.getD ((i + d) % 8) 0 = -1) → (∀ (T' : State) (j' : Int32), Stand p l e R s m args below meth c T' locs cells slots → T'.heap = h0 → Ix (8 : Int32) j' (ffN t 8 k i) → Go p e below P T' (mkF m 71 #[.val (.ref a), .val (.int x), .val (.int (7 : Int32)), .val (.int j')] [])) → Go p e below P T (mkF m 40 #[.val (.ref a), .val (.int x), .val (.int (7 : Int32)), .val (.int j)] []) := by
  have wd : ∀ {d : Jvm.Cond} (i : Nat), tables_1[i]? = some d → d.before a0 Z = true := fun i q => hw _ (List.mem_of_getElem? q)
  intro k
  induction k with
  | zero => rintro j i T X e hj ⟨d, hd, -⟩; omega
  | succ k ih =>
    intro j i T9 X9 e9 hj hf K
    have hi : i < 8 := by have := hj.int; have h2 := Int32.lt_iff_toInt_lt.mp hj.2.1; rw [show (8 : Int32).toInt = 8 from by decide] at h2; omega
    show Go p e below _ T9 (mkF m 40 #[.val (.ref a), .val (.int x), .val (.int (7 : Int32)), .val (.int j)] [])
    refine Go.aloadN X9 hx (hb hby d3_40) rfl rfl rfl ?_
    refine Go.getF X9 hx hZ hown (host := "") (Or.inl (wd 14 rfl)) Via.refl e9 Fs (hb hby d3_41) rfl ?_
    intro T1 X1 e1
    refine Go.iloadN X1 hx (hb hby d3_44) rfl rfl  ?_
    refine Go.iaload X1 hx hZ (.int (t.getD i 0)) Vs e1  ⟨hj.1, hj.2.1⟩ (own_getD hj.2.2) (hb hby d3_45) rfl ?_
    refine Go.iconst X1 hx (hb hby d3_46) rfl (-1 : Int32) rfl ?_
    by_cases hc2 : (t.getD i 0) = (-1 : Int32)
    · refine Go.icmpYes X1 hx (hb hby d3_47) rfl 71 (teq hc2).1 (by decide) (by decide) ?_
      show Go p e below _ T1 (mkF m 71 #[.val (.ref a), .val (.int x), .val (.int (7 : Int32)), .val (.int j)] [])
      exact K _ _ X1 e1 (by unfold ffN; rw [if_pos hc2]; exact hj)
    · refine Go.icmpNo X1 hx (hb hby d3_47) rfl (feq hc2).1 ?_
      refine Go.aloadN X1 hx (hb hby d3_50) rfl rfl rfl ?_
      refine Go.getF X1 hx hZ hown (host := "") (Or.inl (wd 14 rfl)) Via.refl e1 Fs (hb hby d3_51) rfl ?_
      intro T3 X3 e3
      refine Go.iloadN X3 hx (hb hby d3_54) rfl rfl  ?_
      refine Go.iaload X3 hx hZ (.int (t.getD i 0)) Vs e3  ⟨hj.1, hj.2.1⟩ (own_getD hj.2.2) (hb hby d3_55) rfl ?_
      refine Go.iloadN X3 hx (hb hby d3_56) rfl rfl  ?_
      refine Go.icmpYes X3 hx (hb hby d3_57) rfl 62 (feq (hnf i hi)).2 (by decide) (by decide) ?_
      refine Go.iloadN X3 hx (hb hby d3_62) rfl rfl  ?_
      refine Go.iconst X3 hx (hb hby d3_63) rfl (1 : Int32) rfl ?_
      refine Go.iadd X3 hx (hb hby d3_64) rfl ?_
      refine Go.iloadN X3 hx (hb hby d3_65) rfl rfl  ?_
      refine Go.iand X3 hx (hb hby d3_66) rfl ?_
      refine Go.istoreN X3 hx (hb hby d3_67) rfl  #[.val (.ref a), .val (.int x), .val (.int (7 : Int32)), .val (.int ((j + (1 : Int32)) &&& (7 : Int32)))] rfl ?_
      refine Go.goto X3 hx (hb hby d3_68) rfl 40 (by decide) (by decide) ?_
      show Go p e below _ T3 (mkF m 40 #[.val (.ref a), .val (.int x), .val (.int (7 : Int32)), .val (.int ((j + (1 : Int32)) &&& (7 : Int32)))] [])
      refine ih _ ((i + 1) % 8) _ X3 e3 (ix_next (b := 3) (by decide) rfl (by decide) (by decide) hj) ?_ ?_
      · obtain ⟨d, hd, hv⟩ := hf
        cases d with
        | zero => rw [Nat.add_zero, Nat.mod_eq_of_lt hi] at hv; exact absurd hv hc2
        | succ d => exact ⟨d, by omega, by rw [step_mod]; exact hv⟩
      · intro T' j' X' e' hj'
        refine K T' j' X' e' ?_
        unfold ffN; rw [if_neg hc2]; exact hj'
set_option maxRecDepth 65536 in
set_option maxHeartbeats 40000000 in
theorem isFound {p : Program} {l : Launch} {e : Env} {R : Room} {s : State} {m : MethodId} {args : Array Value} {below : List Frame} {meth : Method} {c : Code} {locs : List Loc} {cells slots : Nat} {Z : State} {a0 : Array Value} {P : Outcome → State → Prop} (hw : ∀ d ∈ tables_1, d.before a0 Z = true) (hx : p.tables.exec = Jvm.exec) (hby : c.code = prog_46_method_2_code) (hml : c.maxLocals = 4) (hown : s.vm.findClass "com/example/overrule/overrule/engine/IntSet" = some m.cls) (hZ : Z.Warmed39 s.vm) (a sl : Addr) (ks : ClassId) (x : Int32) (t : List Int32) (h0 : Heap) (Fs : Fld Z h0 a "com/example/overrule/overrule/engine/IntSet" "slots" "[I" (.ref sl)) (Vs : Arv Z h0 sl ks .int (8 : Int32) (t.map Value.int) (.int (0 : Int32))) : ∀ (k : Nat) (j : Int32) (i : Nat) (T : State), Stand p l e R s m args below meth c T locs cells slots → T.heap = h0 → Ix (8 : Int32) j i → lookN t 8 x k i = true → (∀ (T' : State) (j' : Int32), Stand p l e R s m args below meth c T' locs cells slots → T'.heap = h0 → Go p e below P T' (mkF m 60 #[.val (.ref a), .val (.int x), .val (.int (7 : Int32)), .val (.int j')] [])) → Go p e below P T (mkF m 40 #[.val (.ref a), .val (.int x), .val (.int (7 : Int32)), .val (.int j)] []) := by
  have wd : ∀ {d : Jvm.Cond} (i : Nat), tables_1[i]? = some d → d.before a0 Z = true := fun i q => hw _ (List.mem_of_getElem? q)
  intro k
  induction k with
  | zero => intro j i T X e hj hl; simp [lookN] at hl
  | succ k ih =>
    intro j i T9 X9 e9 hj hf K
    have hi : i < 8 := by have := hj.int; have h2 := Int32.lt_iff_toInt_lt.mp hj.2.1; rw [show (8 : Int32).toInt = 8 from by decide] at h2; omega
    show Go p e below _ T9 (mkF m 40 #[.val (.ref a), .val (.int x), .val (.int (7 : Int32)), .val (.int j)] [])
    refine Go.aloadN X9 hx (hb hby d3_40) rfl rfl rfl ?_
    refine Go.getF X9 hx hZ hown (host := "") (Or.inl (wd 14 rfl)) Via.refl e9 Fs (hb hby d3_41) rfl ?_
    intro T1 X1 e1
    refine Go.iloadN X1 hx (hb hby d3_44) rfl rfl  ?_
    refine Go.iaload X1 hx hZ (.int (t.getD i 0)) Vs e1  ⟨hj.1, hj.2.1⟩ (own_getD hj.2.2) (hb hby d3_45) rfl ?_
    refine Go.iconst X1 hx (hb hby d3_46) rfl (-1 : Int32) rfl ?_
    by_cases hc2 : (t.getD i 0) = (-1 : Int32)
    · refine Go.icmpYes X1 hx (hb hby d3_47) rfl 71 (teq hc2).1 (by decide) (by decide) ?_
      show Go p e below _ T1 (mkF m 71 #[.val (.ref a), .val (.int x), .val (.int (7 : Int32)), .val (.int j)] [])
      exfalso; unfold lookN at hf; rw [if_pos hc2] at hf; cases hf
    · refine Go.icmpNo X1 hx (hb hby d3_47) rfl (feq hc2).1 ?_
      refine Go.aloadN X1 hx (hb hby d3_50) rfl rfl rfl ?_
      refine Go.getF X1 hx hZ hown (host := "") (Or.inl (wd 14 rfl)) Via.refl e1 Fs (hb hby d3_51) rfl ?_
      intro T3 X3 e3
      refine Go.iloadN X3 hx (hb hby d3_54) rfl rfl  ?_
      refine Go.iaload X3 hx hZ (.int (t.getD i 0)) Vs e3  ⟨hj.1, hj.2.1⟩ (own_getD hj.2.2) (hb hby d3_55) rfl ?_
      refine Go.iloadN X3 hx (hb hby d3_56) rfl rfl  ?_
      by_cases hc4 : (t.getD i 0) = x
      · refine Go.icmpNo X3 hx (hb hby d3_57) rfl (teq hc4).2 ?_
        show Go p e below _ T3 (mkF m 60 #[.val (.ref a), .val (.int x), .val (.int (7 : Int32)), .val (.int j)] [])
        exact K _ _ X3 e3
      · refine Go.icmpYes X3 hx (hb hby d3_57) rfl 62 (feq hc4).2 (by decide) (by decide) ?_
        refine Go.iloadN X3 hx (hb hby d3_62) rfl rfl  ?_
        refine Go.iconst X3 hx (hb hby d3_63) rfl (1 : Int32) rfl ?_
        refine Go.iadd X3 hx (hb hby d3_64) rfl ?_
        refine Go.iloadN X3 hx (hb hby d3_65) rfl rfl  ?_
        refine Go.iand X3 hx (hb hby d3_66) rfl ?_
        refine Go.istoreN X3 hx (hb hby d3_67) rfl  #[.val (.ref a), .val (.int x), .val (.int (7 : Int32)), .val (.int ((j + (1 : Int32)) &&& (7 : Int32)))] rfl ?_
        refine Go.goto X3 hx (hb hby d3_68) rfl 40 (by decide) (by decide) ?_
        show Go p e below _ T3 (mkF m 40 #[.val (.ref a), .val (.int x), .val (.int (7 : Int32)), .val (.int ((j + (1 : Int32)) &&& (7 : Int32)))] [])
        refine ih _ ((i + 1) % 8) _ X3 e3 (ix_next (b := 3) (by decide) rfl (by decide) (by decide) hj) ?_ K
        unfold lookN at hf; rw [if_neg hc2, if_neg hc4] at hf; exact hf
theorem d6_0 : decode prog_46_method_10_code 0 = .ok (.iload_n 0, 1) := by decide +kernel
theorem d6_1 : decode prog_46_method_10_code 1 = .ok (.ldc 45, 2) := by decide +kernel
theorem d6_3 : decode prog_46_method_10_code 3 = .ok (.imul, 1) := by decide +kernel
theorem d6_4 : decode prog_46_method_10_code 4 = .ok (.istore_n 2, 1) := by decide +kernel
theorem d6_5 : decode prog_46_method_10_code 5 = .ok (.iload_n 2, 1) := by decide +kernel
theorem d6_6 : decode prog_46_method_10_code 6 = .ok (.iload_n 2, 1) := by decide +kernel
theorem d6_7 : decode prog_46_method_10_code 7 = .ok (.bipush 16, 2) := by decide +kernel
theorem d6_9 : decode prog_46_method_10_code 9 = .ok (.iushr, 1) := by decide +kernel
theorem d6_10 : decode prog_46_method_10_code 10 = .ok (.ixor, 1) := by decide +kernel
theorem d6_11 : decode prog_46_method_10_code 11 = .ok (.iload_n 1, 1) := by decide +kernel
theorem d6_12 : decode prog_46_method_10_code 12 = .ok (.iand, 1) := by decide +kernel
theorem d6_13 : decode prog_46_method_10_code 13 = .ok (.ireturn, 1) := by decide +kernel
theorem ef_6 (m : MethodId) (x0 : Int32) (x1 : Int32) : entryFrame m #[(.int x0), (.int x1)] 3 = mkF m 0 #[.val (.int x0), .val (.int x1), .unset] [] := by first | (simp [entryFrame, mkF, argsToLocals, Value.category]; done) | rfl
set_option maxRecDepth 65536 in
set_option maxHeartbeats 40000000 in
theorem isSlot (l : Launch) (Z : State) (a0 : Array Value) (hw : ∀ d ∈ tables_1, d.before a0 Z = true) (x y : Int32) (h0 : Heap)  : Pur l Z (⟨"com/example/overrule/overrule/engine/IntSet", "slot", "(II)I"⟩ : MethodName) prog_46_method_10_code 3 (some .int) 0 0 #[(.int x), (.int y)] h0 (some (.int (slotv x y))) := by
  refine Ctr.of (plainFor_of_name pn_4) ?_
  have wd : ∀ {d : Jvm.Cond} (i : Nat), tables_1[i]? = some d → d.before a0 Z = true := fun i q => hw _ (List.mem_of_getElem? q)
  intro p e s m below meth c s₁ hx hby hml hown hnm hret hlk hZ X0 e0
  refine Go.cast (ef_6 m x y) ?_
  show Go p e below _ s₁ (mkF m 0 #[.val (.int x), .val (.int y), .unset] [])
  refine Go.iloadN X0 hx (hb hby d6_0) rfl rfl  ?_
  refine Go.ldc X0 hx hZ hown (wd 32 rfl) (hb hby d6_1) rfl ?_
  refine Go.imul X0 hx (hb hby d6_3) rfl ?_
  refine Go.istoreN X0 hx (hb hby d6_4) rfl  #[.val (.int x), .val (.int y), .val (.int (x * (-1640531527 : Int32)))] rfl ?_
  refine Go.iloadN X0 hx (hb hby d6_5) rfl rfl  ?_
  refine Go.iloadN X0 hx (hb hby d6_6) rfl rfl  ?_
  refine Go.bipush X0 hx (hb hby d6_7) rfl (16 : Int32) rfl ?_
  refine Go.iushr X0 hx (hb hby d6_9) rfl ?_
  refine Go.ixor X0 hx (hb hby d6_10) rfl ?_
  refine Go.iloadN X0 hx (hb hby d6_11) rfl rfl  ?_
  refine Go.iand X0 hx (hb hby d6_12) rfl ?_
  exact Go.retI X0 hx hret hlk (hb hby d6_13) rfl (by rw [e0]; exact ⟨rfl, rfl, rfl⟩) (Nat.le_of_ble_eq_true rfl) (Nat.le_of_ble_eq_true rfl)
set_option maxRecDepth 65536 in
set_option maxHeartbeats 40000000 in
theorem isAdd0 (l : Launch) (Z : State) (a0 : Array Value) (hw : ∀ d ∈ tables_1, d.before a0 Z = true) (a : Addr) (x : Int32) (a_NONE : Addr) (k_NONE : ClassId) (h0 : Heap) (O0 : Old Z Z.heap.size h0) (FF : Facts Z a_NONE k_NONE) (Ea : Exa Z h0 a "com/example/overrule/overrule/engine/IntSet") (ga : Z.heap.size ≤ a) (hg : Good []) (hx0 : 0 ≤ x.toInt) (hxn : x ∉ ([] : List Int32)) (Fe : Fld Z h0 a "com/example/overrule/overrule/engine/IntSet" "elements" "[I" (.ref a_NONE)) (Fn : Fld Z h0 a "com/example/overrule/overrule/engine/IntSet" "size" "I" (.int (0 : Int32))) (Fs : Fld Z h0 a "com/example/overrule/overrule/engine/IntSet" "slots" "[I" (.ref a_NONE)) : Ctr l Z (⟨"com/example/overrule/overrule/engine/IntSet", "add", "(I)Z"⟩ : MethodName) prog_46_method_2_code 4 (some .boolean) ({ frames := 3, cells := 2, slots := 24, locals := 60 } : Room) #[(.ref a), (.int x)] h0 (fun v h L => v = some (.int (1 : Int32)) ∧ Fr Z.heap.size L ∧ Keep h0 h [a] ∧ Exa Z h a "com/example/overrule/overrule/engine/IntSet" ∧ ∃ (eb sl : Addr) (kb ks : ClassId), h0.size ≤ eb ∧ h0.size ≤ sl ∧ eb ≠ sl ∧ Fld Z h a "com/example/overrule/overrule/engine/IntSet" "elements" "[I" (.ref eb) ∧ Fld Z h a "com/example/overrule/overrule/engine/IntSet" "size" "I" (.int (1 : Int32)) ∧ Fld Z h a "com/example/overrule/overrule/engine/IntSet" "slots" "[I" (.ref sl) ∧ Arv Z h eb kb .int (4 : Int32) [(.int x), (.int (0 : Int32)), (.int (0 : Int32)), (.int (0 : Int32))] (.int (0 : Int32)) ∧ Arv Z h sl ks .int (8 : Int32) ((tab 8 (hsh (7 : Int32)) ([] ++ [x])).map Value.int) (.int (0 : Int32))) := by
  refine Ctr.of (plainFor_of_name pn_4) ?_
  have wd : ∀ {d : Jvm.Cond} (i : Nat), tables_1[i]? = some d → d.before a0 Z = true := fun i q => hw _ (List.mem_of_getElem? q)
  intro p e s m below meth c s₁ hx hby hml hown hnm hret hlk hZ X0 e0
  have FF' := FF
  obtain ⟨S_NONE, V_NONE⟩ := FF'
  refine Go.cast (ef_3 m a x) ?_
  show Go p e below _ s₁ (mkF m 0 #[.val (.ref a), .val (.int x), .unset, .unset] [])
  refine Go.aloadN X0 hx (hb hby d3_0) rfl rfl rfl ?_
  refine Go.getF X0 hx hZ hown (host := "") (Or.inl (wd 14 rfl)) Via.refl e0 Fs (hb hby d3_1) rfl ?_
  intro T1 X1 e1
  refine Go.getS X1 hx hZ hown (host := "") (Or.inl (wd 10 rfl)) Via.refl e1 (S_NONE.ext O0.2) (hb hby d3_4) rfl ?_
  intro T2 X2 e2
  refine Go.acmp X2 hx (hb hby d3_7) rfl rfl rfl true (decide_eq_true rfl) 10 (by decide) (by decide) ?_
  refine Go.aloadN X2 hx (hb hby d3_10) rfl rfl rfl ?_
  refine Go.iconst X2 hx (hb hby d3_11) rfl (4 : Int32) rfl ?_
  refine Go.newP X2 hx hZ (wd 21 rfl) e2 4 (by decide) 4 (by decide) (by decide) (Nat.le_of_ble_eq_true rfl) (Nat.le_of_ble_eq_true rfl) "[I" (by decide) (hb hby d3_12) rfl ?_
  intro T3 h3 b3 k3 g3 X3 e3 E3 V3' A3
  have V3 : Arv Z h3 b3 k3 .int (4 : Int32) [(.int (0 : Int32)), (.int (0 : Int32)), (.int (0 : Int32)), (.int (0 : Int32))] (.int (0 : Int32)) := V3'
  have q3 : Z.heap.size ≤ b3 := Nat.le_trans O0.2.1 (Nat.le_of_eq g3.symm)
  have z3 : h0.size ≤ b3 := Nat.le_trans (Keep.refl h0 [a]).1 (Nat.le_of_eq g3.symm)
  have ne_a_b3 : a ≠ b3 := Nat.ne_of_lt (Nat.lt_of_lt_of_le Ea.lt (Nat.le_of_eq g3.symm))
  have K4 := (Keep.refl h0 [a]).ext E3
  have O5 := O0.ext E3
  have E6 := Ea.ext E3
  have F7 := Fe.ext E3
  have F8 := Fn.ext E3
  have F9 := Fs.ext E3
  refine Go.putF X3 hx hZ hown (host := "") (Or.inl (wd 12 rfl)) Via.refl e3 F7 E6 (Or.inl (wd 13 rfl)) (wd 2 rfl) (ty := (.array .int)) (by decide) rfl rfl (hb hby d3_14) rfl ?_
  intro T10 h10 X10 e10 W10 F11
  have K12 := K4.wr W10 (Or.inl (List.mem_of_getElem? (i := 0) rfl))
  have O13 := O5.wr W10 ga
  have N14 := Fr.snoc X10 (Fr.nil _) ga
  have E15 := E6.wr W10
  have F16 := F8.other W10 (Or.inr (slot_ne (Or.inl (wd 34 rfl)) (Or.inl (wd 13 rfl)) (by decide) (t := .int) (t' := (.array .int)) (by decide) (by decide)))
  have F17 := F9.other W10 (Or.inr (slot_ne (Or.inl (wd 15 rfl)) (Or.inl (wd 13 rfl)) (by decide) (t := (.array .int)) (t' := (.array .int)) (by decide) (by decide)))
  have V18 := V3.other W10 (Ne.symm ne_a_b3)
  refine Go.aloadN X10 hx (hb hby d3_17) rfl rfl rfl ?_
  refine Go.bipush X10 hx (hb hby d3_18) rfl (8 : Int32) rfl ?_
  refine Go.callS X10 hx hZ hown (wd 22 rfl) (wd 23 rfl) (wd 3 rfl) (wd 24 rfl) (by decide) [(.int (8 : Int32))] [(.ref a)] (isFree8 l Z a0 hw h10 O13) e10 rfl (by rw [hml]; rfl) pd_1 rfl (hb hby d3_20) (Nat.le_of_ble_eq_true rfl) (Nat.le_of_ble_eq_true rfl) (Nat.le_of_ble_eq_true rfl) (Nat.le_of_ble_eq_true rfl) ?_
  rintro vv19 T19 L19 X19 Q19
  obtain ⟨g19, k19, rfl, N19, K19, sz19, V19⟩ := Q19
  have M20 := Fr.app N14 N19
  have q19 : Z.heap.size ≤ g19 := Nat.le_trans O13.2.1 sz19
  have z19 : h0.size ≤ g19 := Nat.le_trans K12.1 sz19
  have ne_a_g19 : a ≠ g19 := Nat.ne_of_lt (Nat.lt_of_lt_of_le E15.lt sz19)
  have ne_b3_g19 : b3 ≠ g19 := Nat.ne_of_lt (Nat.lt_of_lt_of_le V18.lt sz19)
  have O21 := O13.keep K19 (all0)
  have K22 := Keep.trans K12 K19 (all0)
  have E23 := E15.keep K19
  have F24 := F11.keep K19 (nin0)
  have F25 := F16.keep K19 (nin0)
  have F26 := F17.keep K19 (nin0)
  have V27 := V18.keep K19 (nin0)
  refine Go.putF X19 hx hZ hown (host := "") (Or.inl (wd 14 rfl)) Via.refl rfl F26 E23 (Or.inl (wd 15 rfl)) (wd 2 rfl) (ty := (.array .int)) (by decide) rfl rfl (hb hby d3_23) rfl ?_
  intro T28 h28 X28 e28 W28 F29
  have K30 := K22.wr W28 (Or.inl (List.mem_of_getElem? (i := 0) rfl))
  have O31 := O21.wr W28 ga
  have N32 := Fr.snoc X28 M20 ga
  have E33 := E23.wr W28
  have F34 := F24.other W28 (Or.inr (slot_ne (Or.inl (wd 13 rfl)) (Or.inl (wd 15 rfl)) (by decide) (t := (.array .int)) (t' := (.array .int)) (by decide) (by decide)))
  have F35 := F25.other W28 (Or.inr (slot_ne (Or.inl (wd 34 rfl)) (Or.inl (wd 15 rfl)) (by decide) (t := .int) (t' := (.array .int)) (by decide) (by decide)))
  have V36 := V27.other W28 (Ne.symm ne_a_b3)
  have V37 := V19.other W28 (Ne.symm ne_a_g19)
  refine Go.aloadN X28 hx (hb hby d3_26) rfl rfl rfl ?_
  refine Go.getF X28 hx hZ hown (host := "") (Or.inl (wd 14 rfl)) Via.refl e28 F29 (hb hby d3_27) rfl ?_
  intro T38 X38 e38
  refine Go.alen X38 hx hZ V37 e38 (hb hby d3_30) rfl ?_
  refine Go.iconst X38 hx (hb hby d3_31) rfl (1 : Int32) rfl ?_
  refine Go.isub X38 hx (hb hby d3_32) rfl ?_
  show Go p e below _ T38 (mkF m 33 #[.val (.ref a), .val (.int x), .unset, .unset] [(.int ((8 : Int32) - (1 : Int32)))])
  rw [show ((8 : Int32) - (1 : Int32)) = (7 : Int32) from by decide]
  refine Go.istoreN X38 hx (hb hby d3_33) rfl  #[.val (.ref a), .val (.int x), .val (.int (7 : Int32)), .unset] rfl ?_
  refine Go.iloadN X38 hx (hb hby d3_34) rfl rfl  ?_
  refine Go.iloadN X38 hx (hb hby d3_35) rfl rfl  ?_
  refine Go.pureS X38 hx hZ hown (wd 29 rfl) (wd 30 rfl) (wd 3 rfl) (wd 31 rfl) (by decide) [(.int x), (.int (7 : Int32))] [] (isSlot l Z a0 hw x (7 : Int32) h28) e38 rfl (by rw [hml]; rfl) pd_2 rfl (hb hby d3_36) (Nat.le_of_ble_eq_true rfl) (Nat.le_of_ble_eq_true rfl) (Nat.le_of_ble_eq_true rfl) (Nat.le_of_ble_eq_true rfl) ?_
  intro T39 X39 e39
  refine Go.istoreN X39 hx (hb hby d3_39) rfl  #[.val (.ref a), .val (.int x), .val (.int (7 : Int32)), .val (.int (slotv x (7 : Int32)))] rfl ?_
  have V40 : Arv Z h28 g19 k19 .int (8 : Int32) ((tab 8 (hsh (7 : Int32)) []).map Value.int) (.int (0 : Int32)) := V37
  show Go p e below _ T39 (mkF m 40 #[.val (.ref a), .val (.int x), .val (.int (7 : Int32)), .val (.int (slotv x (7 : Int32)))] [])
  refine isProbe hw hx hby hml hown hZ a g19 k19 x (tab 8 (hsh (7 : Int32)) []) h28 F29 V40 (tab_nf hg hx0 hxn (Nat.le_of_ble_eq_true rfl)) 8 _ _ _ X39 e39 (ix_slot (b := 3) (by decide) rfl (by decide) (by decide) x) (free_at (inv8 hg (Nat.le_of_ble_eq_true rfl)) (Nat.le_of_ble_eq_true rfl) _) ?_
  intro T41 j41 X41 e41 hj41
  show Go p e below _ T41 (mkF m 71 #[.val (.ref a), .val (.int x), .val (.int (7 : Int32)), .val (.int j41)] [])
  refine Go.aloadN X41 hx (hb hby d3_71) rfl rfl rfl ?_
  refine Go.getF X41 hx hZ hown (host := "") (Or.inl (wd 14 rfl)) Via.refl e41 F29 (hb hby d3_72) rfl ?_
  intro T42 X42 e42
  refine Go.iloadN X42 hx (hb hby d3_75) rfl rfl  ?_
  refine Go.iloadN X42 hx (hb hby d3_76) rfl rfl  ?_
  refine Go.iastore X42 hx hZ V40 e42 ⟨hj41.1, hj41.2.1⟩ _ hj41.2.2 (by rw [List.length_map, (inv8 hg (Nat.le_of_ble_eq_true rfl)).1]; exact own_ffl hg (Nat.le_of_ble_eq_true rfl)) (hb hby d3_77) rfl ?_
  intro T43 h43 X43 e43 W43 V43'
  have V43 : Arv Z h43 g19 k19 .int (8 : Int32) ((tab 8 (hsh (7 : Int32)) ([] ++ [x])).map Value.int) (.int (0 : Int32)) := by rw [tab_snoc, List.map_set]; exact V43'
  have K44 := K30.wr W43 (Or.inr z19)
  have O45 := O31.wr W43 q19
  have N46 := Fr.snoc X43 N32 q19
  have E47 := E33.wr W43
  have F48 := F34.other W43 (Or.inl ne_a_g19)
  have F49 := F35.other W43 (Or.inl ne_a_g19)
  have F50 := F29.other W43 (Or.inl ne_a_g19)
  have V51 := V36.other W43 ne_b3_g19
  refine Go.aloadN X43 hx (hb hby d3_78) rfl rfl rfl ?_
  refine Go.getF X43 hx hZ hown (host := "") (Or.inl (wd 33 rfl)) Via.refl e43 F49 (hb hby d3_79) rfl ?_
  intro T52 X52 e52
  refine Go.aloadN X52 hx (hb hby d3_82) rfl rfl rfl ?_
  refine Go.getF X52 hx hZ hown (host := "") (Or.inl (wd 12 rfl)) Via.refl e52 F48 (hb hby d3_83) rfl ?_
  intro T53 X53 e53
  refine Go.alen X53 hx hZ V51 e53 (hb hby d3_86) rfl ?_
  refine Go.icmpYes X53 hx (hb hby d3_87) rfl 107 (feq (by decide : ¬ ((0 : Int32) = (4 : Int32)))).2 (by decide) (by decide) ?_
  refine Go.aloadN X53 hx (hb hby d3_107) rfl rfl rfl ?_
  refine Go.getF X53 hx hZ hown (host := "") (Or.inl (wd 12 rfl)) Via.refl e53 F48 (hb hby d3_108) rfl ?_
  intro T54 X54 e54
  refine Go.aloadN X54 hx (hb hby d3_111) rfl rfl rfl ?_
  refine Go.dup X54 hx (hb hby d3_112) rfl rfl ?_
  refine Go.getF X54 hx hZ hown (host := "") (Or.inl (wd 33 rfl)) Via.refl e54 F49 (hb hby d3_113) rfl ?_
  intro T55 X55 e55
  refine Go.dupX1 X55 hx (hb hby d3_116) rfl rfl rfl ?_
  refine Go.iconst X55 hx (hb hby d3_117) rfl (1 : Int32) rfl ?_
  refine Go.iadd X55 hx (hb hby d3_118) rfl ?_
  show Go p e below _ T55 (mkF m 119 #[.val (.ref a), .val (.int x), .val (.int (7 : Int32)), .val (.int j41)] [(.int ((0 : Int32) + (1 : Int32))), (.ref a), (.int (0 : Int32)), (.ref b3)])
  rw [show ((0 : Int32) + (1 : Int32)) = (1 : Int32) from by decide]
  refine Go.putF X55 hx hZ hown (host := "") (Or.inl (wd 33 rfl)) Via.refl e55 F49 E47 (Or.inl (wd 34 rfl)) (wd 2 rfl) (ty := .int) (by decide) rfl rfl (hb hby d3_119) rfl ?_
  intro T56 h56 X56 e56 W56 F57
  have K58 := K44.wr W56 (Or.inl (List.mem_of_getElem? (i := 0) rfl))
  have O59 := O45.wr W56 ga
  have N60 := Fr.snoc X56 N46 ga
  have E61 := E47.wr W56
  have F62 := F48.other W56 (Or.inr (slot_ne (Or.inl (wd 13 rfl)) (Or.inl (wd 34 rfl)) (by decide) (t := (.array .int)) (t' := .int) (by decide) (by decide)))
  have F63 := F50.other W56 (Or.inr (slot_ne (Or.inl (wd 15 rfl)) (Or.inl (wd 34 rfl)) (by decide) (t := (.array .int)) (t' := .int) (by decide) (by decide)))
  have V64 := V51.other W56 (Ne.symm ne_a_b3)
  have V65 := V43.other W56 (Ne.symm ne_a_g19)
  refine Go.iloadN X56 hx (hb hby d3_122) rfl rfl  ?_
  refine Go.iastore X56 hx hZ V64 e56 ⟨by decide, by decide⟩ 0 (by decide) (Nat.le_of_ble_eq_true rfl)  (hb hby d3_123) rfl ?_
  intro T66 h66 X66 e66 W66 V66'
  have V66 : Arv Z h66 b3 k3 .int (4 : Int32) [(.int x), (.int (0 : Int32)), (.int (0 : Int32)), (.int (0 : Int32))] (.int (0 : Int32)) := V66'
  have K67 := K58.wr W66 (Or.inr z3)
  have O68 := O59.wr W66 q3
  have N69 := Fr.snoc X66 N60 q3
  have E70 := E61.wr W66
  have F71 := F62.other W66 (Or.inl ne_a_b3)
  have F72 := F57.other W66 (Or.inl ne_a_b3)
  have F73 := F63.other W66 (Or.inl ne_a_b3)
  have V74 := V65.other W66 (Ne.symm ne_b3_g19)
  refine Go.aloadN X66 hx (hb hby d3_124) rfl rfl rfl ?_
  refine Go.getF X66 hx hZ hown (host := "") (Or.inl (wd 33 rfl)) Via.refl e66 F72 (hb hby d3_125) rfl ?_
  intro T75 X75 e75
  refine Go.iconst X75 hx (hb hby d3_128) rfl (2 : Int32) rfl ?_
  refine Go.imul X75 hx (hb hby d3_129) rfl ?_
  show Go p e below _ T75 (mkF m 130 #[.val (.ref a), .val (.int x), .val (.int (7 : Int32)), .val (.int j41)] [(.int ((1 : Int32) * (2 : Int32)))])
  rw [show ((1 : Int32) * (2 : Int32)) = (2 : Int32) from by decide]
  refine Go.aloadN X75 hx (hb hby d3_130) rfl rfl rfl ?_
  refine Go.getF X75 hx hZ hown (host := "") (Or.inl (wd 14 rfl)) Via.refl e75 F73 (hb hby d3_131) rfl ?_
  intro T76 X76 e76
  refine Go.alen X76 hx hZ V74 e76 (hb hby d3_134) rfl ?_
  refine Go.icmpYes X76 hx (hb hby d3_135) rfl 149 (flt (by decide : ¬ ((8 : Int32) < (2 : Int32)))).2.2.2 (by decide) (by decide) ?_
  refine Go.iconst X76 hx (hb hby d3_149) rfl (1 : Int32) rfl ?_
  exact Go.retZ X76 hx (z' := (1 : Int32)) hret hlk (hb hby d3_150) rfl (by decide) (by rw [e76]; exact ⟨rfl, N69, K67, E70, b3, g19, k3, k19, z3, z19, ne_b3_g19, F71, F72, F73, V66, V74⟩) (Nat.le_of_ble_eq_true rfl) (Nat.le_of_ble_eq_true rfl)
set_option maxRecDepth 65536 in
set_option maxHeartbeats 40000000 in
theorem isAdd1 (l : Launch) (Z : State) (a0 : Array Value) (hw : ∀ d ∈ tables_1, d.before a0 Z = true) (a : Addr) (x : Int32) (a_NONE : Addr) (k_NONE : ClassId) (eb sl : Addr) (kb ks : ClassId) (u0 w1 w2 w3 : Int32) (h0 : Heap) (O0 : Old Z Z.heap.size h0) (FF : Facts Z a_NONE k_NONE) (Ea : Exa Z h0 a "com/example/overrule/overrule/engine/IntSet") (ga : Z.heap.size ≤ a) (hg : Good [u0]) (hx0 : 0 ≤ x.toInt) (hxn : x ∉ ([u0] : List Int32)) (Fe : Fld Z h0 a "com/example/overrule/overrule/engine/IntSet" "elements" "[I" (.ref eb)) (Fn : Fld Z h0 a "com/example/overrule/overrule/engine/IntSet" "size" "I" (.int (1 : Int32))) (Fs : Fld Z h0 a "com/example/overrule/overrule/engine/IntSet" "slots" "[I" (.ref sl)) (gb : Z.heap.size ≤ eb) (gs : Z.heap.size ≤ sl) (n_a_eb : a ≠ eb) (n_a_sl : a ≠ sl) (n_eb_sl : eb ≠ sl) (hsn : ¬ sl = a_NONE) (Vb : Arv Z h0 eb kb .int (4 : Int32) [(.int u0), (.int w1), (.int w2), (.int w3)] (.int (0 : Int32))) (Vs : Arv Z h0 sl ks .int (8 : Int32) ((tab 8 (hsh (7 : Int32)) [u0]).map Value.int) (.int (0 : Int32))) : Ctr l Z (⟨"com/example/overrule/overrule/engine/IntSet", "add", "(I)Z"⟩ : MethodName) prog_46_method_2_code 4 (some .boolean) ({ frames := 3, cells := 2, slots := 24, locals := 60 } : Room) #[(.ref a), (.int x)] h0 (fun v h L => v = some (.int (1 : Int32)) ∧ Fr Z.heap.size L ∧ Keep h0 h [a, eb, sl] ∧ Exa Z h a "com/example/overrule/overrule/engine/IntSet" ∧ Fld Z h a "com/example/overrule/overrule/engine/IntSet" "elements" "[I" (.ref eb) ∧ Fld Z h a "com/example/overrule/overrule/engine/IntSet" "size" "I" (.int (2 : Int32)) ∧ Fld Z h a "com/example/overrule/overrule/engine/IntSet" "slots" "[I" (.ref sl) ∧ Arv Z h eb kb .int (4 : Int32) [(.int u0), (.int x), (.int w2), (.int w3)] (.int (0 : Int32)) ∧ Arv Z h sl ks .int (8 : Int32) ((tab 8 (hsh (7 : Int32)) ([u0] ++ [x])).map Value.int) (.int (0 : Int32))) := by
  refine Ctr.of (plainFor_of_name pn_4) ?_
  have wd : ∀ {d : Jvm.Cond} (i : Nat), tables_1[i]? = some d → d.before a0 Z = true := fun i q => hw _ (List.mem_of_getElem? q)
  intro p e s m below meth c s₁ hx hby hml hown hnm hret hlk hZ X0 e0
  have FF' := FF
  obtain ⟨S_NONE, V_NONE⟩ := FF'
  refine Go.cast (ef_3 m a x) ?_
  show Go p e below _ s₁ (mkF m 0 #[.val (.ref a), .val (.int x), .unset, .unset] [])
  refine Go.aloadN X0 hx (hb hby d3_0) rfl rfl rfl ?_
  refine Go.getF X0 hx hZ hown (host := "") (Or.inl (wd 14 rfl)) Via.refl e0 Fs (hb hby d3_1) rfl ?_
  intro T1 X1 e1
  refine Go.getS X1 hx hZ hown (host := "") (Or.inl (wd 10 rfl)) Via.refl e1 (S_NONE.ext O0.2) (hb hby d3_4) rfl ?_
  intro T2 X2 e2
  refine Go.acmp X2 hx (hb hby d3_7) rfl rfl rfl false (decide_eq_false fun q => hsn (Value.ref.inj q)) 26 (by decide) (by decide) ?_
  refine Go.aloadN X2 hx (hb hby d3_26) rfl rfl rfl ?_
  refine Go.getF X2 hx hZ hown (host := "") (Or.inl (wd 14 rfl)) Via.refl e2 Fs (hb hby d3_27) rfl ?_
  intro T3 X3 e3
  refine Go.alen X3 hx hZ Vs e3 (hb hby d3_30) rfl ?_
  refine Go.iconst X3 hx (hb hby d3_31) rfl (1 : Int32) rfl ?_
  refine Go.isub X3 hx (hb hby d3_32) rfl ?_
  show Go p e below _ T3 (mkF m 33 #[.val (.ref a), .val (.int x), .unset, .unset] [(.int ((8 : Int32) - (1 : Int32)))])
  rw [show ((8 : Int32) - (1 : Int32)) = (7 : Int32) from by decide]
  refine Go.istoreN X3 hx (hb hby d3_33) rfl  #[.val (.ref a), .val (.int x), .val (.int (7 : Int32)), .unset] rfl ?_
  refine Go.iloadN X3 hx (hb hby d3_34) rfl rfl  ?_
  refine Go.iloadN X3 hx (hb hby d3_35) rfl rfl  ?_
  refine Go.pureS X3 hx hZ hown (wd 29 rfl) (wd 30 rfl) (wd 3 rfl) (wd 31 rfl) (by decide) [(.int x), (.int (7 : Int32))] [] (isSlot l Z a0 hw x (7 : Int32) h0) e3 rfl (by rw [hml]; rfl) pd_2 rfl (hb hby d3_36) (Nat.le_of_ble_eq_true rfl) (Nat.le_of_ble_eq_true rfl) (Nat.le_of_ble_eq_true rfl) (Nat.le_of_ble_eq_true rfl) ?_
  intro T4 X4 e4
  refine Go.istoreN X4 hx (hb hby d3_39) rfl  #[.val (.ref a), .val (.int x), .val (.int (7 : Int32)), .val (.int (slotv x (7 : Int32)))] rfl ?_
  show Go p e below _ T4 (mkF m 40 #[.val (.ref a), .val (.int x), .val (.int (7 : Int32)), .val (.int (slotv x (7 : Int32)))] [])
  refine isProbe hw hx hby hml hown hZ a sl ks x (tab 8 (hsh (7 : Int32)) [u0]) h0 Fs Vs (tab_nf hg hx0 hxn (Nat.le_of_ble_eq_true rfl)) 8 _ _ _ X4 e4 (ix_slot (b := 3) (by decide) rfl (by decide) (by decide) x) (free_at (inv8 hg (Nat.le_of_ble_eq_true rfl)) (Nat.le_of_ble_eq_true rfl) _) ?_
  intro T5 j5 X5 e5 hj5
  show Go p e below _ T5 (mkF m 71 #[.val (.ref a), .val (.int x), .val (.int (7 : Int32)), .val (.int j5)] [])
  refine Go.aloadN X5 hx (hb hby d3_71) rfl rfl rfl ?_
  refine Go.getF X5 hx hZ hown (host := "") (Or.inl (wd 14 rfl)) Via.refl e5 Fs (hb hby d3_72) rfl ?_
  intro T6 X6 e6
  refine Go.iloadN X6 hx (hb hby d3_75) rfl rfl  ?_
  refine Go.iloadN X6 hx (hb hby d3_76) rfl rfl  ?_
  refine Go.iastore X6 hx hZ Vs e6 ⟨hj5.1, hj5.2.1⟩ _ hj5.2.2 (by rw [List.length_map, (inv8 hg (Nat.le_of_ble_eq_true rfl)).1]; exact own_ffl hg (Nat.le_of_ble_eq_true rfl)) (hb hby d3_77) rfl ?_
  intro T7 h7 X7 e7 W7 V7'
  have V7 : Arv Z h7 sl ks .int (8 : Int32) ((tab 8 (hsh (7 : Int32)) ([u0] ++ [x])).map Value.int) (.int (0 : Int32)) := by rw [tab_snoc, List.map_set]; exact V7'
  have K8 := (Keep.refl h0 [a, eb, sl]).wr W7 (Or.inl (List.mem_of_getElem? (i := 2) rfl))
  have O9 := O0.wr W7 gs
  have N10 := Fr.snoc X7 (Fr.nil _) gs
  have E11 := Ea.wr W7
  have F12 := Fe.other W7 (Or.inl n_a_sl)
  have F13 := Fn.other W7 (Or.inl n_a_sl)
  have F14 := Fs.other W7 (Or.inl n_a_sl)
  have V15 := Vb.other W7 n_eb_sl
  refine Go.aloadN X7 hx (hb hby d3_78) rfl rfl rfl ?_
  refine Go.getF X7 hx hZ hown (host := "") (Or.inl (wd 33 rfl)) Via.refl e7 F13 (hb hby d3_79) rfl ?_
  intro T16 X16 e16
  refine Go.aloadN X16 hx (hb hby d3_82) rfl rfl rfl ?_
  refine Go.getF X16 hx hZ hown (host := "") (Or.inl (wd 12 rfl)) Via.refl e16 F12 (hb hby d3_83) rfl ?_
  intro T17 X17 e17
  refine Go.alen X17 hx hZ V15 e17 (hb hby d3_86) rfl ?_
  refine Go.icmpYes X17 hx (hb hby d3_87) rfl 107 (feq (by decide : ¬ ((1 : Int32) = (4 : Int32)))).2 (by decide) (by decide) ?_
  refine Go.aloadN X17 hx (hb hby d3_107) rfl rfl rfl ?_
  refine Go.getF X17 hx hZ hown (host := "") (Or.inl (wd 12 rfl)) Via.refl e17 F12 (hb hby d3_108) rfl ?_
  intro T18 X18 e18
  refine Go.aloadN X18 hx (hb hby d3_111) rfl rfl rfl ?_
  refine Go.dup X18 hx (hb hby d3_112) rfl rfl ?_
  refine Go.getF X18 hx hZ hown (host := "") (Or.inl (wd 33 rfl)) Via.refl e18 F13 (hb hby d3_113) rfl ?_
  intro T19 X19 e19
  refine Go.dupX1 X19 hx (hb hby d3_116) rfl rfl rfl ?_
  refine Go.iconst X19 hx (hb hby d3_117) rfl (1 : Int32) rfl ?_
  refine Go.iadd X19 hx (hb hby d3_118) rfl ?_
  show Go p e below _ T19 (mkF m 119 #[.val (.ref a), .val (.int x), .val (.int (7 : Int32)), .val (.int j5)] [(.int ((1 : Int32) + (1 : Int32))), (.ref a), (.int (1 : Int32)), (.ref eb)])
  rw [show ((1 : Int32) + (1 : Int32)) = (2 : Int32) from by decide]
  refine Go.putF X19 hx hZ hown (host := "") (Or.inl (wd 33 rfl)) Via.refl e19 F13 E11 (Or.inl (wd 34 rfl)) (wd 2 rfl) (ty := .int) (by decide) rfl rfl (hb hby d3_119) rfl ?_
  intro T20 h20 X20 e20 W20 F21
  have K22 := K8.wr W20 (Or.inl (List.mem_of_getElem? (i := 0) rfl))
  have O23 := O9.wr W20 ga
  have N24 := Fr.snoc X20 N10 ga
  have E25 := E11.wr W20
  have F26 := F12.other W20 (Or.inr (slot_ne (Or.inl (wd 13 rfl)) (Or.inl (wd 34 rfl)) (by decide) (t := (.array .int)) (t' := .int) (by decide) (by decide)))
  have F27 := F14.other W20 (Or.inr (slot_ne (Or.inl (wd 15 rfl)) (Or.inl (wd 34 rfl)) (by decide) (t := (.array .int)) (t' := .int) (by decide) (by decide)))
  have V28 := V15.other W20 (Ne.symm n_a_eb)
  have V29 := V7.other W20 (Ne.symm n_a_sl)
  refine Go.iloadN X20 hx (hb hby d3_122) rfl rfl  ?_
  refine Go.iastore X20 hx hZ V28 e20 ⟨by decide, by decide⟩ 1 (by decide) (Nat.le_of_ble_eq_true rfl)  (hb hby d3_123) rfl ?_
  intro T30 h30 X30 e30 W30 V30'
  have V30 : Arv Z h30 eb kb .int (4 : Int32) [(.int u0), (.int x), (.int w2), (.int w3)] (.int (0 : Int32)) := V30'
  have K31 := K22.wr W30 (Or.inl (List.mem_of_getElem? (i := 1) rfl))
  have O32 := O23.wr W30 gb
  have N33 := Fr.snoc X30 N24 gb
  have E34 := E25.wr W30
  have F35 := F26.other W30 (Or.inl n_a_eb)
  have F36 := F21.other W30 (Or.inl n_a_eb)
  have F37 := F27.other W30 (Or.inl n_a_eb)
  have V38 := V29.other W30 (Ne.symm n_eb_sl)
  refine Go.aloadN X30 hx (hb hby d3_124) rfl rfl rfl ?_
  refine Go.getF X30 hx hZ hown (host := "") (Or.inl (wd 33 rfl)) Via.refl e30 F36 (hb hby d3_125) rfl ?_
  intro T39 X39 e39
  refine Go.iconst X39 hx (hb hby d3_128) rfl (2 : Int32) rfl ?_
  refine Go.imul X39 hx (hb hby d3_129) rfl ?_
  show Go p e below _ T39 (mkF m 130 #[.val (.ref a), .val (.int x), .val (.int (7 : Int32)), .val (.int j5)] [(.int ((2 : Int32) * (2 : Int32)))])
  rw [show ((2 : Int32) * (2 : Int32)) = (4 : Int32) from by decide]
  refine Go.aloadN X39 hx (hb hby d3_130) rfl rfl rfl ?_
  refine Go.getF X39 hx hZ hown (host := "") (Or.inl (wd 14 rfl)) Via.refl e39 F37 (hb hby d3_131) rfl ?_
  intro T40 X40 e40
  refine Go.alen X40 hx hZ V38 e40 (hb hby d3_134) rfl ?_
  refine Go.icmpYes X40 hx (hb hby d3_135) rfl 149 (flt (by decide : ¬ ((8 : Int32) < (4 : Int32)))).2.2.2 (by decide) (by decide) ?_
  refine Go.iconst X40 hx (hb hby d3_149) rfl (1 : Int32) rfl ?_
  exact Go.retZ X40 hx (z' := (1 : Int32)) hret hlk (hb hby d3_150) rfl (by decide) (by rw [e40]; exact ⟨rfl, N33, K31, E34, F35, F36, F37, V30, V38⟩) (Nat.le_of_ble_eq_true rfl) (Nat.le_of_ble_eq_true rfl)
set_option maxRecDepth 65536 in
set_option maxHeartbeats 40000000 in
theorem isAdd2 (l : Launch) (Z : State) (a0 : Array Value) (hw : ∀ d ∈ tables_1, d.before a0 Z = true) (a : Addr) (x : Int32) (a_NONE : Addr) (k_NONE : ClassId) (eb sl : Addr) (kb ks : ClassId) (u0 u1 w2 w3 : Int32) (h0 : Heap) (O0 : Old Z Z.heap.size h0) (FF : Facts Z a_NONE k_NONE) (Ea : Exa Z h0 a "com/example/overrule/overrule/engine/IntSet") (ga : Z.heap.size ≤ a) (hg : Good [u0, u1]) (hx0 : 0 ≤ x.toInt) (hxn : x ∉ ([u0, u1] : List Int32)) (Fe : Fld Z h0 a "com/example/overrule/overrule/engine/IntSet" "elements" "[I" (.ref eb)) (Fn : Fld Z h0 a "com/example/overrule/overrule/engine/IntSet" "size" "I" (.int (2 : Int32))) (Fs : Fld Z h0 a "com/example/overrule/overrule/engine/IntSet" "slots" "[I" (.ref sl)) (gb : Z.heap.size ≤ eb) (gs : Z.heap.size ≤ sl) (n_a_eb : a ≠ eb) (n_a_sl : a ≠ sl) (n_eb_sl : eb ≠ sl) (hsn : ¬ sl = a_NONE) (Vb : Arv Z h0 eb kb .int (4 : Int32) [(.int u0), (.int u1), (.int w2), (.int w3)] (.int (0 : Int32))) (Vs : Arv Z h0 sl ks .int (8 : Int32) ((tab 8 (hsh (7 : Int32)) [u0, u1]).map Value.int) (.int (0 : Int32))) : Ctr l Z (⟨"com/example/overrule/overrule/engine/IntSet", "add", "(I)Z"⟩ : MethodName) prog_46_method_2_code 4 (some .boolean) ({ frames := 3, cells := 2, slots := 24, locals := 60 } : Room) #[(.ref a), (.int x)] h0 (fun v h L => v = some (.int (1 : Int32)) ∧ Fr Z.heap.size L ∧ Keep h0 h [a, eb, sl] ∧ Exa Z h a "com/example/overrule/overrule/engine/IntSet" ∧ Fld Z h a "com/example/overrule/overrule/engine/IntSet" "elements" "[I" (.ref eb) ∧ Fld Z h a "com/example/overrule/overrule/engine/IntSet" "size" "I" (.int (3 : Int32)) ∧ Fld Z h a "com/example/overrule/overrule/engine/IntSet" "slots" "[I" (.ref sl) ∧ Arv Z h eb kb .int (4 : Int32) [(.int u0), (.int u1), (.int x), (.int w3)] (.int (0 : Int32)) ∧ Arv Z h sl ks .int (8 : Int32) ((tab 8 (hsh (7 : Int32)) ([u0, u1] ++ [x])).map Value.int) (.int (0 : Int32))) := by
  refine Ctr.of (plainFor_of_name pn_4) ?_
  have wd : ∀ {d : Jvm.Cond} (i : Nat), tables_1[i]? = some d → d.before a0 Z = true := fun i q => hw _ (List.mem_of_getElem? q)
  intro p e s m below meth c s₁ hx hby hml hown hnm hret hlk hZ X0 e0
  have FF' := FF
  obtain ⟨S_NONE, V_NONE⟩ := FF'
  refine Go.cast (ef_3 m a x) ?_
  show Go p e below _ s₁ (mkF m 0 #[.val (.ref a), .val (.int x), .unset, .unset] [])
  refine Go.aloadN X0 hx (hb hby d3_0) rfl rfl rfl ?_
  refine Go.getF X0 hx hZ hown (host := "") (Or.inl (wd 14 rfl)) Via.refl e0 Fs (hb hby d3_1) rfl ?_
  intro T1 X1 e1
  refine Go.getS X1 hx hZ hown (host := "") (Or.inl (wd 10 rfl)) Via.refl e1 (S_NONE.ext O0.2) (hb hby d3_4) rfl ?_
  intro T2 X2 e2
  refine Go.acmp X2 hx (hb hby d3_7) rfl rfl rfl false (decide_eq_false fun q => hsn (Value.ref.inj q)) 26 (by decide) (by decide) ?_
  refine Go.aloadN X2 hx (hb hby d3_26) rfl rfl rfl ?_
  refine Go.getF X2 hx hZ hown (host := "") (Or.inl (wd 14 rfl)) Via.refl e2 Fs (hb hby d3_27) rfl ?_
  intro T3 X3 e3
  refine Go.alen X3 hx hZ Vs e3 (hb hby d3_30) rfl ?_
  refine Go.iconst X3 hx (hb hby d3_31) rfl (1 : Int32) rfl ?_
  refine Go.isub X3 hx (hb hby d3_32) rfl ?_
  show Go p e below _ T3 (mkF m 33 #[.val (.ref a), .val (.int x), .unset, .unset] [(.int ((8 : Int32) - (1 : Int32)))])
  rw [show ((8 : Int32) - (1 : Int32)) = (7 : Int32) from by decide]
  refine Go.istoreN X3 hx (hb hby d3_33) rfl  #[.val (.ref a), .val (.int x), .val (.int (7 : Int32)), .unset] rfl ?_
  refine Go.iloadN X3 hx (hb hby d3_34) rfl rfl  ?_
  refine Go.iloadN X3 hx (hb hby d3_35) rfl rfl  ?_
  refine Go.pureS X3 hx hZ hown (wd 29 rfl) (wd 30 rfl) (wd 3 rfl) (wd 31 rfl) (by decide) [(.int x), (.int (7 : Int32))] [] (isSlot l Z a0 hw x (7 : Int32) h0) e3 rfl (by rw [hml]; rfl) pd_2 rfl (hb hby d3_36) (Nat.le_of_ble_eq_true rfl) (Nat.le_of_ble_eq_true rfl) (Nat.le_of_ble_eq_true rfl) (Nat.le_of_ble_eq_true rfl) ?_
  intro T4 X4 e4
  refine Go.istoreN X4 hx (hb hby d3_39) rfl  #[.val (.ref a), .val (.int x), .val (.int (7 : Int32)), .val (.int (slotv x (7 : Int32)))] rfl ?_
  show Go p e below _ T4 (mkF m 40 #[.val (.ref a), .val (.int x), .val (.int (7 : Int32)), .val (.int (slotv x (7 : Int32)))] [])
  refine isProbe hw hx hby hml hown hZ a sl ks x (tab 8 (hsh (7 : Int32)) [u0, u1]) h0 Fs Vs (tab_nf hg hx0 hxn (Nat.le_of_ble_eq_true rfl)) 8 _ _ _ X4 e4 (ix_slot (b := 3) (by decide) rfl (by decide) (by decide) x) (free_at (inv8 hg (Nat.le_of_ble_eq_true rfl)) (Nat.le_of_ble_eq_true rfl) _) ?_
  intro T5 j5 X5 e5 hj5
  show Go p e below _ T5 (mkF m 71 #[.val (.ref a), .val (.int x), .val (.int (7 : Int32)), .val (.int j5)] [])
  refine Go.aloadN X5 hx (hb hby d3_71) rfl rfl rfl ?_
  refine Go.getF X5 hx hZ hown (host := "") (Or.inl (wd 14 rfl)) Via.refl e5 Fs (hb hby d3_72) rfl ?_
  intro T6 X6 e6
  refine Go.iloadN X6 hx (hb hby d3_75) rfl rfl  ?_
  refine Go.iloadN X6 hx (hb hby d3_76) rfl rfl  ?_
  refine Go.iastore X6 hx hZ Vs e6 ⟨hj5.1, hj5.2.1⟩ _ hj5.2.2 (by rw [List.length_map, (inv8 hg (Nat.le_of_ble_eq_true rfl)).1]; exact own_ffl hg (Nat.le_of_ble_eq_true rfl)) (hb hby d3_77) rfl ?_
  intro T7 h7 X7 e7 W7 V7'
  have V7 : Arv Z h7 sl ks .int (8 : Int32) ((tab 8 (hsh (7 : Int32)) ([u0, u1] ++ [x])).map Value.int) (.int (0 : Int32)) := by rw [tab_snoc, List.map_set]; exact V7'
  have K8 := (Keep.refl h0 [a, eb, sl]).wr W7 (Or.inl (List.mem_of_getElem? (i := 2) rfl))
  have O9 := O0.wr W7 gs
  have N10 := Fr.snoc X7 (Fr.nil _) gs
  have E11 := Ea.wr W7
  have F12 := Fe.other W7 (Or.inl n_a_sl)
  have F13 := Fn.other W7 (Or.inl n_a_sl)
  have F14 := Fs.other W7 (Or.inl n_a_sl)
  have V15 := Vb.other W7 n_eb_sl
  refine Go.aloadN X7 hx (hb hby d3_78) rfl rfl rfl ?_
  refine Go.getF X7 hx hZ hown (host := "") (Or.inl (wd 33 rfl)) Via.refl e7 F13 (hb hby d3_79) rfl ?_
  intro T16 X16 e16
  refine Go.aloadN X16 hx (hb hby d3_82) rfl rfl rfl ?_
  refine Go.getF X16 hx hZ hown (host := "") (Or.inl (wd 12 rfl)) Via.refl e16 F12 (hb hby d3_83) rfl ?_
  intro T17 X17 e17
  refine Go.alen X17 hx hZ V15 e17 (hb hby d3_86) rfl ?_
  refine Go.icmpYes X17 hx (hb hby d3_87) rfl 107 (feq (by decide : ¬ ((2 : Int32) = (4 : Int32)))).2 (by decide) (by decide) ?_
  refine Go.aloadN X17 hx (hb hby d3_107) rfl rfl rfl ?_
  refine Go.getF X17 hx hZ hown (host := "") (Or.inl (wd 12 rfl)) Via.refl e17 F12 (hb hby d3_108) rfl ?_
  intro T18 X18 e18
  refine Go.aloadN X18 hx (hb hby d3_111) rfl rfl rfl ?_
  refine Go.dup X18 hx (hb hby d3_112) rfl rfl ?_
  refine Go.getF X18 hx hZ hown (host := "") (Or.inl (wd 33 rfl)) Via.refl e18 F13 (hb hby d3_113) rfl ?_
  intro T19 X19 e19
  refine Go.dupX1 X19 hx (hb hby d3_116) rfl rfl rfl ?_
  refine Go.iconst X19 hx (hb hby d3_117) rfl (1 : Int32) rfl ?_
  refine Go.iadd X19 hx (hb hby d3_118) rfl ?_
  show Go p e below _ T19 (mkF m 119 #[.val (.ref a), .val (.int x), .val (.int (7 : Int32)), .val (.int j5)] [(.int ((2 : Int32) + (1 : Int32))), (.ref a), (.int (2 : Int32)), (.ref eb)])
  rw [show ((2 : Int32) + (1 : Int32)) = (3 : Int32) from by decide]
  refine Go.putF X19 hx hZ hown (host := "") (Or.inl (wd 33 rfl)) Via.refl e19 F13 E11 (Or.inl (wd 34 rfl)) (wd 2 rfl) (ty := .int) (by decide) rfl rfl (hb hby d3_119) rfl ?_
  intro T20 h20 X20 e20 W20 F21
  have K22 := K8.wr W20 (Or.inl (List.mem_of_getElem? (i := 0) rfl))
  have O23 := O9.wr W20 ga
  have N24 := Fr.snoc X20 N10 ga
  have E25 := E11.wr W20
  have F26 := F12.other W20 (Or.inr (slot_ne (Or.inl (wd 13 rfl)) (Or.inl (wd 34 rfl)) (by decide) (t := (.array .int)) (t' := .int) (by decide) (by decide)))
  have F27 := F14.other W20 (Or.inr (slot_ne (Or.inl (wd 15 rfl)) (Or.inl (wd 34 rfl)) (by decide) (t := (.array .int)) (t' := .int) (by decide) (by decide)))
  have V28 := V15.other W20 (Ne.symm n_a_eb)
  have V29 := V7.other W20 (Ne.symm n_a_sl)
  refine Go.iloadN X20 hx (hb hby d3_122) rfl rfl  ?_
  refine Go.iastore X20 hx hZ V28 e20 ⟨by decide, by decide⟩ 2 (by decide) (Nat.le_of_ble_eq_true rfl)  (hb hby d3_123) rfl ?_
  intro T30 h30 X30 e30 W30 V30'
  have V30 : Arv Z h30 eb kb .int (4 : Int32) [(.int u0), (.int u1), (.int x), (.int w3)] (.int (0 : Int32)) := V30'
  have K31 := K22.wr W30 (Or.inl (List.mem_of_getElem? (i := 1) rfl))
  have O32 := O23.wr W30 gb
  have N33 := Fr.snoc X30 N24 gb
  have E34 := E25.wr W30
  have F35 := F26.other W30 (Or.inl n_a_eb)
  have F36 := F21.other W30 (Or.inl n_a_eb)
  have F37 := F27.other W30 (Or.inl n_a_eb)
  have V38 := V29.other W30 (Ne.symm n_eb_sl)
  refine Go.aloadN X30 hx (hb hby d3_124) rfl rfl rfl ?_
  refine Go.getF X30 hx hZ hown (host := "") (Or.inl (wd 33 rfl)) Via.refl e30 F36 (hb hby d3_125) rfl ?_
  intro T39 X39 e39
  refine Go.iconst X39 hx (hb hby d3_128) rfl (2 : Int32) rfl ?_
  refine Go.imul X39 hx (hb hby d3_129) rfl ?_
  show Go p e below _ T39 (mkF m 130 #[.val (.ref a), .val (.int x), .val (.int (7 : Int32)), .val (.int j5)] [(.int ((3 : Int32) * (2 : Int32)))])
  rw [show ((3 : Int32) * (2 : Int32)) = (6 : Int32) from by decide]
  refine Go.aloadN X39 hx (hb hby d3_130) rfl rfl rfl ?_
  refine Go.getF X39 hx hZ hown (host := "") (Or.inl (wd 14 rfl)) Via.refl e39 F37 (hb hby d3_131) rfl ?_
  intro T40 X40 e40
  refine Go.alen X40 hx hZ V38 e40 (hb hby d3_134) rfl ?_
  refine Go.icmpYes X40 hx (hb hby d3_135) rfl 149 (flt (by decide : ¬ ((8 : Int32) < (6 : Int32)))).2.2.2 (by decide) (by decide) ?_
  refine Go.iconst X40 hx (hb hby d3_149) rfl (1 : Int32) rfl ?_
  exact Go.retZ X40 hx (z' := (1 : Int32)) hret hlk (hb hby d3_150) rfl (by decide) (by rw [e40]; exact ⟨rfl, N33, K31, E34, F35, F36, F37, V30, V38⟩) (Nat.le_of_ble_eq_true rfl) (Nat.le_of_ble_eq_true rfl)
set_option maxRecDepth 65536 in
set_option maxHeartbeats 40000000 in
theorem isAdd3 (l : Launch) (Z : State) (a0 : Array Value) (hw : ∀ d ∈ tables_1, d.before a0 Z = true) (a : Addr) (x : Int32) (a_NONE : Addr) (k_NONE : ClassId) (eb sl : Addr) (kb ks : ClassId) (u0 u1 u2 w3 : Int32) (h0 : Heap) (O0 : Old Z Z.heap.size h0) (FF : Facts Z a_NONE k_NONE) (Ea : Exa Z h0 a "com/example/overrule/overrule/engine/IntSet") (ga : Z.heap.size ≤ a) (hg : Good [u0, u1, u2]) (hx0 : 0 ≤ x.toInt) (hxn : x ∉ ([u0, u1, u2] : List Int32)) (Fe : Fld Z h0 a "com/example/overrule/overrule/engine/IntSet" "elements" "[I" (.ref eb)) (Fn : Fld Z h0 a "com/example/overrule/overrule/engine/IntSet" "size" "I" (.int (3 : Int32))) (Fs : Fld Z h0 a "com/example/overrule/overrule/engine/IntSet" "slots" "[I" (.ref sl)) (gb : Z.heap.size ≤ eb) (gs : Z.heap.size ≤ sl) (n_a_eb : a ≠ eb) (n_a_sl : a ≠ sl) (n_eb_sl : eb ≠ sl) (hsn : ¬ sl = a_NONE) (Vb : Arv Z h0 eb kb .int (4 : Int32) [(.int u0), (.int u1), (.int u2), (.int w3)] (.int (0 : Int32))) (Vs : Arv Z h0 sl ks .int (8 : Int32) ((tab 8 (hsh (7 : Int32)) [u0, u1, u2]).map Value.int) (.int (0 : Int32))) : Ctr l Z (⟨"com/example/overrule/overrule/engine/IntSet", "add", "(I)Z"⟩ : MethodName) prog_46_method_2_code 4 (some .boolean) ({ frames := 3, cells := 2, slots := 24, locals := 60 } : Room) #[(.ref a), (.int x)] h0 (fun v h L => v = some (.int (1 : Int32)) ∧ Fr Z.heap.size L ∧ Keep h0 h [a, eb, sl] ∧ Exa Z h a "com/example/overrule/overrule/engine/IntSet" ∧ Fld Z h a "com/example/overrule/overrule/engine/IntSet" "elements" "[I" (.ref eb) ∧ Fld Z h a "com/example/overrule/overrule/engine/IntSet" "size" "I" (.int (4 : Int32)) ∧ Fld Z h a "com/example/overrule/overrule/engine/IntSet" "slots" "[I" (.ref sl) ∧ Arv Z h eb kb .int (4 : Int32) [(.int u0), (.int u1), (.int u2), (.int x)] (.int (0 : Int32)) ∧ Arv Z h sl ks .int (8 : Int32) ((tab 8 (hsh (7 : Int32)) ([u0, u1, u2] ++ [x])).map Value.int) (.int (0 : Int32))) := by
  refine Ctr.of (plainFor_of_name pn_4) ?_
  have wd : ∀ {d : Jvm.Cond} (i : Nat), tables_1[i]? = some d → d.before a0 Z = true := fun i q => hw _ (List.mem_of_getElem? q)
  intro p e s m below meth c s₁ hx hby hml hown hnm hret hlk hZ X0 e0
  have FF' := FF
  obtain ⟨S_NONE, V_NONE⟩ := FF'
  refine Go.cast (ef_3 m a x) ?_
  show Go p e below _ s₁ (mkF m 0 #[.val (.ref a), .val (.int x), .unset, .unset] [])
  refine Go.aloadN X0 hx (hb hby d3_0) rfl rfl rfl ?_
  refine Go.getF X0 hx hZ hown (host := "") (Or.inl (wd 14 rfl)) Via.refl e0 Fs (hb hby d3_1) rfl ?_
  intro T1 X1 e1
  refine Go.getS X1 hx hZ hown (host := "") (Or.inl (wd 10 rfl)) Via.refl e1 (S_NONE.ext O0.2) (hb hby d3_4) rfl ?_
  intro T2 X2 e2
  refine Go.acmp X2 hx (hb hby d3_7) rfl rfl rfl false (decide_eq_false fun q => hsn (Value.ref.inj q)) 26 (by decide) (by decide) ?_
  refine Go.aloadN X2 hx (hb hby d3_26) rfl rfl rfl ?_
  refine Go.getF X2 hx hZ hown (host := "") (Or.inl (wd 14 rfl)) Via.refl e2 Fs (hb hby d3_27) rfl ?_
  intro T3 X3 e3
  refine Go.alen X3 hx hZ Vs e3 (hb hby d3_30) rfl ?_
  refine Go.iconst X3 hx (hb hby d3_31) rfl (1 : Int32) rfl ?_
  refine Go.isub X3 hx (hb hby d3_32) rfl ?_
  show Go p e below _ T3 (mkF m 33 #[.val (.ref a), .val (.int x), .unset, .unset] [(.int ((8 : Int32) - (1 : Int32)))])
  rw [show ((8 : Int32) - (1 : Int32)) = (7 : Int32) from by decide]
  refine Go.istoreN X3 hx (hb hby d3_33) rfl  #[.val (.ref a), .val (.int x), .val (.int (7 : Int32)), .unset] rfl ?_
  refine Go.iloadN X3 hx (hb hby d3_34) rfl rfl  ?_
  refine Go.iloadN X3 hx (hb hby d3_35) rfl rfl  ?_
  refine Go.pureS X3 hx hZ hown (wd 29 rfl) (wd 30 rfl) (wd 3 rfl) (wd 31 rfl) (by decide) [(.int x), (.int (7 : Int32))] [] (isSlot l Z a0 hw x (7 : Int32) h0) e3 rfl (by rw [hml]; rfl) pd_2 rfl (hb hby d3_36) (Nat.le_of_ble_eq_true rfl) (Nat.le_of_ble_eq_true rfl) (Nat.le_of_ble_eq_true rfl) (Nat.le_of_ble_eq_true rfl) ?_
  intro T4 X4 e4
  refine Go.istoreN X4 hx (hb hby d3_39) rfl  #[.val (.ref a), .val (.int x), .val (.int (7 : Int32)), .val (.int (slotv x (7 : Int32)))] rfl ?_
  show Go p e below _ T4 (mkF m 40 #[.val (.ref a), .val (.int x), .val (.int (7 : Int32)), .val (.int (slotv x (7 : Int32)))] [])
  refine isProbe hw hx hby hml hown hZ a sl ks x (tab 8 (hsh (7 : Int32)) [u0, u1, u2]) h0 Fs Vs (tab_nf hg hx0 hxn (Nat.le_of_ble_eq_true rfl)) 8 _ _ _ X4 e4 (ix_slot (b := 3) (by decide) rfl (by decide) (by decide) x) (free_at (inv8 hg (Nat.le_of_ble_eq_true rfl)) (Nat.le_of_ble_eq_true rfl) _) ?_
  intro T5 j5 X5 e5 hj5
  show Go p e below _ T5 (mkF m 71 #[.val (.ref a), .val (.int x), .val (.int (7 : Int32)), .val (.int j5)] [])
  refine Go.aloadN X5 hx (hb hby d3_71) rfl rfl rfl ?_
  refine Go.getF X5 hx hZ hown (host := "") (Or.inl (wd 14 rfl)) Via.refl e5 Fs (hb hby d3_72) rfl ?_
  intro T6 X6 e6
  refine Go.iloadN X6 hx (hb hby d3_75) rfl rfl  ?_
  refine Go.iloadN X6 hx (hb hby d3_76) rfl rfl  ?_
  refine Go.iastore X6 hx hZ Vs e6 ⟨hj5.1, hj5.2.1⟩ _ hj5.2.2 (by rw [List.length_map, (inv8 hg (Nat.le_of_ble_eq_true rfl)).1]; exact own_ffl hg (Nat.le_of_ble_eq_true rfl)) (hb hby d3_77) rfl ?_
  intro T7 h7 X7 e7 W7 V7'
  have V7 : Arv Z h7 sl ks .int (8 : Int32) ((tab 8 (hsh (7 : Int32)) ([u0, u1, u2] ++ [x])).map Value.int) (.int (0 : Int32)) := by rw [tab_snoc, List.map_set]; exact V7'
  have K8 := (Keep.refl h0 [a, eb, sl]).wr W7 (Or.inl (List.mem_of_getElem? (i := 2) rfl))
  have O9 := O0.wr W7 gs
  have N10 := Fr.snoc X7 (Fr.nil _) gs
  have E11 := Ea.wr W7
  have F12 := Fe.other W7 (Or.inl n_a_sl)
  have F13 := Fn.other W7 (Or.inl n_a_sl)
  have F14 := Fs.other W7 (Or.inl n_a_sl)
  have V15 := Vb.other W7 n_eb_sl
  refine Go.aloadN X7 hx (hb hby d3_78) rfl rfl rfl ?_
  refine Go.getF X7 hx hZ hown (host := "") (Or.inl (wd 33 rfl)) Via.refl e7 F13 (hb hby d3_79) rfl ?_
  intro T16 X16 e16
  refine Go.aloadN X16 hx (hb hby d3_82) rfl rfl rfl ?_
  refine Go.getF X16 hx hZ hown (host := "") (Or.inl (wd 12 rfl)) Via.refl e16 F12 (hb hby d3_83) rfl ?_
  intro T17 X17 e17
  refine Go.alen X17 hx hZ V15 e17 (hb hby d3_86) rfl ?_
  refine Go.icmpYes X17 hx (hb hby d3_87) rfl 107 (feq (by decide : ¬ ((3 : Int32) = (4 : Int32)))).2 (by decide) (by decide) ?_
  refine Go.aloadN X17 hx (hb hby d3_107) rfl rfl rfl ?_
  refine Go.getF X17 hx hZ hown (host := "") (Or.inl (wd 12 rfl)) Via.refl e17 F12 (hb hby d3_108) rfl ?_
  intro T18 X18 e18
  refine Go.aloadN X18 hx (hb hby d3_111) rfl rfl rfl ?_
  refine Go.dup X18 hx (hb hby d3_112) rfl rfl ?_
  refine Go.getF X18 hx hZ hown (host := "") (Or.inl (wd 33 rfl)) Via.refl e18 F13 (hb hby d3_113) rfl ?_
  intro T19 X19 e19
  refine Go.dupX1 X19 hx (hb hby d3_116) rfl rfl rfl ?_
  refine Go.iconst X19 hx (hb hby d3_117) rfl (1 : Int32) rfl ?_
  refine Go.iadd X19 hx (hb hby d3_118) rfl ?_
  show Go p e below _ T19 (mkF m 119 #[.val (.ref a), .val (.int x), .val (.int (7 : Int32)), .val (.int j5)] [(.int ((3 : Int32) + (1 : Int32))), (.ref a), (.int (3 : Int32)), (.ref eb)])
  rw [show ((3 : Int32) + (1 : Int32)) = (4 : Int32) from by decide]
  refine Go.putF X19 hx hZ hown (host := "") (Or.inl (wd 33 rfl)) Via.refl e19 F13 E11 (Or.inl (wd 34 rfl)) (wd 2 rfl) (ty := .int) (by decide) rfl rfl (hb hby d3_119) rfl ?_
  intro T20 h20 X20 e20 W20 F21
  have K22 := K8.wr W20 (Or.inl (List.mem_of_getElem? (i := 0) rfl))
  have O23 := O9.wr W20 ga
  have N24 := Fr.snoc X20 N10 ga
  have E25 := E11.wr W20
  have F26 := F12.other W20 (Or.inr (slot_ne (Or.inl (wd 13 rfl)) (Or.inl (wd 34 rfl)) (by decide) (t := (.array .int)) (t' := .int) (by decide) (by decide)))
  have F27 := F14.other W20 (Or.inr (slot_ne (Or.inl (wd 15 rfl)) (Or.inl (wd 34 rfl)) (by decide) (t := (.array .int)) (t' := .int) (by decide) (by decide)))
  have V28 := V15.other W20 (Ne.symm n_a_eb)
  have V29 := V7.other W20 (Ne.symm n_a_sl)
  refine Go.iloadN X20 hx (hb hby d3_122) rfl rfl  ?_
  refine Go.iastore X20 hx hZ V28 e20 ⟨by decide, by decide⟩ 3 (by decide) (Nat.le_of_ble_eq_true rfl)  (hb hby d3_123) rfl ?_
  intro T30 h30 X30 e30 W30 V30'
  have V30 : Arv Z h30 eb kb .int (4 : Int32) [(.int u0), (.int u1), (.int u2), (.int x)] (.int (0 : Int32)) := V30'
  have K31 := K22.wr W30 (Or.inl (List.mem_of_getElem? (i := 1) rfl))
  have O32 := O23.wr W30 gb
  have N33 := Fr.snoc X30 N24 gb
  have E34 := E25.wr W30
  have F35 := F26.other W30 (Or.inl n_a_eb)
  have F36 := F21.other W30 (Or.inl n_a_eb)
  have F37 := F27.other W30 (Or.inl n_a_eb)
  have V38 := V29.other W30 (Ne.symm n_eb_sl)
  refine Go.aloadN X30 hx (hb hby d3_124) rfl rfl rfl ?_
  refine Go.getF X30 hx hZ hown (host := "") (Or.inl (wd 33 rfl)) Via.refl e30 F36 (hb hby d3_125) rfl ?_
  intro T39 X39 e39
  refine Go.iconst X39 hx (hb hby d3_128) rfl (2 : Int32) rfl ?_
  refine Go.imul X39 hx (hb hby d3_129) rfl ?_
  show Go p e below _ T39 (mkF m 130 #[.val (.ref a), .val (.int x), .val (.int (7 : Int32)), .val (.int j5)] [(.int ((4 : Int32) * (2 : Int32)))])
  rw [show ((4 : Int32) * (2 : Int32)) = (8 : Int32) from by decide]
  refine Go.aloadN X39 hx (hb hby d3_130) rfl rfl rfl ?_
  refine Go.getF X39 hx hZ hown (host := "") (Or.inl (wd 14 rfl)) Via.refl e39 F37 (hb hby d3_131) rfl ?_
  intro T40 X40 e40
  refine Go.alen X40 hx hZ V38 e40 (hb hby d3_134) rfl ?_
  refine Go.icmpYes X40 hx (hb hby d3_135) rfl 149 (flt (by decide : ¬ ((8 : Int32) < (8 : Int32)))).2.2.2 (by decide) (by decide) ?_
  refine Go.iconst X40 hx (hb hby d3_149) rfl (1 : Int32) rfl ?_
  exact Go.retZ X40 hx (z' := (1 : Int32)) hret hlk (hb hby d3_150) rfl (by decide) (by rw [e40]; exact ⟨rfl, N33, K31, E34, F35, F36, F37, V30, V38⟩) (Nat.le_of_ble_eq_true rfl) (Nat.le_of_ble_eq_true rfl)
theorem d9_0 : decode jdk_29_method_69_code 0 = .ok (.iload_n 0, 1) := by decide +kernel
theorem d9_1 : decode jdk_29_method_69_code 1 = .ok (.iload_n 1, 1) := by decide +kernel
theorem d9_2 : decode jdk_29_method_69_code 2 = .ok (.if_icmp .gt 7, 3) := by decide +kernel
theorem d9_5 : decode jdk_29_method_69_code 5 = .ok (.iload_n 0, 1) := by decide +kernel
theorem d9_6 : decode jdk_29_method_69_code 6 = .ok (.goto 4, 3) := by decide +kernel
theorem d9_9 : decode jdk_29_method_69_code 9 = .ok (.iload_n 1, 1) := by decide +kernel
theorem d9_10 : decode jdk_29_method_69_code 10 = .ok (.ireturn, 1) := by decide +kernel
theorem ef_9 (m : MethodId) (x0 : Int32) (x1 : Int32) : entryFrame m #[(.int x0), (.int x1)] 2 = mkF m 0 #[.val (.int x0), .val (.int x1)] [] := by first | (simp [entryFrame, mkF, argsToLocals, Value.category]; done) | rfl
set_option maxRecDepth 65536 in
set_option maxHeartbeats 40000000 in
theorem isMin48 (l : Launch) (Z : State) (a0 : Array Value) (hw : ∀ d ∈ tables_1, d.before a0 Z = true)  (h0 : Heap)  : Pur l Z (⟨"java/lang/Math", "min", "(II)I"⟩ : MethodName) jdk_29_method_69_code 2 (some .int) 0 0 #[(.int (4 : Int32)), (.int (8 : Int32))] h0 (some (.int (4 : Int32))) := by
  refine Ctr.of (Jvm.Free.JP.mathPlain rfl (by decide +kernel)) ?_
  have wd : ∀ {d : Jvm.Cond} (i : Nat), tables_1[i]? = some d → d.before a0 Z = true := fun i q => hw _ (List.mem_of_getElem? q)
  intro p e s m below meth c s₁ hx hby hml hown hnm hret hlk hZ X0 e0
  refine Go.cast (ef_9 m (4 : Int32) (8 : Int32)) ?_
  show Go p e below _ s₁ (mkF m 0 #[.val (.int (4 : Int32)), .val (.int (8 : Int32))] [])
  refine Go.iloadN X0 hx (hb hby d9_0) rfl rfl  ?_
  refine Go.iloadN X0 hx (hb hby d9_1) rfl rfl  ?_
  refine Go.icmpNo X0 hx (hb hby d9_2) rfl (flt (by decide : ¬ ((8 : Int32) < (4 : Int32)))).2.2.1 ?_
  refine Go.iloadN X0 hx (hb hby d9_5) rfl rfl  ?_
  refine Go.goto X0 hx (hb hby d9_6) rfl 10 (by decide) (by decide) ?_
  exact Go.retI X0 hx hret hlk (hb hby d9_10) rfl (by rw [e0]; exact ⟨rfl, rfl, rfl⟩) (Nat.le_of_ble_eq_true rfl) (Nat.le_of_ble_eq_true rfl)
theorem d12_0 : decode jdk_65_method_123_code 0 = .ok (.iload_n 1, 1) := by decide +kernel
theorem d12_1 : decode jdk_65_method_123_code 1 = .ok (.aload_n 0, 1) := by decide +kernel
theorem d12_2 : decode jdk_65_method_123_code 2 = .ok (.arraylength, 1) := by decide +kernel
theorem d12_3 : decode jdk_65_method_123_code 3 = .ok (.if_icmp .ne 11, 3) := by decide +kernel
theorem d12_6 : decode jdk_65_method_123_code 6 = .ok (.aload_n 0, 1) := by decide +kernel
theorem d12_7 : decode jdk_65_method_123_code 7 = .ok (.invokevirtual 316, 3) := by decide +kernel
theorem d12_10 : decode jdk_65_method_123_code 10 = .ok (.checkcast 317, 3) := by decide +kernel
theorem d12_13 : decode jdk_65_method_123_code 13 = .ok (.areturn, 1) := by decide +kernel
theorem d12_14 : decode jdk_65_method_123_code 14 = .ok (.iload_n 1, 1) := by decide +kernel
theorem d12_15 : decode jdk_65_method_123_code 15 = .ok (.newarray .int, 2) := by decide +kernel
theorem d12_17 : decode jdk_65_method_123_code 17 = .ok (.astore_n 2, 1) := by decide +kernel
theorem d12_18 : decode jdk_65_method_123_code 18 = .ok (.aload_n 0, 1) := by decide +kernel
theorem d12_19 : decode jdk_65_method_123_code 19 = .ok (.iconst 0, 1) := by decide +kernel
theorem d12_20 : decode jdk_65_method_123_code 20 = .ok (.aload_n 2, 1) := by decide +kernel
theorem d12_21 : decode jdk_65_method_123_code 21 = .ok (.iconst 0, 1) := by decide +kernel
theorem d12_22 : decode jdk_65_method_123_code 22 = .ok (.aload_n 0, 1) := by decide +kernel
theorem d12_23 : decode jdk_65_method_123_code 23 = .ok (.arraylength, 1) := by decide +kernel
theorem d12_24 : decode jdk_65_method_123_code 24 = .ok (.iload_n 1, 1) := by decide +kernel
theorem d12_25 : decode jdk_65_method_123_code 25 = .ok (.invokestatic 304, 3) := by decide +kernel
theorem d12_28 : decode jdk_65_method_123_code 28 = .ok (.invokestatic 150, 3) := by decide +kernel
theorem d12_31 : decode jdk_65_method_123_code 31 = .ok (.aload_n 2, 1) := by decide +kernel
theorem d12_32 : decode jdk_65_method_123_code 32 = .ok (.areturn, 1) := by decide +kernel
theorem ef_12 (m : MethodId) (x0 : Addr) (x1 : Int32) : entryFrame m #[(.ref x0), (.int x1)] 3 = mkF m 0 #[.val (.ref x0), .val (.int x1), .unset] [] := by first | (simp [entryFrame, mkF, argsToLocals, Value.category]; done) | rfl
set_option maxRecDepth 65536 in
set_option maxHeartbeats 40000000 in
theorem isCopy (l : Launch) (Z : State) (a0 : Array Value) (hw : ∀ d ∈ tables_1, d.before a0 Z = true) (eb : Addr) (kb : ClassId) (u0 u1 u2 u3 : Int32) (h0 : Heap) (O0 : Old Z Z.heap.size h0) (Vb : Arv Z h0 eb kb .int (4 : Int32) [(.int u0), (.int u1), (.int u2), (.int u3)] (.int (0 : Int32))) : Ctr l Z (⟨"java/util/Arrays", "copyOf", "([II)[I"⟩ : MethodName) jdk_65_method_123_code 3 (some (.array .int)) ({ frames := 1, cells := 1, slots := 8, locals := 18 } : Room) #[(.ref eb), (.int (8 : Int32))] h0 (fun v h L => ∃ (g : Addr) (kg : ClassId), v = some (.ref g) ∧ Fr Z.heap.size L ∧ Keep h0 h [] ∧ h0.size ≤ g ∧ Arv Z h g kg .int (8 : Int32) [(.int u0), (.int u1), (.int u2), (.int u3), (.int (0 : Int32)), (.int (0 : Int32)), (.int (0 : Int32)), (.int (0 : Int32))] (.int (0 : Int32))) := by
  refine Ctr.of (plainFor_of_name pn_5) ?_
  have wd : ∀ {d : Jvm.Cond} (i : Nat), tables_1[i]? = some d → d.before a0 Z = true := fun i q => hw _ (List.mem_of_getElem? q)
  intro p e s m below meth c s₁ hx hby hml hown hnm hret hlk hZ X0 e0
  refine Go.cast (ef_12 m eb (8 : Int32)) ?_
  show Go p e below _ s₁ (mkF m 0 #[.val (.ref eb), .val (.int (8 : Int32)), .unset] [])
  refine Go.iloadN X0 hx (hb hby d12_0) rfl rfl  ?_
  refine Go.aloadN X0 hx (hb hby d12_1) rfl rfl rfl ?_
  refine Go.alen X0 hx hZ Vb e0 (hb hby d12_2) rfl ?_
  refine Go.icmpYes X0 hx (hb hby d12_3) rfl 14 (feq (by decide : ¬ ((8 : Int32) = (4 : Int32)))).2 (by decide) (by decide) ?_
  refine Go.iloadN X0 hx (hb hby d12_14) rfl rfl  ?_
  refine Go.newP X0 hx hZ (wd 21 rfl) e0 8 (by decide) 8 (by decide) (by decide) (Nat.le_of_ble_eq_true rfl) (Nat.le_of_ble_eq_true rfl) "[I" (by decide) (hb hby d12_15) rfl ?_
  intro T1 h1 b1 k1 g1 X1 e1 E1 V1' A1
  have V1 : Arv Z h1 b1 k1 .int (8 : Int32) [(.int (0 : Int32)), (.int (0 : Int32)), (.int (0 : Int32)), (.int (0 : Int32)), (.int (0 : Int32)), (.int (0 : Int32)), (.int (0 : Int32)), (.int (0 : Int32))] (.int (0 : Int32)) := V1'
  have q1 : Z.heap.size ≤ b1 := Nat.le_trans O0.2.1 (Nat.le_of_eq g1.symm)
  have z1 : h0.size ≤ b1 := Nat.le_trans (Keep.refl h0 []).1 (Nat.le_of_eq g1.symm)
  have ne_eb_b1 : eb ≠ b1 := Nat.ne_of_lt (Nat.lt_of_lt_of_le Vb.lt (Nat.le_of_eq g1.symm))
  have K2 := (Keep.refl h0 []).ext E1
  have O3 := O0.ext E1
  have V4 := Vb.ext E1
  refine Go.astoreN X1 hx (hb hby d12_17) rfl rfl #[.val (.ref eb), .val (.int (8 : Int32)), .val (.ref b1)] rfl ?_
  refine Go.aloadN X1 hx (hb hby d12_18) rfl rfl rfl ?_
  refine Go.iconst X1 hx (hb hby d12_19) rfl (0 : Int32) rfl ?_
  refine Go.aloadN X1 hx (hb hby d12_20) rfl rfl rfl ?_
  refine Go.iconst X1 hx (hb hby d12_21) rfl (0 : Int32) rfl ?_
  refine Go.aloadN X1 hx (hb hby d12_22) rfl rfl rfl ?_
  refine Go.alen X1 hx hZ V4 e1 (hb hby d12_23) rfl ?_
  refine Go.iloadN X1 hx (hb hby d12_24) rfl rfl  ?_
  refine Go.pureS X1 hx hZ hown (wd 61 rfl) (wd 46 rfl) (wd 47 rfl) (wd 48 rfl) (by decide) [(.int (4 : Int32)), (.int (8 : Int32))] [(.int (0 : Int32)), (.ref b1), (.int (0 : Int32)), (.ref eb)] (isMin48 l Z a0 hw h1) e1 rfl (by rw [hml]; rfl) pd_2 rfl (hb hby d12_25) (Nat.le_of_ble_eq_true rfl) (Nat.le_of_ble_eq_true rfl) (Nat.le_of_ble_eq_true rfl) (Nat.le_of_ble_eq_true rfl) ?_
  intro T5 X5 e5
  show Go p e below _ T5 (mkF m 28 #[.val (.ref eb), .val (.int (8 : Int32)), .val (.ref b1)] [(.int (4 : Int32)), (.int (0 : Int32)), (.ref b1), (.int (0 : Int32)), (.ref eb)])
  obtain ⟨T6, h6, L6, X6, e6, N6, K6, V6', st6⟩ := cpA X5 hx hZ hown (wd 62 rfl) (wd 65 rfl) (wd 63 rfl) (wd 64 rfl) e5 V4 V1 (sp := 0) (dp := 0) (nn := 4) (us := [(.int u0), (.int u1), (.int u2), (.int u3)]) (Or.inl ⟨rfl, rfl⟩) (by decide) (by decide) (by decide) (by decide) (by decide) (by first | rfl | decide) (by decide) (Fr.nil _) q1 (g := (mkF m 28 #[.val (.ref eb), .val (.int (8 : Int32)), .val (.ref b1)] [(.int (4 : Int32)), (.int (0 : Int32)), (.ref b1), (.int (0 : Int32)), (.ref eb)])) rfl (by rw [hml]; rfl) (rest := []) rfl (hb hby d12_28) (Nat.le_of_ble_eq_true rfl) (W := 0) (Nat.le_of_ble_eq_true rfl) (by rw [own_nfw]; exact (Nat.le_of_ble_eq_true rfl))
  refine Go.of st6 ?_
  have O7 := O3.keep K6 (allS q1 (all0))
  have K8 := Keep.trans K2 K6 (allS (Or.inr z1) (all0))
  have V9 := V4.keep K6 (ninS ne_eb_b1 (nin0))
  have V6 : Arv Z h6 b1 k1 .int (8 : Int32) [(.int u0), (.int u1), (.int u2), (.int u3), (.int (0 : Int32)), (.int (0 : Int32)), (.int (0 : Int32)), (.int (0 : Int32))] (.int (0 : Int32)) := V6'
  show Go p e below _ T6 (mkF m 31 #[.val (.ref eb), .val (.int (8 : Int32)), .val (.ref b1)] [])
  refine Go.aloadN X6 hx (hb hby d12_31) rfl rfl rfl ?_
  exact Go.retA X6 hx hret hlk rfl rfl (hb hby d12_32) rfl (by rw [e6]; exact ⟨b1, k1, rfl, N6, K8, z1, V6⟩) (Nat.le_of_ble_eq_true rfl) (Nat.le_of_ble_eq_true rfl)
theorem d13_0 : decode prog_46_method_9_code 0 = .ok (.aload_n 0, 1) := by decide +kernel
theorem d13_1 : decode prog_46_method_9_code 1 = .ok (.iload_n 1, 1) := by decide +kernel
theorem d13_2 : decode prog_46_method_9_code 2 = .ok (.invokestatic 19, 3) := by decide +kernel
theorem d13_5 : decode prog_46_method_9_code 5 = .ok (.putfield 16, 3) := by decide +kernel
theorem d13_8 : decode prog_46_method_9_code 8 = .ok (.iload_n 1, 1) := by decide +kernel
theorem d13_9 : decode prog_46_method_9_code 9 = .ok (.iconst 1, 1) := by decide +kernel
theorem d13_10 : decode prog_46_method_9_code 10 = .ok (.isub, 1) := by decide +kernel
theorem d13_11 : decode prog_46_method_9_code 11 = .ok (.istore_n 2, 1) := by decide +kernel
theorem d13_12 : decode prog_46_method_9_code 12 = .ok (.iconst 0, 1) := by decide +kernel
theorem d13_13 : decode prog_46_method_9_code 13 = .ok (.istore_n 3, 1) := by decide +kernel
theorem d13_14 : decode prog_46_method_9_code 14 = .ok (.iload_n 3, 1) := by decide +kernel
theorem d13_15 : decode prog_46_method_9_code 15 = .ok (.aload_n 0, 1) := by decide +kernel
theorem d13_16 : decode prog_46_method_9_code 16 = .ok (.getfield 27, 3) := by decide +kernel
theorem d13_19 : decode prog_46_method_9_code 19 = .ok (.if_icmp .ge 56, 3) := by decide +kernel
theorem d13_22 : decode prog_46_method_9_code 22 = .ok (.aload_n 0, 1) := by decide +kernel
theorem d13_23 : decode prog_46_method_9_code 23 = .ok (.getfield 13, 3) := by decide +kernel
theorem d13_26 : decode prog_46_method_9_code 26 = .ok (.iload_n 3, 1) := by decide +kernel
theorem d13_27 : decode prog_46_method_9_code 27 = .ok (.iaload, 1) := by decide +kernel
theorem d13_28 : decode prog_46_method_9_code 28 = .ok (.iload_n 2, 1) := by decide +kernel
theorem d13_29 : decode prog_46_method_9_code 29 = .ok (.invokestatic 23, 3) := by decide +kernel
theorem d13_32 : decode prog_46_method_9_code 32 = .ok (.istore 4, 2) := by decide +kernel
theorem d13_34 : decode prog_46_method_9_code 34 = .ok (.aload_n 0, 1) := by decide +kernel
theorem d13_35 : decode prog_46_method_9_code 35 = .ok (.getfield 16, 3) := by decide +kernel
theorem d13_38 : decode prog_46_method_9_code 38 = .ok (.iload 4, 2) := by decide +kernel
theorem d13_40 : decode prog_46_method_9_code 40 = .ok (.iaload, 1) := by decide +kernel
theorem d13_41 : decode prog_46_method_9_code 41 = .ok (.iconst (-1), 1) := by decide +kernel
theorem d13_42 : decode prog_46_method_9_code 42 = .ok (.if_icmp .eq 14, 3) := by decide +kernel
theorem d13_45 : decode prog_46_method_9_code 45 = .ok (.iload 4, 2) := by decide +kernel
theorem d13_47 : decode prog_46_method_9_code 47 = .ok (.iconst 1, 1) := by decide +kernel
theorem d13_48 : decode prog_46_method_9_code 48 = .ok (.iadd, 1) := by decide +kernel
theorem d13_49 : decode prog_46_method_9_code 49 = .ok (.iload_n 2, 1) := by decide +kernel
theorem d13_50 : decode prog_46_method_9_code 50 = .ok (.iand, 1) := by decide +kernel
theorem d13_51 : decode prog_46_method_9_code 51 = .ok (.istore 4, 2) := by decide +kernel
theorem d13_53 : decode prog_46_method_9_code 53 = .ok (.goto (-19), 3) := by decide +kernel
theorem d13_56 : decode prog_46_method_9_code 56 = .ok (.aload_n 0, 1) := by decide +kernel
theorem d13_57 : decode prog_46_method_9_code 57 = .ok (.getfield 16, 3) := by decide +kernel
theorem d13_60 : decode prog_46_method_9_code 60 = .ok (.iload 4, 2) := by decide +kernel
theorem d13_62 : decode prog_46_method_9_code 62 = .ok (.aload_n 0, 1) := by decide +kernel
theorem d13_63 : decode prog_46_method_9_code 63 = .ok (.getfield 13, 3) := by decide +kernel
theorem d13_66 : decode prog_46_method_9_code 66 = .ok (.iload_n 3, 1) := by decide +kernel
theorem d13_67 : decode prog_46_method_9_code 67 = .ok (.iaload, 1) := by decide +kernel
theorem d13_68 : decode prog_46_method_9_code 68 = .ok (.iastore, 1) := by decide +kernel
theorem d13_69 : decode prog_46_method_9_code 69 = .ok (.iinc 3 1, 3) := by decide +kernel
theorem d13_72 : decode prog_46_method_9_code 72 = .ok (.goto (-58), 3) := by decide +kernel
theorem d13_75 : decode prog_46_method_9_code 75 = .ok (.return_, 1) := by decide +kernel
theorem ef_13 (m : MethodId) (x0 : Addr) (x1 : Int32) : entryFrame m #[(.ref x0), (.int x1)] 5 = mkF m 0 #[.val (.ref x0), .val (.int x1), .unset, .unset, .unset] [] := by first | (simp [entryFrame, mkF, argsToLocals, Value.category]; done) | rfl
set_option maxRecDepth 65536 in
set_option maxHeartbeats 40000000 in
theorem isProbeR {p : Program} {l : Launch} {e : Env} {R : Room} {s : State} {m : MethodId} {args : Array Value} {below : List Frame} {meth : Method} {c : Code} {locs : List Loc} {cells slots : Nat} {Z : State} {a0 : Array Value} {P : Outcome → State → Prop} (hw : ∀ d ∈ tables_1, d.before a0 Z = true) (hx : p.tables.exec = Jvm.exec) (hby : c.code = prog_46_method_9_code) (hml : c.maxLocals = 5) (hown : s.vm.findClass "com/example/overrule/overrule/engine/IntSet" = some m.cls) (hZ : Z.Warmed39 s.vm) (a sl : Addr) (ks : ClassId) (ii : Int32) (t : List Int32) (h0 : Heap) (Fs : Fld Z h0 a "com/example/overrule/overrule/engine/IntSet" "slots" "[I" (.ref sl)) (Vs : Arv Z h0 sl ks .int (16 : Int32) (t.map Value.int) (.int (0 : Int32))) : ∀ (k : Nat) (j : Int32) (i : Nat) (T : State), Stand p l e R s m args below meth c T locs cells slots → T.heap = h0 → Ix (16 : Int32) j i → (∃ d, d < k ∧ t.getD ((i + d) % 16) 0 = -1) → (∀ (T' : State) (j' : Int32), Stand p l e R s m args below meth c T' locs cells slots → T'.heap = h0 → Ix (16 : Int32) j' (ffN t 16 k i) → Go p e below P T' (mkF m 56 #[.val (.ref a), .val (.int (16 : Int32)), .val (.int (15 : Int32)), .val (.int ii), .val (.int j')] [])) → Go p e below P T (mkF m 34 #[.val (.ref a), .val (.int (16 : Int32)), .val (.int (15 : Int32)), .val (.int ii), .val (.int j)] []) := by
  have wd : ∀ {d : Jvm.Cond} (i : Nat), tables_1[i]? = some d → d.before a0 Z = true := fun i q => hw _ (List.mem_of_getElem? q)
  intro k
  induction k with
  | zero => rintro j i T X e hj ⟨d, hd, -⟩; omega
  | succ k ih =>
    intro j i T9 X9 e9 hj hf K
    have hi : i < 16 := by have := hj.int; have h2 := Int32.lt_iff_toInt_lt.mp hj.2.1; rw [show (16 : Int32).toInt = 16 from by decide] at h2; omega
    show Go p e below _ T9 (mkF m 34 #[.val (.ref a), .val (.int (16 : Int32)), .val (.int (15 : Int32)), .val (.int ii), .val (.int j)] [])
    refine Go.aloadN X9 hx (hb hby d13_34) rfl rfl rfl ?_
    refine Go.getF X9 hx hZ hown (host := "") (Or.inl (wd 14 rfl)) Via.refl e9 Fs (hb hby d13_35) rfl ?_
    intro T1 X1 e1
    refine Go.iload X1 hx (hb hby d13_38) rfl rfl  ?_
    refine Go.iaload X1 hx hZ (.int (t.getD i 0)) Vs e1  ⟨hj.1, hj.2.1⟩ (own_getD hj.2.2) (hb hby d13_40) rfl ?_
    refine Go.iconst X1 hx (hb hby d13_41) rfl (-1 : Int32) rfl ?_
    by_cases hc2 : (t.getD i 0) = (-1 : Int32)
    · refine Go.icmpYes X1 hx (hb hby d13_42) rfl 56 (teq hc2).1 (by decide) (by decide) ?_
      show Go p e below _ T1 (mkF m 56 #[.val (.ref a), .val (.int (16 : Int32)), .val (.int (15 : Int32)), .val (.int ii), .val (.int j)] [])
      exact K _ _ X1 e1 (by unfold ffN; rw [if_pos hc2]; exact hj)
    · refine Go.icmpNo X1 hx (hb hby d13_42) rfl (feq hc2).1 ?_
      refine Go.iload X1 hx (hb hby d13_45) rfl rfl  ?_
      refine Go.iconst X1 hx (hb hby d13_47) rfl (1 : Int32) rfl ?_
      refine Go.iadd X1 hx (hb hby d13_48) rfl ?_
      refine Go.iloadN X1 hx (hb hby d13_49) rfl rfl  ?_
      refine Go.iand X1 hx (hb hby d13_50) rfl ?_
      refine Go.istore X1 hx (hb hby d13_51) rfl  #[.val (.ref a), .val (.int (16 : Int32)), .val (.int (15 : Int32)), .val (.int ii), .val (.int ((j + (1 : Int32)) &&& (15 : Int32)))] rfl ?_
      refine Go.goto X1 hx (hb hby d13_53) rfl 34 (by decide) (by decide) ?_
      show Go p e below _ T1 (mkF m 34 #[.val (.ref a), .val (.int (16 : Int32)), .val (.int (15 : Int32)), .val (.int ii), .val (.int ((j + (1 : Int32)) &&& (15 : Int32)))] [])
      refine ih _ ((i + 1) % 16) _ X1 e1 (ix_next (b := 4) (by decide) rfl (by decide) (by decide) hj) ?_ ?_
      · obtain ⟨d, hd, hv⟩ := hf
        cases d with
        | zero => rw [Nat.add_zero, Nat.mod_eq_of_lt hi] at hv; exact absurd hv hc2
        | succ d => exact ⟨d, by omega, by rw [step_mod]; exact hv⟩
      · intro T' j' X' e' hj'
        refine K T' j' X' e' ?_
        unfold ffN; rw [if_neg hc2]; exact hj'
set_option maxRecDepth 65536 in
set_option maxHeartbeats 40000000 in
theorem isFill16 (l : Launch) (Z : State) (a0 : Array Value) (hw : ∀ d ∈ tables_1, d.before a0 Z = true) (g : Addr) (kg : ClassId) (y : Int32) (h0 : Heap) (O0 : Old Z Z.heap.size h0) (gg : Z.heap.size ≤ g) (Vg : Arv Z h0 g kg .int (16 : Int32) [(.int (0 : Int32)), (.int (0 : Int32)), (.int (0 : Int32)), (.int (0 : Int32)), (.int (0 : Int32)), (.int (0 : Int32)), (.int (0 : Int32)), (.int (0 : Int32)), (.int (0 : Int32)), (.int (0 : Int32)), (.int (0 : Int32)), (.int (0 : Int32)), (.int (0 : Int32)), (.int (0 : Int32)), (.int (0 : Int32)), (.int (0 : Int32))] (.int (0 : Int32))) : Ctr l Z (⟨"java/util/Arrays", "fill", "([II)V"⟩ : MethodName) jdk_65_method_103_code 4 none ({ frames := 0, cells := 0, slots := 0, locals := 0 } : Room) #[(.ref g), (.int y)] h0 (fun v h L => v = none ∧ Fr Z.heap.size L ∧ Keep h0 h [g] ∧ Arv Z h g kg .int (16 : Int32) [(.int y), (.int y), (.int y), (.int y), (.int y), (.int y), (.int y), (.int y), (.int y), (.int y), (.int y), (.int y), (.int y), (.int y), (.int y), (.int y)] (.int (0 : Int32))) := by
  refine Ctr.of (plainFor_of_name pn_5) ?_
  have wd : ∀ {d : Jvm.Cond} (i : Nat), tables_1[i]? = some d → d.before a0 Z = true := fun i q => hw _ (List.mem_of_getElem? q)
  intro p e s m below meth c s₁ hx hby hml hown hnm hret hlk hZ X0 e0
  refine Go.cast (ef_5 m g y) ?_
  show Go p e below _ s₁ (mkF m 0 #[.val (.ref g), .val (.int y), .unset, .unset] [])
  refine Go.iconst X0 hx (hb hby d5_0) rfl (0 : Int32) rfl ?_
  refine Go.istoreN X0 hx (hb hby d5_1) rfl  #[.val (.ref g), .val (.int y), .val (.int (0 : Int32)), .unset] rfl ?_
  refine Go.aloadN X0 hx (hb hby d5_2) rfl rfl rfl ?_
  refine Go.alen X0 hx hZ Vg e0 (hb hby d5_3) rfl ?_
  refine Go.istoreN X0 hx (hb hby d5_4) rfl  #[.val (.ref g), .val (.int y), .val (.int (0 : Int32)), .val (.int (16 : Int32))] rfl ?_
  refine Go.iloadN X0 hx (hb hby d5_5) rfl rfl  ?_
  refine Go.iloadN X0 hx (hb hby d5_6) rfl rfl  ?_
  refine Go.icmpNo X0 hx (hb hby d5_7) rfl (tlt (by decide : (0 : Int32) < (16 : Int32))).2.1 ?_
  refine Go.aloadN X0 hx (hb hby d5_10) rfl rfl rfl ?_
  refine Go.iloadN X0 hx (hb hby d5_11) rfl rfl  ?_
  refine Go.iloadN X0 hx (hb hby d5_12) rfl rfl  ?_
  refine Go.iastore X0 hx hZ Vg e0 ⟨by decide, by decide⟩ 0 (by decide) (Nat.le_of_ble_eq_true rfl)  (hb hby d5_13) rfl ?_
  intro T1 h1 X1 e1 W1 V1'
  have V1 : Arv Z h1 g kg .int (16 : Int32) [(.int y), (.int (0 : Int32)), (.int (0 : Int32)), (.int (0 : Int32)), (.int (0 : Int32)), (.int (0 : Int32)), (.int (0 : Int32)), (.int (0 : Int32)), (.int (0 : Int32)), (.int (0 : Int32)), (.int (0 : Int32)), (.int (0 : Int32)), (.int (0 : Int32)), (.int (0 : Int32)), (.int (0 : Int32)), (.int (0 : Int32))] (.int (0 : Int32)) := V1'
  have K2 := (Keep.refl h0 [g]).wr W1 (Or.inl (List.mem_of_getElem? (i := 0) rfl))
  have O3 := O0.wr W1 gg
  have N4 := Fr.snoc X1 (Fr.nil _) gg
  refine Go.iinc X1 hx (hb hby d5_14) rfl rfl #[.val (.ref g), .val (.int y), .val (.int ((0 : Int32) + (1 : Int32))), .val (.int (16 : Int32))] rfl ?_
  show Go p e below _ T1 (mkF m 17 #[.val (.ref g), .val (.int y), .val (.int ((0 : Int32) + (1 : Int32))), .val (.int (16 : Int32))] [])
  rw [show ((0 : Int32) + (1 : Int32)) = (1 : Int32) from by decide]
  show Go p e below _ T1 (mkF m 17 #[.val (.ref g), .val (.int y), .val (.int (1 : Int32)), .val (.int (16 : Int32))] [])
  refine Go.goto X1 hx (hb hby d5_17) rfl 5 (by decide) (by decide) ?_
  refine Go.iloadN X1 hx (hb hby d5_5) rfl rfl  ?_
  refine Go.iloadN X1 hx (hb hby d5_6) rfl rfl  ?_
  refine Go.icmpNo X1 hx (hb hby d5_7) rfl (tlt (by decide : (1 : Int32) < (16 : Int32))).2.1 ?_
  refine Go.aloadN X1 hx (hb hby d5_10) rfl rfl rfl ?_
  refine Go.iloadN X1 hx (hb hby d5_11) rfl rfl  ?_
  refine Go.iloadN X1 hx (hb hby d5_12) rfl rfl  ?_
  refine Go.iastore X1 hx hZ V1 e1 ⟨by decide, by decide⟩ 1 (by decide) (Nat.le_of_ble_eq_true rfl)  (hb hby d5_13) rfl ?_
  intro T5 h5 X5 e5 W5 V5'
  have V5 : Arv Z h5 g kg .int (16 : Int32) [(.int y), (.int y), (.int (0 : Int32)), (.int (0 : Int32)), (.int (0 : Int32)), (.int (0 : Int32)), (.int (0 : Int32)), (.int (0 : Int32)), (.int (0 : Int32)), (.int (0 : Int32)), (.int (0 : Int32)), (.int (0 : Int32)), (.int (0 : Int32)), (.int (0 : Int32)), (.int (0 : Int32)), (.int (0 : Int32))] (.int (0 : Int32)) := V5'
  have K6 := K2.wr W5 (Or.inl (List.mem_of_getElem? (i := 0) rfl))
  have O7 := O3.wr W5 gg
  have N8 := Fr.snoc X5 N4 gg
  refine Go.iinc X5 hx (hb hby d5_14) rfl rfl #[.val (.ref g), .val (.int y), .val (.int ((1 : Int32) + (1 : Int32))), .val (.int (16 : Int32))] rfl ?_
  show Go p e below _ T5 (mkF m 17 #[.val (.ref g), .val (.int y), .val (.int ((1 : Int32) + (1 : Int32))), .val (.int (16 : Int32))] [])
  rw [show ((1 : Int32) + (1 : Int32)) = (2 : Int32) from by decide]
  show Go p e below _ T5 (mkF m 17 #[.val (.ref g), .val (.int y), .val (.int (2 : Int32)), .val (.int (16 : Int32))] [])
  refine Go.goto X5 hx (hb hby d5_17) rfl 5 (by decide) (by decide) ?_
  refine Go.iloadN X5 hx (hb hby d5_5) rfl rfl  ?_
  refine Go.iloadN X5 hx (hb hby d5_6) rfl rfl  ?_
  refine Go.icmpNo X5 hx (hb hby d5_7) rfl (tlt (by decide : (2 : Int32) < (16 : Int32))).2.1 ?_
  refine Go.aloadN X5 hx (hb hby d5_10) rfl rfl rfl ?_
  refine Go.iloadN X5 hx (hb hby d5_11) rfl rfl  ?_
  refine Go.iloadN X5 hx (hb hby d5_12) rfl rfl  ?_
  refine Go.iastore X5 hx hZ V5 e5 ⟨by decide, by decide⟩ 2 (by decide) (Nat.le_of_ble_eq_true rfl)  (hb hby d5_13) rfl ?_
  intro T9 h9 X9 e9 W9 V9'
  have V9 : Arv Z h9 g kg .int (16 : Int32) [(.int y), (.int y), (.int y), (.int (0 : Int32)), (.int (0 : Int32)), (.int (0 : Int32)), (.int (0 : Int32)), (.int (0 : Int32)), (.int (0 : Int32)), (.int (0 : Int32)), (.int (0 : Int32)), (.int (0 : Int32)), (.int (0 : Int32)), (.int (0 : Int32)), (.int (0 : Int32)), (.int (0 : Int32))] (.int (0 : Int32)) := V9'
  have K10 := K6.wr W9 (Or.inl (List.mem_of_getElem? (i := 0) rfl))
  have O11 := O7.wr W9 gg
  have N12 := Fr.snoc X9 N8 gg
  refine Go.iinc X9 hx (hb hby d5_14) rfl rfl #[.val (.ref g), .val (.int y), .val (.int ((2 : Int32) + (1 : Int32))), .val (.int (16 : Int32))] rfl ?_
  show Go p e below _ T9 (mkF m 17 #[.val (.ref g), .val (.int y), .val (.int ((2 : Int32) + (1 : Int32))), .val (.int (16 : Int32))] [])
  rw [show ((2 : Int32) + (1 : Int32)) = (3 : Int32) from by decide]
  show Go p e below _ T9 (mkF m 17 #[.val (.ref g), .val (.int y), .val (.int (3 : Int32)), .val (.int (16 : Int32))] [])
  refine Go.goto X9 hx (hb hby d5_17) rfl 5 (by decide) (by decide) ?_
  refine Go.iloadN X9 hx (hb hby d5_5) rfl rfl  ?_
  refine Go.iloadN X9 hx (hb hby d5_6) rfl rfl  ?_
  refine Go.icmpNo X9 hx (hb hby d5_7) rfl (tlt (by decide : (3 : Int32) < (16 : Int32))).2.1 ?_
  refine Go.aloadN X9 hx (hb hby d5_10) rfl rfl rfl ?_
  refine Go.iloadN X9 hx (hb hby d5_11) rfl rfl  ?_
  refine Go.iloadN X9 hx (hb hby d5_12) rfl rfl  ?_
  refine Go.iastore X9 hx hZ V9 e9 ⟨by decide, by decide⟩ 3 (by decide) (Nat.le_of_ble_eq_true rfl)  (hb hby d5_13) rfl ?_
  intro T13 h13 X13 e13 W13 V13'
  have V13 : Arv Z h13 g kg .int (16 : Int32) [(.int y), (.int y), (.int y), (.int y), (.int (0 : Int32)), (.int (0 : Int32)), (.int (0 : Int32)), (.int (0 : Int32)), (.int (0 : Int32)), (.int (0 : Int32)), (.int (0 : Int32)), (.int (0 : Int32)), (.int (0 : Int32)), (.int (0 : Int32)), (.int (0 : Int32)), (.int (0 : Int32))] (.int (0 : Int32)) := V13'
  have K14 := K10.wr W13 (Or.inl (List.mem_of_getElem? (i := 0) rfl))
  have O15 := O11.wr W13 gg
  have N16 := Fr.snoc X13 N12 gg
  refine Go.iinc X13 hx (hb hby d5_14) rfl rfl #[.val (.ref g), .val (.int y), .val (.int ((3 : Int32) + (1 : Int32))), .val (.int (16 : Int32))] rfl ?_
  show Go p e below _ T13 (mkF m 17 #[.val (.ref g), .val (.int y), .val (.int ((3 : Int32) + (1 : Int32))), .val (.int (16 : Int32))] [])
  rw [show ((3 : Int32) + (1 : Int32)) = (4 : Int32) from by decide]
  show Go p e below _ T13 (mkF m 17 #[.val (.ref g), .val (.int y), .val (.int (4 : Int32)), .val (.int (16 : Int32))] [])
  refine Go.goto X13 hx (hb hby d5_17) rfl 5 (by decide) (by decide) ?_
  refine Go.iloadN X13 hx (hb hby d5_5) rfl rfl  ?_
  refine Go.iloadN X13 hx (hb hby d5_6) rfl rfl  ?_
  refine Go.icmpNo X13 hx (hb hby d5_7) rfl (tlt (by decide : (4 : Int32) < (16 : Int32))).2.1 ?_
  refine Go.aloadN X13 hx (hb hby d5_10) rfl rfl rfl ?_
  refine Go.iloadN X13 hx (hb hby d5_11) rfl rfl  ?_
  refine Go.iloadN X13 hx (hb hby d5_12) rfl rfl  ?_
  refine Go.iastore X13 hx hZ V13 e13 ⟨by decide, by decide⟩ 4 (by decide) (Nat.le_of_ble_eq_true rfl)  (hb hby d5_13) rfl ?_
  intro T17 h17 X17 e17 W17 V17'
  have V17 : Arv Z h17 g kg .int (16 : Int32) [(.int y), (.int y), (.int y), (.int y), (.int y), (.int (0 : Int32)), (.int (0 : Int32)), (.int (0 : Int32)), (.int (0 : Int32)), (.int (0 : Int32)), (.int (0 : Int32)), (.int (0 : Int32)), (.int (0 : Int32)), (.int (0 : Int32)), (.int (0 : Int32)), (.int (0 : Int32))] (.int (0 : Int32)) := V17'
  have K18 := K14.wr W17 (Or.inl (List.mem_of_getElem? (i := 0) rfl))
  have O19 := O15.wr W17 gg
  have N20 := Fr.snoc X17 N16 gg
  refine Go.iinc X17 hx (hb hby d5_14) rfl rfl #[.val (.ref g), .val (.int y), .val (.int ((4 : Int32) + (1 : Int32))), .val (.int (16 : Int32))] rfl ?_
  show Go p e below _ T17 (mkF m 17 #[.val (.ref g), .val (.int y), .val (.int ((4 : Int32) + (1 : Int32))), .val (.int (16 : Int32))] [])
  rw [show ((4 : Int32) + (1 : Int32)) = (5 : Int32) from by decide]
  show Go p e below _ T17 (mkF m 17 #[.val (.ref g), .val (.int y), .val (.int (5 : Int32)), .val (.int (16 : Int32))] [])
  refine Go.goto X17 hx (hb hby d5_17) rfl 5 (by decide) (by decide) ?_
  refine Go.iloadN X17 hx (hb hby d5_5) rfl rfl  ?_
  refine Go.iloadN X17 hx (hb hby d5_6) rfl rfl  ?_
  refine Go.icmpNo X17 hx (hb hby d5_7) rfl (tlt (by decide : (5 : Int32) < (16 : Int32))).2.1 ?_
  refine Go.aloadN X17 hx (hb hby d5_10) rfl rfl rfl ?_
  refine Go.iloadN X17 hx (hb hby d5_11) rfl rfl  ?_
  refine Go.iloadN X17 hx (hb hby d5_12) rfl rfl  ?_
  refine Go.iastore X17 hx hZ V17 e17 ⟨by decide, by decide⟩ 5 (by decide) (Nat.le_of_ble_eq_true rfl)  (hb hby d5_13) rfl ?_
  intro T21 h21 X21 e21 W21 V21'
  have V21 : Arv Z h21 g kg .int (16 : Int32) [(.int y), (.int y), (.int y), (.int y), (.int y), (.int y), (.int (0 : Int32)), (.int (0 : Int32)), (.int (0 : Int32)), (.int (0 : Int32)), (.int (0 : Int32)), (.int (0 : Int32)), (.int (0 : Int32)), (.int (0 : Int32)), (.int (0 : Int32)), (.int (0 : Int32))] (.int (0 : Int32)) := V21'
  have K22 := K18.wr W21 (Or.inl (List.mem_of_getElem? (i := 0) rfl))
  have O23 := O19.wr W21 gg
  have N24 := Fr.snoc X21 N20 gg
  refine Go.iinc X21 hx (hb hby d5_14) rfl rfl #[.val (.ref g), .val (.int y), .val (.int ((5 : Int32) + (1 : Int32))), .val (.int (16 : Int32))] rfl ?_
  show Go p e below _ T21 (mkF m 17 #[.val (.ref g), .val (.int y), .val (.int ((5 : Int32) + (1 : Int32))), .val (.int (16 : Int32))] [])
  rw [show ((5 : Int32) + (1 : Int32)) = (6 : Int32) from by decide]
  show Go p e below _ T21 (mkF m 17 #[.val (.ref g), .val (.int y), .val (.int (6 : Int32)), .val (.int (16 : Int32))] [])
  refine Go.goto X21 hx (hb hby d5_17) rfl 5 (by decide) (by decide) ?_
  refine Go.iloadN X21 hx (hb hby d5_5) rfl rfl  ?_
  refine Go.iloadN X21 hx (hb hby d5_6) rfl rfl  ?_
  refine Go.icmpNo X21 hx (hb hby d5_7) rfl (tlt (by decide : (6 : Int32) < (16 : Int32))).2.1 ?_
  refine Go.aloadN X21 hx (hb hby d5_10) rfl rfl rfl ?_
  refine Go.iloadN X21 hx (hb hby d5_11) rfl rfl  ?_
  refine Go.iloadN X21 hx (hb hby d5_12) rfl rfl  ?_
  refine Go.iastore X21 hx hZ V21 e21 ⟨by decide, by decide⟩ 6 (by decide) (Nat.le_of_ble_eq_true rfl)  (hb hby d5_13) rfl ?_
  intro T25 h25 X25 e25 W25 V25'
  have V25 : Arv Z h25 g kg .int (16 : Int32) [(.int y), (.int y), (.int y), (.int y), (.int y), (.int y), (.int y), (.int (0 : Int32)), (.int (0 : Int32)), (.int (0 : Int32)), (.int (0 : Int32)), (.int (0 : Int32)), (.int (0 : Int32)), (.int (0 : Int32)), (.int (0 : Int32)), (.int (0 : Int32))] (.int (0 : Int32)) := V25'
  have K26 := K22.wr W25 (Or.inl (List.mem_of_getElem? (i := 0) rfl))
  have O27 := O23.wr W25 gg
  have N28 := Fr.snoc X25 N24 gg
  refine Go.iinc X25 hx (hb hby d5_14) rfl rfl #[.val (.ref g), .val (.int y), .val (.int ((6 : Int32) + (1 : Int32))), .val (.int (16 : Int32))] rfl ?_
  show Go p e below _ T25 (mkF m 17 #[.val (.ref g), .val (.int y), .val (.int ((6 : Int32) + (1 : Int32))), .val (.int (16 : Int32))] [])
  rw [show ((6 : Int32) + (1 : Int32)) = (7 : Int32) from by decide]
  show Go p e below _ T25 (mkF m 17 #[.val (.ref g), .val (.int y), .val (.int (7 : Int32)), .val (.int (16 : Int32))] [])
  refine Go.goto X25 hx (hb hby d5_17) rfl 5 (by decide) (by decide) ?_
  refine Go.iloadN X25 hx (hb hby d5_5) rfl rfl  ?_
  refine Go.iloadN X25 hx (hb hby d5_6) rfl rfl  ?_
  refine Go.icmpNo X25 hx (hb hby d5_7) rfl (tlt (by decide : (7 : Int32) < (16 : Int32))).2.1 ?_
  refine Go.aloadN X25 hx (hb hby d5_10) rfl rfl rfl ?_
  refine Go.iloadN X25 hx (hb hby d5_11) rfl rfl  ?_
  refine Go.iloadN X25 hx (hb hby d5_12) rfl rfl  ?_
  refine Go.iastore X25 hx hZ V25 e25 ⟨by decide, by decide⟩ 7 (by decide) (Nat.le_of_ble_eq_true rfl)  (hb hby d5_13) rfl ?_
  intro T29 h29 X29 e29 W29 V29'
  have V29 : Arv Z h29 g kg .int (16 : Int32) [(.int y), (.int y), (.int y), (.int y), (.int y), (.int y), (.int y), (.int y), (.int (0 : Int32)), (.int (0 : Int32)), (.int (0 : Int32)), (.int (0 : Int32)), (.int (0 : Int32)), (.int (0 : Int32)), (.int (0 : Int32)), (.int (0 : Int32))] (.int (0 : Int32)) := V29'
  have K30 := K26.wr W29 (Or.inl (List.mem_of_getElem? (i := 0) rfl))
  have O31 := O27.wr W29 gg
  have N32 := Fr.snoc X29 N28 gg
  refine Go.iinc X29 hx (hb hby d5_14) rfl rfl #[.val (.ref g), .val (.int y), .val (.int ((7 : Int32) + (1 : Int32))), .val (.int (16 : Int32))] rfl ?_
  show Go p e below _ T29 (mkF m 17 #[.val (.ref g), .val (.int y), .val (.int ((7 : Int32) + (1 : Int32))), .val (.int (16 : Int32))] [])
  rw [show ((7 : Int32) + (1 : Int32)) = (8 : Int32) from by decide]
  show Go p e below _ T29 (mkF m 17 #[.val (.ref g), .val (.int y), .val (.int (8 : Int32)), .val (.int (16 : Int32))] [])
  refine Go.goto X29 hx (hb hby d5_17) rfl 5 (by decide) (by decide) ?_
  refine Go.iloadN X29 hx (hb hby d5_5) rfl rfl  ?_
  refine Go.iloadN X29 hx (hb hby d5_6) rfl rfl  ?_
  refine Go.icmpNo X29 hx (hb hby d5_7) rfl (tlt (by decide : (8 : Int32) < (16 : Int32))).2.1 ?_
  refine Go.aloadN X29 hx (hb hby d5_10) rfl rfl rfl ?_
  refine Go.iloadN X29 hx (hb hby d5_11) rfl rfl  ?_
  refine Go.iloadN X29 hx (hb hby d5_12) rfl rfl  ?_
  refine Go.iastore X29 hx hZ V29 e29 ⟨by decide, by decide⟩ 8 (by decide) (Nat.le_of_ble_eq_true rfl)  (hb hby d5_13) rfl ?_
  intro T33 h33 X33 e33 W33 V33'
  have V33 : Arv Z h33 g kg .int (16 : Int32) [(.int y), (.int y), (.int y), (.int y), (.int y), (.int y), (.int y), (.int y), (.int y), (.int (0 : Int32)), (.int (0 : Int32)), (.int (0 : Int32)), (.int (0 : Int32)), (.int (0 : Int32)), (.int (0 : Int32)), (.int (0 : Int32))] (.int (0 : Int32)) := V33'
  have K34 := K30.wr W33 (Or.inl (List.mem_of_getElem? (i := 0) rfl))
  have O35 := O31.wr W33 gg
  have N36 := Fr.snoc X33 N32 gg
  refine Go.iinc X33 hx (hb hby d5_14) rfl rfl #[.val (.ref g), .val (.int y), .val (.int ((8 : Int32) + (1 : Int32))), .val (.int (16 : Int32))] rfl ?_
  show Go p e below _ T33 (mkF m 17 #[.val (.ref g), .val (.int y), .val (.int ((8 : Int32) + (1 : Int32))), .val (.int (16 : Int32))] [])
  rw [show ((8 : Int32) + (1 : Int32)) = (9 : Int32) from by decide]
  show Go p e below _ T33 (mkF m 17 #[.val (.ref g), .val (.int y), .val (.int (9 : Int32)), .val (.int (16 : Int32))] [])
  refine Go.goto X33 hx (hb hby d5_17) rfl 5 (by decide) (by decide) ?_
  refine Go.iloadN X33 hx (hb hby d5_5) rfl rfl  ?_
  refine Go.iloadN X33 hx (hb hby d5_6) rfl rfl  ?_
  refine Go.icmpNo X33 hx (hb hby d5_7) rfl (tlt (by decide : (9 : Int32) < (16 : Int32))).2.1 ?_
  refine Go.aloadN X33 hx (hb hby d5_10) rfl rfl rfl ?_
  refine Go.iloadN X33 hx (hb hby d5_11) rfl rfl  ?_
  refine Go.iloadN X33 hx (hb hby d5_12) rfl rfl  ?_
  refine Go.iastore X33 hx hZ V33 e33 ⟨by decide, by decide⟩ 9 (by decide) (Nat.le_of_ble_eq_true rfl)  (hb hby d5_13) rfl ?_
  intro T37 h37 X37 e37 W37 V37'
  have V37 : Arv Z h37 g kg .int (16 : Int32) [(.int y), (.int y), (.int y), (.int y), (.int y), (.int y), (.int y), (.int y), (.int y), (.int y), (.int (0 : Int32)), (.int (0 : Int32)), (.int (0 : Int32)), (.int (0 : Int32)), (.int (0 : Int32)), (.int (0 : Int32))] (.int (0 : Int32)) := V37'
  have K38 := K34.wr W37 (Or.inl (List.mem_of_getElem? (i := 0) rfl))
  have O39 := O35.wr W37 gg
  have N40 := Fr.snoc X37 N36 gg
  refine Go.iinc X37 hx (hb hby d5_14) rfl rfl #[.val (.ref g), .val (.int y), .val (.int ((9 : Int32) + (1 : Int32))), .val (.int (16 : Int32))] rfl ?_
  show Go p e below _ T37 (mkF m 17 #[.val (.ref g), .val (.int y), .val (.int ((9 : Int32) + (1 : Int32))), .val (.int (16 : Int32))] [])
  rw [show ((9 : Int32) + (1 : Int32)) = (10 : Int32) from by decide]
  show Go p e below _ T37 (mkF m 17 #[.val (.ref g), .val (.int y), .val (.int (10 : Int32)), .val (.int (16 : Int32))] [])
  refine Go.goto X37 hx (hb hby d5_17) rfl 5 (by decide) (by decide) ?_
  refine Go.iloadN X37 hx (hb hby d5_5) rfl rfl  ?_
  refine Go.iloadN X37 hx (hb hby d5_6) rfl rfl  ?_
  refine Go.icmpNo X37 hx (hb hby d5_7) rfl (tlt (by decide : (10 : Int32) < (16 : Int32))).2.1 ?_
  refine Go.aloadN X37 hx (hb hby d5_10) rfl rfl rfl ?_
  refine Go.iloadN X37 hx (hb hby d5_11) rfl rfl  ?_
  refine Go.iloadN X37 hx (hb hby d5_12) rfl rfl  ?_
  refine Go.iastore X37 hx hZ V37 e37 ⟨by decide, by decide⟩ 10 (by decide) (Nat.le_of_ble_eq_true rfl)  (hb hby d5_13) rfl ?_
  intro T41 h41 X41 e41 W41 V41'
  have V41 : Arv Z h41 g kg .int (16 : Int32) [(.int y), (.int y), (.int y), (.int y), (.int y), (.int y), (.int y), (.int y), (.int y), (.int y), (.int y), (.int (0 : Int32)), (.int (0 : Int32)), (.int (0 : Int32)), (.int (0 : Int32)), (.int (0 : Int32))] (.int (0 : Int32)) := V41'
  have K42 := K38.wr W41 (Or.inl (List.mem_of_getElem? (i := 0) rfl))
  have O43 := O39.wr W41 gg
  have N44 := Fr.snoc X41 N40 gg
  refine Go.iinc X41 hx (hb hby d5_14) rfl rfl #[.val (.ref g), .val (.int y), .val (.int ((10 : Int32) + (1 : Int32))), .val (.int (16 : Int32))] rfl ?_
  show Go p e below _ T41 (mkF m 17 #[.val (.ref g), .val (.int y), .val (.int ((10 : Int32) + (1 : Int32))), .val (.int (16 : Int32))] [])
  rw [show ((10 : Int32) + (1 : Int32)) = (11 : Int32) from by decide]
  show Go p e below _ T41 (mkF m 17 #[.val (.ref g), .val (.int y), .val (.int (11 : Int32)), .val (.int (16 : Int32))] [])
  refine Go.goto X41 hx (hb hby d5_17) rfl 5 (by decide) (by decide) ?_
  refine Go.iloadN X41 hx (hb hby d5_5) rfl rfl  ?_
  refine Go.iloadN X41 hx (hb hby d5_6) rfl rfl  ?_
  refine Go.icmpNo X41 hx (hb hby d5_7) rfl (tlt (by decide : (11 : Int32) < (16 : Int32))).2.1 ?_
  refine Go.aloadN X41 hx (hb hby d5_10) rfl rfl rfl ?_
  refine Go.iloadN X41 hx (hb hby d5_11) rfl rfl  ?_
  refine Go.iloadN X41 hx (hb hby d5_12) rfl rfl  ?_
  refine Go.iastore X41 hx hZ V41 e41 ⟨by decide, by decide⟩ 11 (by decide) (Nat.le_of_ble_eq_true rfl)  (hb hby d5_13) rfl ?_
  intro T45 h45 X45 e45 W45 V45'
  have V45 : Arv Z h45 g kg .int (16 : Int32) [(.int y), (.int y), (.int y), (.int y), (.int y), (.int y), (.int y), (.int y), (.int y), (.int y), (.int y), (.int y), (.int (0 : Int32)), (.int (0 : Int32)), (.int (0 : Int32)), (.int (0 : Int32))] (.int (0 : Int32)) := V45'
  have K46 := K42.wr W45 (Or.inl (List.mem_of_getElem? (i := 0) rfl))
  have O47 := O43.wr W45 gg
  have N48 := Fr.snoc X45 N44 gg
  refine Go.iinc X45 hx (hb hby d5_14) rfl rfl #[.val (.ref g), .val (.int y), .val (.int ((11 : Int32) + (1 : Int32))), .val (.int (16 : Int32))] rfl ?_
  show Go p e below _ T45 (mkF m 17 #[.val (.ref g), .val (.int y), .val (.int ((11 : Int32) + (1 : Int32))), .val (.int (16 : Int32))] [])
  rw [show ((11 : Int32) + (1 : Int32)) = (12 : Int32) from by decide]
  show Go p e below _ T45 (mkF m 17 #[.val (.ref g), .val (.int y), .val (.int (12 : Int32)), .val (.int (16 : Int32))] [])
  refine Go.goto X45 hx (hb hby d5_17) rfl 5 (by decide) (by decide) ?_
  refine Go.iloadN X45 hx (hb hby d5_5) rfl rfl  ?_
  refine Go.iloadN X45 hx (hb hby d5_6) rfl rfl  ?_
  refine Go.icmpNo X45 hx (hb hby d5_7) rfl (tlt (by decide : (12 : Int32) < (16 : Int32))).2.1 ?_
  refine Go.aloadN X45 hx (hb hby d5_10) rfl rfl rfl ?_
  refine Go.iloadN X45 hx (hb hby d5_11) rfl rfl  ?_
  refine Go.iloadN X45 hx (hb hby d5_12) rfl rfl  ?_
  refine Go.iastore X45 hx hZ V45 e45 ⟨by decide, by decide⟩ 12 (by decide) (Nat.le_of_ble_eq_true rfl)  (hb hby d5_13) rfl ?_
  intro T49 h49 X49 e49 W49 V49'
  have V49 : Arv Z h49 g kg .int (16 : Int32) [(.int y), (.int y), (.int y), (.int y), (.int y), (.int y), (.int y), (.int y), (.int y), (.int y), (.int y), (.int y), (.int y), (.int (0 : Int32)), (.int (0 : Int32)), (.int (0 : Int32))] (.int (0 : Int32)) := V49'
  have K50 := K46.wr W49 (Or.inl (List.mem_of_getElem? (i := 0) rfl))
  have O51 := O47.wr W49 gg
  have N52 := Fr.snoc X49 N48 gg
  refine Go.iinc X49 hx (hb hby d5_14) rfl rfl #[.val (.ref g), .val (.int y), .val (.int ((12 : Int32) + (1 : Int32))), .val (.int (16 : Int32))] rfl ?_
  show Go p e below _ T49 (mkF m 17 #[.val (.ref g), .val (.int y), .val (.int ((12 : Int32) + (1 : Int32))), .val (.int (16 : Int32))] [])
  rw [show ((12 : Int32) + (1 : Int32)) = (13 : Int32) from by decide]
  show Go p e below _ T49 (mkF m 17 #[.val (.ref g), .val (.int y), .val (.int (13 : Int32)), .val (.int (16 : Int32))] [])
  refine Go.goto X49 hx (hb hby d5_17) rfl 5 (by decide) (by decide) ?_
  refine Go.iloadN X49 hx (hb hby d5_5) rfl rfl  ?_
  refine Go.iloadN X49 hx (hb hby d5_6) rfl rfl  ?_
  refine Go.icmpNo X49 hx (hb hby d5_7) rfl (tlt (by decide : (13 : Int32) < (16 : Int32))).2.1 ?_
  refine Go.aloadN X49 hx (hb hby d5_10) rfl rfl rfl ?_
  refine Go.iloadN X49 hx (hb hby d5_11) rfl rfl  ?_
  refine Go.iloadN X49 hx (hb hby d5_12) rfl rfl  ?_
  refine Go.iastore X49 hx hZ V49 e49 ⟨by decide, by decide⟩ 13 (by decide) (Nat.le_of_ble_eq_true rfl)  (hb hby d5_13) rfl ?_
  intro T53 h53 X53 e53 W53 V53'
  have V53 : Arv Z h53 g kg .int (16 : Int32) [(.int y), (.int y), (.int y), (.int y), (.int y), (.int y), (.int y), (.int y), (.int y), (.int y), (.int y), (.int y), (.int y), (.int y), (.int (0 : Int32)), (.int (0 : Int32))] (.int (0 : Int32)) := V53'
  have K54 := K50.wr W53 (Or.inl (List.mem_of_getElem? (i := 0) rfl))
  have O55 := O51.wr W53 gg
  have N56 := Fr.snoc X53 N52 gg
  refine Go.iinc X53 hx (hb hby d5_14) rfl rfl #[.val (.ref g), .val (.int y), .val (.int ((13 : Int32) + (1 : Int32))), .val (.int (16 : Int32))] rfl ?_
  show Go p e below _ T53 (mkF m 17 #[.val (.ref g), .val (.int y), .val (.int ((13 : Int32) + (1 : Int32))), .val (.int (16 : Int32))] [])
  rw [show ((13 : Int32) + (1 : Int32)) = (14 : Int32) from by decide]
  show Go p e below _ T53 (mkF m 17 #[.val (.ref g), .val (.int y), .val (.int (14 : Int32)), .val (.int (16 : Int32))] [])
  refine Go.goto X53 hx (hb hby d5_17) rfl 5 (by decide) (by decide) ?_
  refine Go.iloadN X53 hx (hb hby d5_5) rfl rfl  ?_
  refine Go.iloadN X53 hx (hb hby d5_6) rfl rfl  ?_
  refine Go.icmpNo X53 hx (hb hby d5_7) rfl (tlt (by decide : (14 : Int32) < (16 : Int32))).2.1 ?_
  refine Go.aloadN X53 hx (hb hby d5_10) rfl rfl rfl ?_
  refine Go.iloadN X53 hx (hb hby d5_11) rfl rfl  ?_
  refine Go.iloadN X53 hx (hb hby d5_12) rfl rfl  ?_
  refine Go.iastore X53 hx hZ V53 e53 ⟨by decide, by decide⟩ 14 (by decide) (Nat.le_of_ble_eq_true rfl)  (hb hby d5_13) rfl ?_
  intro T57 h57 X57 e57 W57 V57'
  have V57 : Arv Z h57 g kg .int (16 : Int32) [(.int y), (.int y), (.int y), (.int y), (.int y), (.int y), (.int y), (.int y), (.int y), (.int y), (.int y), (.int y), (.int y), (.int y), (.int y), (.int (0 : Int32))] (.int (0 : Int32)) := V57'
  have K58 := K54.wr W57 (Or.inl (List.mem_of_getElem? (i := 0) rfl))
  have O59 := O55.wr W57 gg
  have N60 := Fr.snoc X57 N56 gg
  refine Go.iinc X57 hx (hb hby d5_14) rfl rfl #[.val (.ref g), .val (.int y), .val (.int ((14 : Int32) + (1 : Int32))), .val (.int (16 : Int32))] rfl ?_
  show Go p e below _ T57 (mkF m 17 #[.val (.ref g), .val (.int y), .val (.int ((14 : Int32) + (1 : Int32))), .val (.int (16 : Int32))] [])
  rw [show ((14 : Int32) + (1 : Int32)) = (15 : Int32) from by decide]
  show Go p e below _ T57 (mkF m 17 #[.val (.ref g), .val (.int y), .val (.int (15 : Int32)), .val (.int (16 : Int32))] [])
  refine Go.goto X57 hx (hb hby d5_17) rfl 5 (by decide) (by decide) ?_
  refine Go.iloadN X57 hx (hb hby d5_5) rfl rfl  ?_
  refine Go.iloadN X57 hx (hb hby d5_6) rfl rfl  ?_
  refine Go.icmpNo X57 hx (hb hby d5_7) rfl (tlt (by decide : (15 : Int32) < (16 : Int32))).2.1 ?_
  refine Go.aloadN X57 hx (hb hby d5_10) rfl rfl rfl ?_
  refine Go.iloadN X57 hx (hb hby d5_11) rfl rfl  ?_
  refine Go.iloadN X57 hx (hb hby d5_12) rfl rfl  ?_
  refine Go.iastore X57 hx hZ V57 e57 ⟨by decide, by decide⟩ 15 (by decide) (Nat.le_of_ble_eq_true rfl)  (hb hby d5_13) rfl ?_
  intro T61 h61 X61 e61 W61 V61'
  have V61 : Arv Z h61 g kg .int (16 : Int32) [(.int y), (.int y), (.int y), (.int y), (.int y), (.int y), (.int y), (.int y), (.int y), (.int y), (.int y), (.int y), (.int y), (.int y), (.int y), (.int y)] (.int (0 : Int32)) := V61'
  have K62 := K58.wr W61 (Or.inl (List.mem_of_getElem? (i := 0) rfl))
  have O63 := O59.wr W61 gg
  have N64 := Fr.snoc X61 N60 gg
  refine Go.iinc X61 hx (hb hby d5_14) rfl rfl #[.val (.ref g), .val (.int y), .val (.int ((15 : Int32) + (1 : Int32))), .val (.int (16 : Int32))] rfl ?_
  show Go p e below _ T61 (mkF m 17 #[.val (.ref g), .val (.int y), .val (.int ((15 : Int32) + (1 : Int32))), .val (.int (16 : Int32))] [])
  rw [show ((15 : Int32) + (1 : Int32)) = (16 : Int32) from by decide]
  show Go p e below _ T61 (mkF m 17 #[.val (.ref g), .val (.int y), .val (.int (16 : Int32)), .val (.int (16 : Int32))] [])
  refine Go.goto X61 hx (hb hby d5_17) rfl 5 (by decide) (by decide) ?_
  refine Go.iloadN X61 hx (hb hby d5_5) rfl rfl  ?_
  refine Go.iloadN X61 hx (hb hby d5_6) rfl rfl  ?_
  refine Go.icmpYes X61 hx (hb hby d5_7) rfl 20 (flt (by decide : ¬ ((16 : Int32) < (16 : Int32)))).2.1 (by decide) (by decide) ?_
  exact Go.retV X61 hx hret hlk (hb hby d5_20) rfl (by rw [e61]; exact ⟨rfl, N64, K62, V61⟩) (Nat.le_of_ble_eq_true rfl) (Nat.le_of_ble_eq_true rfl)
set_option maxRecDepth 65536 in
set_option maxHeartbeats 40000000 in
theorem isFree16 (l : Launch) (Z : State) (a0 : Array Value) (hw : ∀ d ∈ tables_1, d.before a0 Z = true)  (h0 : Heap) (O0 : Old Z Z.heap.size h0)  : Ctr l Z (⟨"com/example/overrule/overrule/engine/IntSet", "freeSlots", "(I)[I"⟩ : MethodName) prog_46_method_11_code 2 (some (.array .int)) ({ frames := 1, cells := 1, slots := 16, locals := 15 } : Room) #[(.int (16 : Int32))] h0 (fun v h L => ∃ (g : Addr) (kg : ClassId), v = some (.ref g) ∧ Fr Z.heap.size L ∧ Keep h0 h [] ∧ h0.size ≤ g ∧ Arv Z h g kg .int (16 : Int32) [(.int (-1 : Int32)), (.int (-1 : Int32)), (.int (-1 : Int32)), (.int (-1 : Int32)), (.int (-1 : Int32)), (.int (-1 : Int32)), (.int (-1 : Int32)), (.int (-1 : Int32)), (.int (-1 : Int32)), (.int (-1 : Int32)), (.int (-1 : Int32)), (.int (-1 : Int32)), (.int (-1 : Int32)), (.int (-1 : Int32)), (.int (-1 : Int32)), (.int (-1 : Int32))] (.int (0 : Int32))) := by
  refine Ctr.of (plainFor_of_name pn_4) ?_
  have wd : ∀ {d : Jvm.Cond} (i : Nat), tables_1[i]? = some d → d.before a0 Z = true := fun i q => hw _ (List.mem_of_getElem? q)
  intro p e s m below meth c s₁ hx hby hml hown hnm hret hlk hZ X0 e0
  refine Go.cast (ef_4 m (16 : Int32)) ?_
  show Go p e below _ s₁ (mkF m 0 #[.val (.int (16 : Int32)), .unset] [])
  refine Go.iloadN X0 hx (hb hby d4_0) rfl rfl  ?_
  refine Go.newP X0 hx hZ (wd 21 rfl) e0 16 (by decide) 16 (by decide) (by decide) (Nat.le_of_ble_eq_true rfl) (Nat.le_of_ble_eq_true rfl) "[I" (by decide) (hb hby d4_1) rfl ?_
  intro T1 h1 b1 k1 g1 X1 e1 E1 V1' A1
  have V1 : Arv Z h1 b1 k1 .int (16 : Int32) [(.int (0 : Int32)), (.int (0 : Int32)), (.int (0 : Int32)), (.int (0 : Int32)), (.int (0 : Int32)), (.int (0 : Int32)), (.int (0 : Int32)), (.int (0 : Int32)), (.int (0 : Int32)), (.int (0 : Int32)), (.int (0 : Int32)), (.int (0 : Int32)), (.int (0 : Int32)), (.int (0 : Int32)), (.int (0 : Int32)), (.int (0 : Int32))] (.int (0 : Int32)) := V1'
  have q1 : Z.heap.size ≤ b1 := Nat.le_trans O0.2.1 (Nat.le_of_eq g1.symm)
  have z1 : h0.size ≤ b1 := Nat.le_trans (Keep.refl h0 []).1 (Nat.le_of_eq g1.symm)
  have K2 := (Keep.refl h0 []).ext E1
  have O3 := O0.ext E1
  refine Go.astoreN X1 hx (hb hby d4_3) rfl rfl #[.val (.int (16 : Int32)), .val (.ref b1)] rfl ?_
  refine Go.aloadN X1 hx (hb hby d4_4) rfl rfl rfl ?_
  refine Go.iconst X1 hx (hb hby d4_5) rfl (-1 : Int32) rfl ?_
  refine Go.callS X1 hx hZ hown (wd 25 rfl) (wd 26 rfl) (wd 27 rfl) (wd 28 rfl) (by decide) [(.ref b1), (.int (-1 : Int32))] [] (isFill16 l Z a0 hw b1 k1 (-1 : Int32) h1 O3 q1 V1) e1 rfl (by rw [hml]; rfl) pd_0 rfl (hb hby d4_6) (Nat.le_of_ble_eq_true rfl) (Nat.le_of_ble_eq_true rfl) (Nat.le_of_ble_eq_true rfl) (Nat.le_of_ble_eq_true rfl) ?_
  rintro vv4 T4 L4 X4 Q4
  obtain ⟨rfl, N4, K4, V4⟩ := Q4
  have M5 := Fr.app (Fr.nil _) N4
  have O6 := O3.keep K4 (allS q1 (all0))
  have K7 := Keep.trans K2 K4 (allS (Or.inr z1) (all0))
  refine Go.aloadN X4 hx (hb hby d4_9) rfl rfl rfl ?_
  exact Go.retA X4 hx hret hlk rfl rfl (hb hby d4_10) rfl ⟨b1, k1, rfl, M5, K7, z1, V4⟩ (Nat.le_of_ble_eq_true rfl) (Nat.le_of_ble_eq_true rfl)
set_option maxRecDepth 65536 in
set_option maxHeartbeats 40000000 in
theorem isRehash (l : Launch) (Z : State) (a0 : Array Value) (hw : ∀ d ∈ tables_1, d.before a0 Z = true) (a eb sl : Addr) (kb : ClassId) (u0 u1 u2 u3 u4 : Int32) (h0 : Heap) (O0 : Old Z Z.heap.size h0) (Ea : Exa Z h0 a "com/example/overrule/overrule/engine/IntSet") (ga : Z.heap.size ≤ a) (hg : Good [u0, u1, u2, u3, u4]) (Fe : Fld Z h0 a "com/example/overrule/overrule/engine/IntSet" "elements" "[I" (.ref eb)) (Fn : Fld Z h0 a "com/example/overrule/overrule/engine/IntSet" "size" "I" (.int (5 : Int32))) (Fs : Fld Z h0 a "com/example/overrule/overrule/engine/IntSet" "slots" "[I" (.ref sl)) (n_a_eb : a ≠ eb) (Vb : Arv Z h0 eb kb .int (8 : Int32) [(.int u0), (.int u1), (.int u2), (.int u3), (.int u4), (.int (0 : Int32)), (.int (0 : Int32)), (.int (0 : Int32))] (.int (0 : Int32))) : Ctr l Z (⟨"com/example/overrule/overrule/engine/IntSet", "rehash", "(I)V"⟩ : MethodName) prog_46_method_9_code 5 none ({ frames := 2, cells := 1, slots := 16, locals := 29 } : Room) #[(.ref a), (.int (16 : Int32))] h0 (fun v h L => v = none ∧ Fr Z.heap.size L ∧ Keep h0 h [a] ∧ Exa Z h a "com/example/overrule/overrule/engine/IntSet" ∧ ∃ (sn : Addr) (kn : ClassId), h0.size ≤ sn ∧ Fld Z h a "com/example/overrule/overrule/engine/IntSet" "elements" "[I" (.ref eb) ∧ Fld Z h a "com/example/overrule/overrule/engine/IntSet" "size" "I" (.int (5 : Int32)) ∧ Fld Z h a "com/example/overrule/overrule/engine/IntSet" "slots" "[I" (.ref sn) ∧ Arv Z h sn kn .int (16 : Int32) ((tab 16 (hsh (15 : Int32)) [u0, u1, u2, u3, u4]).map Value.int) (.int (0 : Int32))) := by
  refine Ctr.of (plainFor_of_name pn_4) ?_
  have wd : ∀ {d : Jvm.Cond} (i : Nat), tables_1[i]? = some d → d.before a0 Z = true := fun i q => hw _ (List.mem_of_getElem? q)
  intro p e s m below meth c s₁ hx hby hml hown hnm hret hlk hZ X0 e0
  refine Go.cast (ef_13 m a (16 : Int32)) ?_
  have hg0' : Good ([] : List Int32) := good_pre (l := ([] : List Int32)) (r := [u0, u1, u2, u3, u4]) hg
  have hg1' : Good [u0] := good_pre (l := [u0]) (r := [u1, u2, u3, u4]) hg
  have hg2' : Good [u0, u1] := good_pre (l := [u0, u1]) (r := [u2, u3, u4]) hg
  have hg3' : Good [u0, u1, u2] := good_pre (l := [u0, u1, u2]) (r := [u3, u4]) hg
  have hg4' : Good [u0, u1, u2, u3] := good_pre (l := [u0, u1, u2, u3]) (r := [u4]) hg
  show Go p e below _ s₁ (mkF m 0 #[.val (.ref a), .val (.int (16 : Int32)), .unset, .unset, .unset] [])
  refine Go.aloadN X0 hx (hb hby d13_0) rfl rfl rfl ?_
  refine Go.iloadN X0 hx (hb hby d13_1) rfl rfl  ?_
  refine Go.callS X0 hx hZ hown (wd 22 rfl) (wd 23 rfl) (wd 3 rfl) (wd 24 rfl) (by decide) [(.int (16 : Int32))] [(.ref a)] (isFree16 l Z a0 hw h0 O0) e0 rfl (by rw [hml]; rfl) pd_1 rfl (hb hby d13_2) (Nat.le_of_ble_eq_true rfl) (Nat.le_of_ble_eq_true rfl) (Nat.le_of_ble_eq_true rfl) (Nat.le_of_ble_eq_true rfl) ?_
  rintro vv1 T1 L1 X1 Q1
  obtain ⟨g1, k1, rfl, N1, K1, sz1, V1⟩ := Q1
  have M2 := Fr.app (Fr.nil _) N1
  have q1 : Z.heap.size ≤ g1 := Nat.le_trans O0.2.1 sz1
  have z1 : h0.size ≤ g1 := Nat.le_trans (Keep.refl h0 [a]).1 sz1
  have ne_a_g1 : a ≠ g1 := Nat.ne_of_lt (Nat.lt_of_lt_of_le Ea.lt sz1)
  have ne_eb_g1 : eb ≠ g1 := Nat.ne_of_lt (Nat.lt_of_lt_of_le Vb.lt sz1)
  have O3 := O0.keep K1 (all0)
  have K4 := Keep.trans (Keep.refl h0 [a]) K1 (all0)
  have E5 := Ea.keep K1
  have F6 := Fe.keep K1 (nin0)
  have F7 := Fn.keep K1 (nin0)
  have F8 := Fs.keep K1 (nin0)
  have V9 := Vb.keep K1 (nin0)
  refine Go.putF X1 hx hZ hown (host := "") (Or.inl (wd 14 rfl)) Via.refl rfl F8 E5 (Or.inl (wd 15 rfl)) (wd 2 rfl) (ty := (.array .int)) (by decide) rfl rfl (hb hby d13_5) rfl ?_
  intro T10 h10 X10 e10 W10 F11
  have K12 := K4.wr W10 (Or.inl (List.mem_of_getElem? (i := 0) rfl))
  have O13 := O3.wr W10 ga
  have N14 := Fr.snoc X10 M2 ga
  have E15 := E5.wr W10
  have F16 := F6.other W10 (Or.inr (slot_ne (Or.inl (wd 13 rfl)) (Or.inl (wd 15 rfl)) (by decide) (t := (.array .int)) (t' := (.array .int)) (by decide) (by decide)))
  have F17 := F7.other W10 (Or.inr (slot_ne (Or.inl (wd 34 rfl)) (Or.inl (wd 15 rfl)) (by decide) (t := .int) (t' := (.array .int)) (by decide) (by decide)))
  have V18 := V9.other W10 (Ne.symm n_a_eb)
  have V19 := V1.other W10 (Ne.symm ne_a_g1)
  refine Go.iloadN X10 hx (hb hby d13_8) rfl rfl  ?_
  refine Go.iconst X10 hx (hb hby d13_9) rfl (1 : Int32) rfl ?_
  refine Go.isub X10 hx (hb hby d13_10) rfl ?_
  show Go p e below _ T10 (mkF m 11 #[.val (.ref a), .val (.int (16 : Int32)), .unset, .unset, .unset] [(.int ((16 : Int32) - (1 : Int32)))])
  rw [show ((16 : Int32) - (1 : Int32)) = (15 : Int32) from by decide]
  refine Go.istoreN X10 hx (hb hby d13_11) rfl  #[.val (.ref a), .val (.int (16 : Int32)), .val (.int (15 : Int32)), .unset, .unset] rfl ?_
  refine Go.iconst X10 hx (hb hby d13_12) rfl (0 : Int32) rfl ?_
  refine Go.istoreN X10 hx (hb hby d13_13) rfl  #[.val (.ref a), .val (.int (16 : Int32)), .val (.int (15 : Int32)), .val (.int (0 : Int32)), .unset] rfl ?_
  refine Go.iloadN X10 hx (hb hby d13_14) rfl rfl  ?_
  refine Go.aloadN X10 hx (hb hby d13_15) rfl rfl rfl ?_
  refine Go.getF X10 hx hZ hown (host := "") (Or.inl (wd 33 rfl)) Via.refl e10 F17 (hb hby d13_16) rfl ?_
  intro T20 X20 e20
  refine Go.icmpNo X20 hx (hb hby d13_19) rfl (tlt (by decide : (0 : Int32) < (5 : Int32))).2.1 ?_
  refine Go.aloadN X20 hx (hb hby d13_22) rfl rfl rfl ?_
  refine Go.getF X20 hx hZ hown (host := "") (Or.inl (wd 12 rfl)) Via.refl e20 F16 (hb hby d13_23) rfl ?_
  intro T21 X21 e21
  refine Go.iloadN X21 hx (hb hby d13_26) rfl rfl  ?_
  refine Go.iaload X21 hx hZ (.int u0) V18 e21  ⟨by decide, by decide⟩ rfl (hb hby d13_27) rfl ?_
  refine Go.iloadN X21 hx (hb hby d13_28) rfl rfl  ?_
  refine Go.pureS X21 hx hZ hown (wd 29 rfl) (wd 30 rfl) (wd 3 rfl) (wd 31 rfl) (by decide) [(.int u0), (.int (15 : Int32))] [] (isSlot l Z a0 hw u0 (15 : Int32) h10) e21 rfl (by rw [hml]; rfl) pd_2 rfl (hb hby d13_29) (Nat.le_of_ble_eq_true rfl) (Nat.le_of_ble_eq_true rfl) (Nat.le_of_ble_eq_true rfl) (Nat.le_of_ble_eq_true rfl) ?_
  intro T22 X22 e22
  refine Go.istore X22 hx (hb hby d13_32) rfl  #[.val (.ref a), .val (.int (16 : Int32)), .val (.int (15 : Int32)), .val (.int (0 : Int32)), .val (.int (slotv u0 (15 : Int32)))] rfl ?_
  have V23 : Arv Z h10 g1 k1 .int (16 : Int32) ((tab 16 (hsh (15 : Int32)) ([] : List Int32)).map Value.int) (.int (0 : Int32)) := V19
  show Go p e below _ T22 (mkF m 34 #[.val (.ref a), .val (.int (16 : Int32)), .val (.int (15 : Int32)), .val (.int (0 : Int32)), .val (.int (slotv u0 (15 : Int32)))] [])
  refine isProbeR hw hx hby hml hown hZ a g1 k1 (0 : Int32) (tab 16 (hsh (15 : Int32)) ([] : List Int32)) h10 F11 V23 16 _ _ _ X22 e22 (ix_slot (b := 4) (by decide) rfl (by decide) (by decide) u0) (free_at (inv16 hg0' (Nat.le_of_ble_eq_true rfl)) (Nat.le_of_ble_eq_true rfl) _) ?_
  intro T24 j24 X24 e24 hj24
  show Go p e below _ T24 (mkF m 56 #[.val (.ref a), .val (.int (16 : Int32)), .val (.int (15 : Int32)), .val (.int (0 : Int32)), .val (.int j24)] [])
  refine Go.aloadN X24 hx (hb hby d13_56) rfl rfl rfl ?_
  refine Go.getF X24 hx hZ hown (host := "") (Or.inl (wd 14 rfl)) Via.refl e24 F11 (hb hby d13_57) rfl ?_
  intro T25 X25 e25
  refine Go.iload X25 hx (hb hby d13_60) rfl rfl  ?_
  refine Go.aloadN X25 hx (hb hby d13_62) rfl rfl rfl ?_
  refine Go.getF X25 hx hZ hown (host := "") (Or.inl (wd 12 rfl)) Via.refl e25 F16 (hb hby d13_63) rfl ?_
  intro T26 X26 e26
  refine Go.iloadN X26 hx (hb hby d13_66) rfl rfl  ?_
  refine Go.iaload X26 hx hZ (.int u0) V18 e26  ⟨by decide, by decide⟩ rfl (hb hby d13_67) rfl ?_
  refine Go.iastore X26 hx hZ V23 e26 ⟨hj24.1, hj24.2.1⟩ _ hj24.2.2 (by rw [List.length_map, (inv16 hg0' (Nat.le_of_ble_eq_true rfl)).1]; exact own_ffl16 hg0' (Nat.le_of_ble_eq_true rfl)) (hb hby d13_68) rfl ?_
  intro T27 h27 X27 e27 W27 V27'
  have V27 : Arv Z h27 g1 k1 .int (16 : Int32) ((tab 16 (hsh (15 : Int32)) [u0]).map Value.int) (.int (0 : Int32)) := by rw [show ([u0] : List Int32) = ([] : List Int32) ++ [u0] from rfl, tab_snoc, List.map_set]; exact V27'
  have K28 := K12.wr W27 (Or.inr z1)
  have O29 := O13.wr W27 q1
  have N30 := Fr.snoc X27 N14 q1
  have E31 := E15.wr W27
  have F32 := F16.other W27 (Or.inl ne_a_g1)
  have F33 := F17.other W27 (Or.inl ne_a_g1)
  have F34 := F11.other W27 (Or.inl ne_a_g1)
  have V35 := V18.other W27 ne_eb_g1
  refine Go.iinc X27 hx (hb hby d13_69) rfl rfl #[.val (.ref a), .val (.int (16 : Int32)), .val (.int (15 : Int32)), .val (.int ((0 : Int32) + (1 : Int32))), .val (.int j24)] rfl ?_
  show Go p e below _ T27 (mkF m 72 #[.val (.ref a), .val (.int (16 : Int32)), .val (.int (15 : Int32)), .val (.int ((0 : Int32) + (1 : Int32))), .val (.int j24)] [])
  rw [show ((0 : Int32) + (1 : Int32)) = (1 : Int32) from by decide]
  show Go p e below _ T27 (mkF m 72 #[.val (.ref a), .val (.int (16 : Int32)), .val (.int (15 : Int32)), .val (.int (1 : Int32)), .val (.int j24)] [])
  refine Go.goto X27 hx (hb hby d13_72) rfl 14 (by decide) (by decide) ?_
  refine Go.iloadN X27 hx (hb hby d13_14) rfl rfl  ?_
  refine Go.aloadN X27 hx (hb hby d13_15) rfl rfl rfl ?_
  refine Go.getF X27 hx hZ hown (host := "") (Or.inl (wd 33 rfl)) Via.refl e27 F33 (hb hby d13_16) rfl ?_
  intro T36 X36 e36
  refine Go.icmpNo X36 hx (hb hby d13_19) rfl (tlt (by decide : (1 : Int32) < (5 : Int32))).2.1 ?_
  refine Go.aloadN X36 hx (hb hby d13_22) rfl rfl rfl ?_
  refine Go.getF X36 hx hZ hown (host := "") (Or.inl (wd 12 rfl)) Via.refl e36 F32 (hb hby d13_23) rfl ?_
  intro T37 X37 e37
  refine Go.iloadN X37 hx (hb hby d13_26) rfl rfl  ?_
  refine Go.iaload X37 hx hZ (.int u1) V35 e37  ⟨by decide, by decide⟩ rfl (hb hby d13_27) rfl ?_
  refine Go.iloadN X37 hx (hb hby d13_28) rfl rfl  ?_
  refine Go.pureS X37 hx hZ hown (wd 29 rfl) (wd 30 rfl) (wd 3 rfl) (wd 31 rfl) (by decide) [(.int u1), (.int (15 : Int32))] [] (isSlot l Z a0 hw u1 (15 : Int32) h27) e37 rfl (by rw [hml]; rfl) pd_2 rfl (hb hby d13_29) (Nat.le_of_ble_eq_true rfl) (Nat.le_of_ble_eq_true rfl) (Nat.le_of_ble_eq_true rfl) (Nat.le_of_ble_eq_true rfl) ?_
  intro T38 X38 e38
  refine Go.istore X38 hx (hb hby d13_32) rfl  #[.val (.ref a), .val (.int (16 : Int32)), .val (.int (15 : Int32)), .val (.int (1 : Int32)), .val (.int (slotv u1 (15 : Int32)))] rfl ?_
  show Go p e below _ T38 (mkF m 34 #[.val (.ref a), .val (.int (16 : Int32)), .val (.int (15 : Int32)), .val (.int (1 : Int32)), .val (.int (slotv u1 (15 : Int32)))] [])
  refine isProbeR hw hx hby hml hown hZ a g1 k1 (1 : Int32) (tab 16 (hsh (15 : Int32)) [u0]) h27 F34 V27 16 _ _ _ X38 e38 (ix_slot (b := 4) (by decide) rfl (by decide) (by decide) u1) (free_at (inv16 hg1' (Nat.le_of_ble_eq_true rfl)) (Nat.le_of_ble_eq_true rfl) _) ?_
  intro T39 j39 X39 e39 hj39
  show Go p e below _ T39 (mkF m 56 #[.val (.ref a), .val (.int (16 : Int32)), .val (.int (15 : Int32)), .val (.int (1 : Int32)), .val (.int j39)] [])
  refine Go.aloadN X39 hx (hb hby d13_56) rfl rfl rfl ?_
  refine Go.getF X39 hx hZ hown (host := "") (Or.inl (wd 14 rfl)) Via.refl e39 F34 (hb hby d13_57) rfl ?_
  intro T40 X40 e40
  refine Go.iload X40 hx (hb hby d13_60) rfl rfl  ?_
  refine Go.aloadN X40 hx (hb hby d13_62) rfl rfl rfl ?_
  refine Go.getF X40 hx hZ hown (host := "") (Or.inl (wd 12 rfl)) Via.refl e40 F32 (hb hby d13_63) rfl ?_
  intro T41 X41 e41
  refine Go.iloadN X41 hx (hb hby d13_66) rfl rfl  ?_
  refine Go.iaload X41 hx hZ (.int u1) V35 e41  ⟨by decide, by decide⟩ rfl (hb hby d13_67) rfl ?_
  refine Go.iastore X41 hx hZ V27 e41 ⟨hj39.1, hj39.2.1⟩ _ hj39.2.2 (by rw [List.length_map, (inv16 hg1' (Nat.le_of_ble_eq_true rfl)).1]; exact own_ffl16 hg1' (Nat.le_of_ble_eq_true rfl)) (hb hby d13_68) rfl ?_
  intro T42 h42 X42 e42 W42 V42'
  have V42 : Arv Z h42 g1 k1 .int (16 : Int32) ((tab 16 (hsh (15 : Int32)) [u0, u1]).map Value.int) (.int (0 : Int32)) := by rw [show ([u0, u1] : List Int32) = [u0] ++ [u1] from rfl, tab_snoc, List.map_set]; exact V42'
  have K43 := K28.wr W42 (Or.inr z1)
  have O44 := O29.wr W42 q1
  have N45 := Fr.snoc X42 N30 q1
  have E46 := E31.wr W42
  have F47 := F32.other W42 (Or.inl ne_a_g1)
  have F48 := F33.other W42 (Or.inl ne_a_g1)
  have F49 := F34.other W42 (Or.inl ne_a_g1)
  have V50 := V35.other W42 ne_eb_g1
  refine Go.iinc X42 hx (hb hby d13_69) rfl rfl #[.val (.ref a), .val (.int (16 : Int32)), .val (.int (15 : Int32)), .val (.int ((1 : Int32) + (1 : Int32))), .val (.int j39)] rfl ?_
  show Go p e below _ T42 (mkF m 72 #[.val (.ref a), .val (.int (16 : Int32)), .val (.int (15 : Int32)), .val (.int ((1 : Int32) + (1 : Int32))), .val (.int j39)] [])
  rw [show ((1 : Int32) + (1 : Int32)) = (2 : Int32) from by decide]
  show Go p e below _ T42 (mkF m 72 #[.val (.ref a), .val (.int (16 : Int32)), .val (.int (15 : Int32)), .val (.int (2 : Int32)), .val (.int j39)] [])
  refine Go.goto X42 hx (hb hby d13_72) rfl 14 (by decide) (by decide) ?_
  refine Go.iloadN X42 hx (hb hby d13_14) rfl rfl  ?_
  refine Go.aloadN X42 hx (hb hby d13_15) rfl rfl rfl ?_
  refine Go.getF X42 hx hZ hown (host := "") (Or.inl (wd 33 rfl)) Via.refl e42 F48 (hb hby d13_16) rfl ?_
  intro T51 X51 e51
  refine Go.icmpNo X51 hx (hb hby d13_19) rfl (tlt (by decide : (2 : Int32) < (5 : Int32))).2.1 ?_
  refine Go.aloadN X51 hx (hb hby d13_22) rfl rfl rfl ?_
  refine Go.getF X51 hx hZ hown (host := "") (Or.inl (wd 12 rfl)) Via.refl e51 F47 (hb hby d13_23) rfl ?_
  intro T52 X52 e52
  refine Go.iloadN X52 hx (hb hby d13_26) rfl rfl  ?_
  refine Go.iaload X52 hx hZ (.int u2) V50 e52  ⟨by decide, by decide⟩ rfl (hb hby d13_27) rfl ?_
  refine Go.iloadN X52 hx (hb hby d13_28) rfl rfl  ?_
  refine Go.pureS X52 hx hZ hown (wd 29 rfl) (wd 30 rfl) (wd 3 rfl) (wd 31 rfl) (by decide) [(.int u2), (.int (15 : Int32))] [] (isSlot l Z a0 hw u2 (15 : Int32) h42) e52 rfl (by rw [hml]; rfl) pd_2 rfl (hb hby d13_29) (Nat.le_of_ble_eq_true rfl) (Nat.le_of_ble_eq_true rfl) (Nat.le_of_ble_eq_true rfl) (Nat.le_of_ble_eq_true rfl) ?_
  intro T53 X53 e53
  refine Go.istore X53 hx (hb hby d13_32) rfl  #[.val (.ref a), .val (.int (16 : Int32)), .val (.int (15 : Int32)), .val (.int (2 : Int32)), .val (.int (slotv u2 (15 : Int32)))] rfl ?_
  show Go p e below _ T53 (mkF m 34 #[.val (.ref a), .val (.int (16 : Int32)), .val (.int (15 : Int32)), .val (.int (2 : Int32)), .val (.int (slotv u2 (15 : Int32)))] [])
  refine isProbeR hw hx hby hml hown hZ a g1 k1 (2 : Int32) (tab 16 (hsh (15 : Int32)) [u0, u1]) h42 F49 V42 16 _ _ _ X53 e53 (ix_slot (b := 4) (by decide) rfl (by decide) (by decide) u2) (free_at (inv16 hg2' (Nat.le_of_ble_eq_true rfl)) (Nat.le_of_ble_eq_true rfl) _) ?_
  intro T54 j54 X54 e54 hj54
  show Go p e below _ T54 (mkF m 56 #[.val (.ref a), .val (.int (16 : Int32)), .val (.int (15 : Int32)), .val (.int (2 : Int32)), .val (.int j54)] [])
  refine Go.aloadN X54 hx (hb hby d13_56) rfl rfl rfl ?_
  refine Go.getF X54 hx hZ hown (host := "") (Or.inl (wd 14 rfl)) Via.refl e54 F49 (hb hby d13_57) rfl ?_
  intro T55 X55 e55
  refine Go.iload X55 hx (hb hby d13_60) rfl rfl  ?_
  refine Go.aloadN X55 hx (hb hby d13_62) rfl rfl rfl ?_
  refine Go.getF X55 hx hZ hown (host := "") (Or.inl (wd 12 rfl)) Via.refl e55 F47 (hb hby d13_63) rfl ?_
  intro T56 X56 e56
  refine Go.iloadN X56 hx (hb hby d13_66) rfl rfl  ?_
  refine Go.iaload X56 hx hZ (.int u2) V50 e56  ⟨by decide, by decide⟩ rfl (hb hby d13_67) rfl ?_
  refine Go.iastore X56 hx hZ V42 e56 ⟨hj54.1, hj54.2.1⟩ _ hj54.2.2 (by rw [List.length_map, (inv16 hg2' (Nat.le_of_ble_eq_true rfl)).1]; exact own_ffl16 hg2' (Nat.le_of_ble_eq_true rfl)) (hb hby d13_68) rfl ?_
  intro T57 h57 X57 e57 W57 V57'
  have V57 : Arv Z h57 g1 k1 .int (16 : Int32) ((tab 16 (hsh (15 : Int32)) [u0, u1, u2]).map Value.int) (.int (0 : Int32)) := by rw [show ([u0, u1, u2] : List Int32) = [u0, u1] ++ [u2] from rfl, tab_snoc, List.map_set]; exact V57'
  have K58 := K43.wr W57 (Or.inr z1)
  have O59 := O44.wr W57 q1
  have N60 := Fr.snoc X57 N45 q1
  have E61 := E46.wr W57
  have F62 := F47.other W57 (Or.inl ne_a_g1)
  have F63 := F48.other W57 (Or.inl ne_a_g1)
  have F64 := F49.other W57 (Or.inl ne_a_g1)
  have V65 := V50.other W57 ne_eb_g1
  refine Go.iinc X57 hx (hb hby d13_69) rfl rfl #[.val (.ref a), .val (.int (16 : Int32)), .val (.int (15 : Int32)), .val (.int ((2 : Int32) + (1 : Int32))), .val (.int j54)] rfl ?_
  show Go p e below _ T57 (mkF m 72 #[.val (.ref a), .val (.int (16 : Int32)), .val (.int (15 : Int32)), .val (.int ((2 : Int32) + (1 : Int32))), .val (.int j54)] [])
  rw [show ((2 : Int32) + (1 : Int32)) = (3 : Int32) from by decide]
  show Go p e below _ T57 (mkF m 72 #[.val (.ref a), .val (.int (16 : Int32)), .val (.int (15 : Int32)), .val (.int (3 : Int32)), .val (.int j54)] [])
  refine Go.goto X57 hx (hb hby d13_72) rfl 14 (by decide) (by decide) ?_
  refine Go.iloadN X57 hx (hb hby d13_14) rfl rfl  ?_
  refine Go.aloadN X57 hx (hb hby d13_15) rfl rfl rfl ?_
  refine Go.getF X57 hx hZ hown (host := "") (Or.inl (wd 33 rfl)) Via.refl e57 F63 (hb hby d13_16) rfl ?_
  intro T66 X66 e66
  refine Go.icmpNo X66 hx (hb hby d13_19) rfl (tlt (by decide : (3 : Int32) < (5 : Int32))).2.1 ?_
  refine Go.aloadN X66 hx (hb hby d13_22) rfl rfl rfl ?_
  refine Go.getF X66 hx hZ hown (host := "") (Or.inl (wd 12 rfl)) Via.refl e66 F62 (hb hby d13_23) rfl ?_
  intro T67 X67 e67
  refine Go.iloadN X67 hx (hb hby d13_26) rfl rfl  ?_
  refine Go.iaload X67 hx hZ (.int u3) V65 e67  ⟨by decide, by decide⟩ rfl (hb hby d13_27) rfl ?_
  refine Go.iloadN X67 hx (hb hby d13_28) rfl rfl  ?_
  refine Go.pureS X67 hx hZ hown (wd 29 rfl) (wd 30 rfl) (wd 3 rfl) (wd 31 rfl) (by decide) [(.int u3), (.int (15 : Int32))] [] (isSlot l Z a0 hw u3 (15 : Int32) h57) e67 rfl (by rw [hml]; rfl) pd_2 rfl (hb hby d13_29) (Nat.le_of_ble_eq_true rfl) (Nat.le_of_ble_eq_true rfl) (Nat.le_of_ble_eq_true rfl) (Nat.le_of_ble_eq_true rfl) ?_
  intro T68 X68 e68
  refine Go.istore X68 hx (hb hby d13_32) rfl  #[.val (.ref a), .val (.int (16 : Int32)), .val (.int (15 : Int32)), .val (.int (3 : Int32)), .val (.int (slotv u3 (15 : Int32)))] rfl ?_
  show Go p e below _ T68 (mkF m 34 #[.val (.ref a), .val (.int (16 : Int32)), .val (.int (15 : Int32)), .val (.int (3 : Int32)), .val (.int (slotv u3 (15 : Int32)))] [])
  refine isProbeR hw hx hby hml hown hZ a g1 k1 (3 : Int32) (tab 16 (hsh (15 : Int32)) [u0, u1, u2]) h57 F64 V57 16 _ _ _ X68 e68 (ix_slot (b := 4) (by decide) rfl (by decide) (by decide) u3) (free_at (inv16 hg3' (Nat.le_of_ble_eq_true rfl)) (Nat.le_of_ble_eq_true rfl) _) ?_
  intro T69 j69 X69 e69 hj69
  show Go p e below _ T69 (mkF m 56 #[.val (.ref a), .val (.int (16 : Int32)), .val (.int (15 : Int32)), .val (.int (3 : Int32)), .val (.int j69)] [])
  refine Go.aloadN X69 hx (hb hby d13_56) rfl rfl rfl ?_
  refine Go.getF X69 hx hZ hown (host := "") (Or.inl (wd 14 rfl)) Via.refl e69 F64 (hb hby d13_57) rfl ?_
  intro T70 X70 e70
  refine Go.iload X70 hx (hb hby d13_60) rfl rfl  ?_
  refine Go.aloadN X70 hx (hb hby d13_62) rfl rfl rfl ?_
  refine Go.getF X70 hx hZ hown (host := "") (Or.inl (wd 12 rfl)) Via.refl e70 F62 (hb hby d13_63) rfl ?_
  intro T71 X71 e71
  refine Go.iloadN X71 hx (hb hby d13_66) rfl rfl  ?_
  refine Go.iaload X71 hx hZ (.int u3) V65 e71  ⟨by decide, by decide⟩ rfl (hb hby d13_67) rfl ?_
  refine Go.iastore X71 hx hZ V57 e71 ⟨hj69.1, hj69.2.1⟩ _ hj69.2.2 (by rw [List.length_map, (inv16 hg3' (Nat.le_of_ble_eq_true rfl)).1]; exact own_ffl16 hg3' (Nat.le_of_ble_eq_true rfl)) (hb hby d13_68) rfl ?_
  intro T72 h72 X72 e72 W72 V72'
  have V72 : Arv Z h72 g1 k1 .int (16 : Int32) ((tab 16 (hsh (15 : Int32)) [u0, u1, u2, u3]).map Value.int) (.int (0 : Int32)) := by rw [show ([u0, u1, u2, u3] : List Int32) = [u0, u1, u2] ++ [u3] from rfl, tab_snoc, List.map_set]; exact V72'
  have K73 := K58.wr W72 (Or.inr z1)
  have O74 := O59.wr W72 q1
  have N75 := Fr.snoc X72 N60 q1
  have E76 := E61.wr W72
  have F77 := F62.other W72 (Or.inl ne_a_g1)
  have F78 := F63.other W72 (Or.inl ne_a_g1)
  have F79 := F64.other W72 (Or.inl ne_a_g1)
  have V80 := V65.other W72 ne_eb_g1
  refine Go.iinc X72 hx (hb hby d13_69) rfl rfl #[.val (.ref a), .val (.int (16 : Int32)), .val (.int (15 : Int32)), .val (.int ((3 : Int32) + (1 : Int32))), .val (.int j69)] rfl ?_
  show Go p e below _ T72 (mkF m 72 #[.val (.ref a), .val (.int (16 : Int32)), .val (.int (15 : Int32)), .val (.int ((3 : Int32) + (1 : Int32))), .val (.int j69)] [])
  rw [show ((3 : Int32) + (1 : Int32)) = (4 : Int32) from by decide]
  show Go p e below _ T72 (mkF m 72 #[.val (.ref a), .val (.int (16 : Int32)), .val (.int (15 : Int32)), .val (.int (4 : Int32)), .val (.int j69)] [])
  refine Go.goto X72 hx (hb hby d13_72) rfl 14 (by decide) (by decide) ?_
  refine Go.iloadN X72 hx (hb hby d13_14) rfl rfl  ?_
  refine Go.aloadN X72 hx (hb hby d13_15) rfl rfl rfl ?_
  refine Go.getF X72 hx hZ hown (host := "") (Or.inl (wd 33 rfl)) Via.refl e72 F78 (hb hby d13_16) rfl ?_
  intro T81 X81 e81
  refine Go.icmpNo X81 hx (hb hby d13_19) rfl (tlt (by decide : (4 : Int32) < (5 : Int32))).2.1 ?_
  refine Go.aloadN X81 hx (hb hby d13_22) rfl rfl rfl ?_
  refine Go.getF X81 hx hZ hown (host := "") (Or.inl (wd 12 rfl)) Via.refl e81 F77 (hb hby d13_23) rfl ?_
  intro T82 X82 e82
  refine Go.iloadN X82 hx (hb hby d13_26) rfl rfl  ?_
  refine Go.iaload X82 hx hZ (.int u4) V80 e82  ⟨by decide, by decide⟩ rfl (hb hby d13_27) rfl ?_
  refine Go.iloadN X82 hx (hb hby d13_28) rfl rfl  ?_
  refine Go.pureS X82 hx hZ hown (wd 29 rfl) (wd 30 rfl) (wd 3 rfl) (wd 31 rfl) (by decide) [(.int u4), (.int (15 : Int32))] [] (isSlot l Z a0 hw u4 (15 : Int32) h72) e82 rfl (by rw [hml]; rfl) pd_2 rfl (hb hby d13_29) (Nat.le_of_ble_eq_true rfl) (Nat.le_of_ble_eq_true rfl) (Nat.le_of_ble_eq_true rfl) (Nat.le_of_ble_eq_true rfl) ?_
  intro T83 X83 e83
  refine Go.istore X83 hx (hb hby d13_32) rfl  #[.val (.ref a), .val (.int (16 : Int32)), .val (.int (15 : Int32)), .val (.int (4 : Int32)), .val (.int (slotv u4 (15 : Int32)))] rfl ?_
  show Go p e below _ T83 (mkF m 34 #[.val (.ref a), .val (.int (16 : Int32)), .val (.int (15 : Int32)), .val (.int (4 : Int32)), .val (.int (slotv u4 (15 : Int32)))] [])
  refine isProbeR hw hx hby hml hown hZ a g1 k1 (4 : Int32) (tab 16 (hsh (15 : Int32)) [u0, u1, u2, u3]) h72 F79 V72 16 _ _ _ X83 e83 (ix_slot (b := 4) (by decide) rfl (by decide) (by decide) u4) (free_at (inv16 hg4' (Nat.le_of_ble_eq_true rfl)) (Nat.le_of_ble_eq_true rfl) _) ?_
  intro T84 j84 X84 e84 hj84
  show Go p e below _ T84 (mkF m 56 #[.val (.ref a), .val (.int (16 : Int32)), .val (.int (15 : Int32)), .val (.int (4 : Int32)), .val (.int j84)] [])
  refine Go.aloadN X84 hx (hb hby d13_56) rfl rfl rfl ?_
  refine Go.getF X84 hx hZ hown (host := "") (Or.inl (wd 14 rfl)) Via.refl e84 F79 (hb hby d13_57) rfl ?_
  intro T85 X85 e85
  refine Go.iload X85 hx (hb hby d13_60) rfl rfl  ?_
  refine Go.aloadN X85 hx (hb hby d13_62) rfl rfl rfl ?_
  refine Go.getF X85 hx hZ hown (host := "") (Or.inl (wd 12 rfl)) Via.refl e85 F77 (hb hby d13_63) rfl ?_
  intro T86 X86 e86
  refine Go.iloadN X86 hx (hb hby d13_66) rfl rfl  ?_
  refine Go.iaload X86 hx hZ (.int u4) V80 e86  ⟨by decide, by decide⟩ rfl (hb hby d13_67) rfl ?_
  refine Go.iastore X86 hx hZ V72 e86 ⟨hj84.1, hj84.2.1⟩ _ hj84.2.2 (by rw [List.length_map, (inv16 hg4' (Nat.le_of_ble_eq_true rfl)).1]; exact own_ffl16 hg4' (Nat.le_of_ble_eq_true rfl)) (hb hby d13_68) rfl ?_
  intro T87 h87 X87 e87 W87 V87'
  have V87 : Arv Z h87 g1 k1 .int (16 : Int32) ((tab 16 (hsh (15 : Int32)) [u0, u1, u2, u3, u4]).map Value.int) (.int (0 : Int32)) := by rw [show ([u0, u1, u2, u3, u4] : List Int32) = [u0, u1, u2, u3] ++ [u4] from rfl, tab_snoc, List.map_set]; exact V87'
  have K88 := K73.wr W87 (Or.inr z1)
  have O89 := O74.wr W87 q1
  have N90 := Fr.snoc X87 N75 q1
  have E91 := E76.wr W87
  have F92 := F77.other W87 (Or.inl ne_a_g1)
  have F93 := F78.other W87 (Or.inl ne_a_g1)
  have F94 := F79.other W87 (Or.inl ne_a_g1)
  have V95 := V80.other W87 ne_eb_g1
  refine Go.iinc X87 hx (hb hby d13_69) rfl rfl #[.val (.ref a), .val (.int (16 : Int32)), .val (.int (15 : Int32)), .val (.int ((4 : Int32) + (1 : Int32))), .val (.int j84)] rfl ?_
  show Go p e below _ T87 (mkF m 72 #[.val (.ref a), .val (.int (16 : Int32)), .val (.int (15 : Int32)), .val (.int ((4 : Int32) + (1 : Int32))), .val (.int j84)] [])
  rw [show ((4 : Int32) + (1 : Int32)) = (5 : Int32) from by decide]
  show Go p e below _ T87 (mkF m 72 #[.val (.ref a), .val (.int (16 : Int32)), .val (.int (15 : Int32)), .val (.int (5 : Int32)), .val (.int j84)] [])
  refine Go.goto X87 hx (hb hby d13_72) rfl 14 (by decide) (by decide) ?_
  refine Go.iloadN X87 hx (hb hby d13_14) rfl rfl  ?_
  refine Go.aloadN X87 hx (hb hby d13_15) rfl rfl rfl ?_
  refine Go.getF X87 hx hZ hown (host := "") (Or.inl (wd 33 rfl)) Via.refl e87 F93 (hb hby d13_16) rfl ?_
  intro T96 X96 e96
  refine Go.icmpYes X96 hx (hb hby d13_19) rfl 75 (flt (by decide : ¬ ((5 : Int32) < (5 : Int32)))).2.1 (by decide) (by decide) ?_
  exact Go.retV X96 hx hret hlk (hb hby d13_75) rfl (by rw [e96]; exact ⟨rfl, N90, K88, E91, g1, k1, z1, F92, F93, F94, V87⟩) (Nat.le_of_ble_eq_true rfl) (Nat.le_of_ble_eq_true rfl)
set_option maxRecDepth 65536 in
set_option maxHeartbeats 40000000 in
theorem isAdd4 (l : Launch) (Z : State) (a0 : Array Value) (hw : ∀ d ∈ tables_1, d.before a0 Z = true) (a : Addr) (x : Int32) (a_NONE : Addr) (k_NONE : ClassId) (eb sl : Addr) (kb ks : ClassId) (u0 u1 u2 u3 : Int32) (h0 : Heap) (O0 : Old Z Z.heap.size h0) (FF : Facts Z a_NONE k_NONE) (Ea : Exa Z h0 a "com/example/overrule/overrule/engine/IntSet") (ga : Z.heap.size ≤ a) (hg : Good [u0, u1, u2, u3]) (hg' : Good [u0, u1, u2, u3, x]) (hx0 : 0 ≤ x.toInt) (hxn : x ∉ ([u0, u1, u2, u3] : List Int32)) (Fe : Fld Z h0 a "com/example/overrule/overrule/engine/IntSet" "elements" "[I" (.ref eb)) (Fn : Fld Z h0 a "com/example/overrule/overrule/engine/IntSet" "size" "I" (.int (4 : Int32))) (Fs : Fld Z h0 a "com/example/overrule/overrule/engine/IntSet" "slots" "[I" (.ref sl)) (gb : Z.heap.size ≤ eb) (gs : Z.heap.size ≤ sl) (n_a_eb : a ≠ eb) (n_a_sl : a ≠ sl) (n_eb_sl : eb ≠ sl) (hsn : ¬ sl = a_NONE) (Vb : Arv Z h0 eb kb .int (4 : Int32) [(.int u0), (.int u1), (.int u2), (.int u3)] (.int (0 : Int32))) (Vs : Arv Z h0 sl ks .int (8 : Int32) ((tab 8 (hsh (7 : Int32)) [u0, u1, u2, u3]).map Value.int) (.int (0 : Int32))) : Ctr l Z (⟨"com/example/overrule/overrule/engine/IntSet", "add", "(I)Z"⟩ : MethodName) prog_46_method_2_code 4 (some .boolean) ({ frames := 3, cells := 2, slots := 24, locals := 60 } : Room) #[(.ref a), (.int x)] h0 (fun v h L => v = some (.int (1 : Int32)) ∧ Fr Z.heap.size L ∧ Keep h0 h [a, eb, sl] ∧ Exa Z h a "com/example/overrule/overrule/engine/IntSet" ∧ ∃ (eb sl : Addr) (kb ks : ClassId), h0.size ≤ eb ∧ h0.size ≤ sl ∧ eb ≠ sl ∧ Fld Z h a "com/example/overrule/overrule/engine/IntSet" "elements" "[I" (.ref eb) ∧ Fld Z h a "com/example/overrule/overrule/engine/IntSet" "size" "I" (.int (5 : Int32)) ∧ Fld Z h a "com/example/overrule/overrule/engine/IntSet" "slots" "[I" (.ref sl) ∧ Arv Z h eb kb .int (8 : Int32) [(.int u0), (.int u1), (.int u2), (.int u3), (.int x), (.int (0 : Int32)), (.int (0 : Int32)), (.int (0 : Int32))] (.int (0 : Int32)) ∧ Arv Z h sl ks .int (16 : Int32) ((tab 16 (hsh (15 : Int32)) [u0, u1, u2, u3, x]).map Value.int) (.int (0 : Int32))) := by
  refine Ctr.of (plainFor_of_name pn_4) ?_
  have wd : ∀ {d : Jvm.Cond} (i : Nat), tables_1[i]? = some d → d.before a0 Z = true := fun i q => hw _ (List.mem_of_getElem? q)
  intro p e s m below meth c s₁ hx hby hml hown hnm hret hlk hZ X0 e0
  have FF' := FF
  obtain ⟨S_NONE, V_NONE⟩ := FF'
  refine Go.cast (ef_3 m a x) ?_
  show Go p e below _ s₁ (mkF m 0 #[.val (.ref a), .val (.int x), .unset, .unset] [])
  refine Go.aloadN X0 hx (hb hby d3_0) rfl rfl rfl ?_
  refine Go.getF X0 hx hZ hown (host := "") (Or.inl (wd 14 rfl)) Via.refl e0 Fs (hb hby d3_1) rfl ?_
  intro T1 X1 e1
  refine Go.getS X1 hx hZ hown (host := "") (Or.inl (wd 10 rfl)) Via.refl e1 (S_NONE.ext O0.2) (hb hby d3_4) rfl ?_
  intro T2 X2 e2
  refine Go.acmp X2 hx (hb hby d3_7) rfl rfl rfl false (decide_eq_false fun q => hsn (Value.ref.inj q)) 26 (by decide) (by decide) ?_
  refine Go.aloadN X2 hx (hb hby d3_26) rfl rfl rfl ?_
  refine Go.getF X2 hx hZ hown (host := "") (Or.inl (wd 14 rfl)) Via.refl e2 Fs (hb hby d3_27) rfl ?_
  intro T3 X3 e3
  refine Go.alen X3 hx hZ Vs e3 (hb hby d3_30) rfl ?_
  refine Go.iconst X3 hx (hb hby d3_31) rfl (1 : Int32) rfl ?_
  refine Go.isub X3 hx (hb hby d3_32) rfl ?_
  show Go p e below _ T3 (mkF m 33 #[.val (.ref a), .val (.int x), .unset, .unset] [(.int ((8 : Int32) - (1 : Int32)))])
  rw [show ((8 : Int32) - (1 : Int32)) = (7 : Int32) from by decide]
  refine Go.istoreN X3 hx (hb hby d3_33) rfl  #[.val (.ref a), .val (.int x), .val (.int (7 : Int32)), .unset] rfl ?_
  refine Go.iloadN X3 hx (hb hby d3_34) rfl rfl  ?_
  refine Go.iloadN X3 hx (hb hby d3_35) rfl rfl  ?_
  refine Go.pureS X3 hx hZ hown (wd 29 rfl) (wd 30 rfl) (wd 3 rfl) (wd 31 rfl) (by decide) [(.int x), (.int (7 : Int32))] [] (isSlot l Z a0 hw x (7 : Int32) h0) e3 rfl (by rw [hml]; rfl) pd_2 rfl (hb hby d3_36) (Nat.le_of_ble_eq_true rfl) (Nat.le_of_ble_eq_true rfl) (Nat.le_of_ble_eq_true rfl) (Nat.le_of_ble_eq_true rfl) ?_
  intro T4 X4 e4
  refine Go.istoreN X4 hx (hb hby d3_39) rfl  #[.val (.ref a), .val (.int x), .val (.int (7 : Int32)), .val (.int (slotv x (7 : Int32)))] rfl ?_
  show Go p e below _ T4 (mkF m 40 #[.val (.ref a), .val (.int x), .val (.int (7 : Int32)), .val (.int (slotv x (7 : Int32)))] [])
  refine isProbe hw hx hby hml hown hZ a sl ks x (tab 8 (hsh (7 : Int32)) [u0, u1, u2, u3]) h0 Fs Vs (tab_nf hg hx0 hxn (Nat.le_of_ble_eq_true rfl)) 8 _ _ _ X4 e4 (ix_slot (b := 3) (by decide) rfl (by decide) (by decide) x) (free_at (inv8 hg (Nat.le_of_ble_eq_true rfl)) (Nat.le_of_ble_eq_true rfl) _) ?_
  intro T5 j5 X5 e5 hj5
  show Go p e below _ T5 (mkF m 71 #[.val (.ref a), .val (.int x), .val (.int (7 : Int32)), .val (.int j5)] [])
  refine Go.aloadN X5 hx (hb hby d3_71) rfl rfl rfl ?_
  refine Go.getF X5 hx hZ hown (host := "") (Or.inl (wd 14 rfl)) Via.refl e5 Fs (hb hby d3_72) rfl ?_
  intro T6 X6 e6
  refine Go.iloadN X6 hx (hb hby d3_75) rfl rfl  ?_
  refine Go.iloadN X6 hx (hb hby d3_76) rfl rfl  ?_
  refine Go.iastore X6 hx hZ Vs e6 ⟨hj5.1, hj5.2.1⟩ _ hj5.2.2 (by rw [List.length_map, (inv8 hg (Nat.le_of_ble_eq_true rfl)).1]; exact own_ffl hg (Nat.le_of_ble_eq_true rfl)) (hb hby d3_77) rfl ?_
  intro T7 h7 X7 e7 W7 V7'
  have V7 : Arv Z h7 sl ks .int (8 : Int32) ((tab 8 (hsh (7 : Int32)) ([u0, u1, u2, u3] ++ [x])).map Value.int) (.int (0 : Int32)) := by rw [tab_snoc, List.map_set]; exact V7'
  have K8 := (Keep.refl h0 [a, eb, sl]).wr W7 (Or.inl (List.mem_of_getElem? (i := 2) rfl))
  have O9 := O0.wr W7 gs
  have N10 := Fr.snoc X7 (Fr.nil _) gs
  have E11 := Ea.wr W7
  have F12 := Fe.other W7 (Or.inl n_a_sl)
  have F13 := Fn.other W7 (Or.inl n_a_sl)
  have F14 := Fs.other W7 (Or.inl n_a_sl)
  have V15 := Vb.other W7 n_eb_sl
  refine Go.aloadN X7 hx (hb hby d3_78) rfl rfl rfl ?_
  refine Go.getF X7 hx hZ hown (host := "") (Or.inl (wd 33 rfl)) Via.refl e7 F13 (hb hby d3_79) rfl ?_
  intro T16 X16 e16
  refine Go.aloadN X16 hx (hb hby d3_82) rfl rfl rfl ?_
  refine Go.getF X16 hx hZ hown (host := "") (Or.inl (wd 12 rfl)) Via.refl e16 F12 (hb hby d3_83) rfl ?_
  intro T17 X17 e17
  refine Go.alen X17 hx hZ V15 e17 (hb hby d3_86) rfl ?_
  refine Go.icmpNo X17 hx (hb hby d3_87) rfl (teq (by decide : (4 : Int32) = (4 : Int32))).2 ?_
  refine Go.aloadN X17 hx (hb hby d3_90) rfl rfl rfl ?_
  refine Go.aloadN X17 hx (hb hby d3_91) rfl rfl rfl ?_
  refine Go.getF X17 hx hZ hown (host := "") (Or.inl (wd 12 rfl)) Via.refl e17 F12 (hb hby d3_92) rfl ?_
  intro T18 X18 e18
  refine Go.aloadN X18 hx (hb hby d3_95) rfl rfl rfl ?_
  refine Go.getF X18 hx hZ hown (host := "") (Or.inl (wd 33 rfl)) Via.refl e18 F13 (hb hby d3_96) rfl ?_
  intro T19 X19 e19
  refine Go.iconst X19 hx (hb hby d3_99) rfl (2 : Int32) rfl ?_
  refine Go.imul X19 hx (hb hby d3_100) rfl ?_
  show Go p e below _ T19 (mkF m 101 #[.val (.ref a), .val (.int x), .val (.int (7 : Int32)), .val (.int j5)] [(.int ((4 : Int32) * (2 : Int32))), (.ref eb), (.ref a)])
  rw [show ((4 : Int32) * (2 : Int32)) = (8 : Int32) from by decide]
  refine Go.callS X19 hx hZ hown (wd 58 rfl) (wd 59 rfl) (wd 27 rfl) (wd 60 rfl) (by decide) [(.ref eb), (.int (8 : Int32))] [(.ref a)] (isCopy l Z a0 hw eb kb u0 u1 u2 u3 h7 O9 V15) e19 rfl (by rw [hml]; rfl) pd_3 rfl (hb hby d3_101) (Nat.le_of_ble_eq_true rfl) (Nat.le_of_ble_eq_true rfl) (Nat.le_of_ble_eq_true rfl) (Nat.le_of_ble_eq_true rfl) ?_
  rintro vv20 T20 L20 X20 Q20
  obtain ⟨g20, k20, rfl, N20, K20, sz20, V20⟩ := Q20
  have M21 := Fr.app N10 N20
  have q20 : Z.heap.size ≤ g20 := Nat.le_trans O9.2.1 sz20
  have z20 : h0.size ≤ g20 := Nat.le_trans K8.1 sz20
  have ne_a_g20 : a ≠ g20 := Nat.ne_of_lt (Nat.lt_of_lt_of_le E11.lt sz20)
  have ne_eb_g20 : eb ≠ g20 := Nat.ne_of_lt (Nat.lt_of_lt_of_le V15.lt sz20)
  have ne_sl_g20 : sl ≠ g20 := Nat.ne_of_lt (Nat.lt_of_lt_of_le V7.lt sz20)
  have O22 := O9.keep K20 (all0)
  have K23 := Keep.trans K8 K20 (all0)
  have E24 := E11.keep K20
  have F25 := F12.keep K20 (nin0)
  have F26 := F13.keep K20 (nin0)
  have F27 := F14.keep K20 (nin0)
  have V28 := V15.keep K20 (nin0)
  have V29 := V7.keep K20 (nin0)
  refine Go.putF X20 hx hZ hown (host := "") (Or.inl (wd 12 rfl)) Via.refl rfl F25 E24 (Or.inl (wd 13 rfl)) (wd 2 rfl) (ty := (.array .int)) (by decide) rfl rfl (hb hby d3_104) rfl ?_
  intro T30 h30 X30 e30 W30 F31
  have K32 := K23.wr W30 (Or.inl (List.mem_of_getElem? (i := 0) rfl))
  have O33 := O22.wr W30 ga
  have N34 := Fr.snoc X30 M21 ga
  have E35 := E24.wr W30
  have F36 := F26.other W30 (Or.inr (slot_ne (Or.inl (wd 34 rfl)) (Or.inl (wd 13 rfl)) (by decide) (t := .int) (t' := (.array .int)) (by decide) (by decide)))
  have F37 := F27.other W30 (Or.inr (slot_ne (Or.inl (wd 15 rfl)) (Or.inl (wd 13 rfl)) (by decide) (t := (.array .int)) (t' := (.array .int)) (by decide) (by decide)))
  have V38 := V28.other W30 (Ne.symm n_a_eb)
  have V39 := V29.other W30 (Ne.symm n_a_sl)
  have V40 := V20.other W30 (Ne.symm ne_a_g20)
  refine Go.aloadN X30 hx (hb hby d3_107) rfl rfl rfl ?_
  refine Go.getF X30 hx hZ hown (host := "") (Or.inl (wd 12 rfl)) Via.refl e30 F31 (hb hby d3_108) rfl ?_
  intro T41 X41 e41
  refine Go.aloadN X41 hx (hb hby d3_111) rfl rfl rfl ?_
  refine Go.dup X41 hx (hb hby d3_112) rfl rfl ?_
  refine Go.getF X41 hx hZ hown (host := "") (Or.inl (wd 33 rfl)) Via.refl e41 F36 (hb hby d3_113) rfl ?_
  intro T42 X42 e42
  refine Go.dupX1 X42 hx (hb hby d3_116) rfl rfl rfl ?_
  refine Go.iconst X42 hx (hb hby d3_117) rfl (1 : Int32) rfl ?_
  refine Go.iadd X42 hx (hb hby d3_118) rfl ?_
  show Go p e below _ T42 (mkF m 119 #[.val (.ref a), .val (.int x), .val (.int (7 : Int32)), .val (.int j5)] [(.int ((4 : Int32) + (1 : Int32))), (.ref a), (.int (4 : Int32)), (.ref g20)])
  rw [show ((4 : Int32) + (1 : Int32)) = (5 : Int32) from by decide]
  refine Go.putF X42 hx hZ hown (host := "") (Or.inl (wd 33 rfl)) Via.refl e42 F36 E35 (Or.inl (wd 34 rfl)) (wd 2 rfl) (ty := .int) (by decide) rfl rfl (hb hby d3_119) rfl ?_
  intro T43 h43 X43 e43 W43 F44
  have K45 := K32.wr W43 (Or.inl (List.mem_of_getElem? (i := 0) rfl))
  have O46 := O33.wr W43 ga
  have N47 := Fr.snoc X43 N34 ga
  have E48 := E35.wr W43
  have F49 := F31.other W43 (Or.inr (slot_ne (Or.inl (wd 13 rfl)) (Or.inl (wd 34 rfl)) (by decide) (t := (.array .int)) (t' := .int) (by decide) (by decide)))
  have F50 := F37.other W43 (Or.inr (slot_ne (Or.inl (wd 15 rfl)) (Or.inl (wd 34 rfl)) (by decide) (t := (.array .int)) (t' := .int) (by decide) (by decide)))
  have V51 := V38.other W43 (Ne.symm n_a_eb)
  have V52 := V39.other W43 (Ne.symm n_a_sl)
  have V53 := V40.other W43 (Ne.symm ne_a_g20)
  refine Go.iloadN X43 hx (hb hby d3_122) rfl rfl  ?_
  refine Go.iastore X43 hx hZ V53 e43 ⟨by decide, by decide⟩ 4 (by decide) (Nat.le_of_ble_eq_true rfl)  (hb hby d3_123) rfl ?_
  intro T54 h54 X54 e54 W54 V54'
  have V54 : Arv Z h54 g20 k20 .int (8 : Int32) [(.int u0), (.int u1), (.int u2), (.int u3), (.int x), (.int (0 : Int32)), (.int (0 : Int32)), (.int (0 : Int32))] (.int (0 : Int32)) := V54'
  have K55 := K45.wr W54 (Or.inr z20)
  have O56 := O46.wr W54 q20
  have N57 := Fr.snoc X54 N47 q20
  have E58 := E48.wr W54
  have F59 := F49.other W54 (Or.inl ne_a_g20)
  have F60 := F44.other W54 (Or.inl ne_a_g20)
  have F61 := F50.other W54 (Or.inl ne_a_g20)
  have V62 := V51.other W54 ne_eb_g20
  have V63 := V52.other W54 ne_sl_g20
  refine Go.aloadN X54 hx (hb hby d3_124) rfl rfl rfl ?_
  refine Go.getF X54 hx hZ hown (host := "") (Or.inl (wd 33 rfl)) Via.refl e54 F60 (hb hby d3_125) rfl ?_
  intro T64 X64 e64
  refine Go.iconst X64 hx (hb hby d3_128) rfl (2 : Int32) rfl ?_
  refine Go.imul X64 hx (hb hby d3_129) rfl ?_
  show Go p e below _ T64 (mkF m 130 #[.val (.ref a), .val (.int x), .val (.int (7 : Int32)), .val (.int j5)] [(.int ((5 : Int32) * (2 : Int32)))])
  rw [show ((5 : Int32) * (2 : Int32)) = (10 : Int32) from by decide]
  refine Go.aloadN X64 hx (hb hby d3_130) rfl rfl rfl ?_
  refine Go.getF X64 hx hZ hown (host := "") (Or.inl (wd 14 rfl)) Via.refl e64 F61 (hb hby d3_131) rfl ?_
  intro T65 X65 e65
  refine Go.alen X65 hx hZ V63 e65 (hb hby d3_134) rfl ?_
  refine Go.icmpNo X65 hx (hb hby d3_135) rfl (tlt (by decide : (8 : Int32) < (10 : Int32))).2.2.2 ?_
  refine Go.aloadN X65 hx (hb hby d3_138) rfl rfl rfl ?_
  refine Go.aloadN X65 hx (hb hby d3_139) rfl rfl rfl ?_
  refine Go.getF X65 hx hZ hown (host := "") (Or.inl (wd 14 rfl)) Via.refl e65 F61 (hb hby d3_140) rfl ?_
  intro T66 X66 e66
  refine Go.alen X66 hx hZ V63 e66 (hb hby d3_143) rfl ?_
  refine Go.iconst X66 hx (hb hby d3_144) rfl (2 : Int32) rfl ?_
  refine Go.imul X66 hx (hb hby d3_145) rfl ?_
  show Go p e below _ T66 (mkF m 146 #[.val (.ref a), .val (.int x), .val (.int (7 : Int32)), .val (.int j5)] [(.int ((8 : Int32) * (2 : Int32))), (.ref a)])
  rw [show ((8 : Int32) * (2 : Int32)) = (16 : Int32) from by decide]
  refine Go.callP X66 hx hZ hown (wd 66 rfl) (wd 67 rfl) (wd 68 rfl) (y' := (⟨"com/example/overrule/overrule/engine/IntSet", "add", "(I)Z"⟩ : MethodName)) rfl (wd 19 rfl) (wd 3 rfl) (wd 69 rfl) (by decide) [(.int (16 : Int32))] [] E58 (isRehash l Z a0 hw a g20 sl k20 u0 u1 u2 u3 x h54 O56 E58 ga hg' F59 F60 F61 ne_a_g20 V54) e66 rfl (by rw [hml]; rfl) pd_4 rfl (hb hby d3_146) (Nat.le_of_ble_eq_true rfl) (Nat.le_of_ble_eq_true rfl) (Nat.le_of_ble_eq_true rfl) (Nat.le_of_ble_eq_true rfl) ?_
  rintro vv67 T67 L67 X67 Q67
  obtain ⟨rfl, N67, K67, Y67, g67, k67, sz67, Fe67, Fn67, Fs67, V67⟩ := Q67
  have M68 := Fr.app N57 N67
  have q67 : Z.heap.size ≤ g67 := Nat.le_trans O56.2.1 sz67
  have z67 : h0.size ≤ g67 := Nat.le_trans K55.1 sz67
  have ne_a_g67 : a ≠ g67 := Nat.ne_of_lt (Nat.lt_of_lt_of_le E58.lt sz67)
  have ne_eb_g67 : eb ≠ g67 := Nat.ne_of_lt (Nat.lt_of_lt_of_le V62.lt sz67)
  have ne_sl_g67 : sl ≠ g67 := Nat.ne_of_lt (Nat.lt_of_lt_of_le V63.lt sz67)
  have ne_g20_g67 : g20 ≠ g67 := Nat.ne_of_lt (Nat.lt_of_lt_of_le V54.lt sz67)
  have O69 := O56.keep K67 (allS ga (all0))
  have K70 := Keep.trans K55 K67 (allS (Or.inl (List.mem_of_getElem? (i := 0) rfl)) (all0))
  have E71 := E58.keep K67
  have V72 := V62.keep K67 (ninS (Ne.symm n_a_eb) (nin0))
  have V73 := V63.keep K67 (ninS (Ne.symm n_a_sl) (nin0))
  have V74 := V54.keep K67 (ninS (Ne.symm ne_a_g20) (nin0))
  refine Go.iconst X67 hx (hb hby d3_149) rfl (1 : Int32) rfl ?_
  exact Go.retZ X67 hx (z' := (1 : Int32)) hret hlk (hb hby d3_150) rfl (by decide) ⟨rfl, M68, K70, Y67, g20, g67, k20, k67, z20, z67, ne_g20_g67, Fe67, Fn67, Fs67, V74, V67⟩ (Nat.le_of_ble_eq_true rfl) (Nat.le_of_ble_eq_true rfl)
set_option maxRecDepth 65536 in
set_option maxHeartbeats 40000000 in
theorem isAddF (l : Launch) (Z : State) (a0 : Array Value) (hw : ∀ d ∈ tables_1, d.before a0 Z = true) (a sl : Addr) (ks : ClassId) (x : Int32) (t : List Int32) (a_NONE : Addr) (k_NONE : ClassId) (h0 : Heap) (O0 : Old Z Z.heap.size h0) (FF : Facts Z a_NONE k_NONE) (Fs : Fld Z h0 a "com/example/overrule/overrule/engine/IntSet" "slots" "[I" (.ref sl)) (hsn : ¬ sl = a_NONE) (Vs : Arv Z h0 sl ks .int (8 : Int32) (t.map Value.int) (.int (0 : Int32))) (hl : lookN t 8 x 8 (hsh (7 : Int32) x) = true) : Ctr l Z (⟨"com/example/overrule/overrule/engine/IntSet", "add", "(I)Z"⟩ : MethodName) prog_46_method_2_code 4 (some .boolean) ({ frames := 3, cells := 2, slots := 24, locals := 60 } : Room) #[(.ref a), (.int x)] h0 (fun v h L => v = some (.int (0 : Int32)) ∧ L = [] ∧ h = h0) := by
  refine Ctr.of (plainFor_of_name pn_4) ?_
  have wd : ∀ {d : Jvm.Cond} (i : Nat), tables_1[i]? = some d → d.before a0 Z = true := fun i q => hw _ (List.mem_of_getElem? q)
  intro p e s m below meth c s₁ hx hby hml hown hnm hret hlk hZ X0 e0
  have FF' := FF
  obtain ⟨S_NONE, V_NONE⟩ := FF'
  refine Go.cast (ef_3 m a x) ?_
  show Go p e below _ s₁ (mkF m 0 #[.val (.ref a), .val (.int x), .unset, .unset] [])
  refine Go.aloadN X0 hx (hb hby d3_0) rfl rfl rfl ?_
  refine Go.getF X0 hx hZ hown (host := "") (Or.inl (wd 14 rfl)) Via.refl e0 Fs (hb hby d3_1) rfl ?_
  intro T1 X1 e1
  refine Go.getS X1 hx hZ hown (host := "") (Or.inl (wd 10 rfl)) Via.refl e1 (S_NONE.ext O0.2) (hb hby d3_4) rfl ?_
  intro T2 X2 e2
  refine Go.acmp X2 hx (hb hby d3_7) rfl rfl rfl false (decide_eq_false fun q => hsn (Value.ref.inj q)) 26 (by decide) (by decide) ?_
  refine Go.aloadN X2 hx (hb hby d3_26) rfl rfl rfl ?_
  refine Go.getF X2 hx hZ hown (host := "") (Or.inl (wd 14 rfl)) Via.refl e2 Fs (hb hby d3_27) rfl ?_
  intro T3 X3 e3
  refine Go.alen X3 hx hZ Vs e3 (hb hby d3_30) rfl ?_
  refine Go.iconst X3 hx (hb hby d3_31) rfl (1 : Int32) rfl ?_
  refine Go.isub X3 hx (hb hby d3_32) rfl ?_
  show Go p e below _ T3 (mkF m 33 #[.val (.ref a), .val (.int x), .unset, .unset] [(.int ((8 : Int32) - (1 : Int32)))])
  rw [show ((8 : Int32) - (1 : Int32)) = (7 : Int32) from by decide]
  refine Go.istoreN X3 hx (hb hby d3_33) rfl  #[.val (.ref a), .val (.int x), .val (.int (7 : Int32)), .unset] rfl ?_
  refine Go.iloadN X3 hx (hb hby d3_34) rfl rfl  ?_
  refine Go.iloadN X3 hx (hb hby d3_35) rfl rfl  ?_
  refine Go.pureS X3 hx hZ hown (wd 29 rfl) (wd 30 rfl) (wd 3 rfl) (wd 31 rfl) (by decide) [(.int x), (.int (7 : Int32))] [] (isSlot l Z a0 hw x (7 : Int32) h0) e3 rfl (by rw [hml]; rfl) pd_2 rfl (hb hby d3_36) (Nat.le_of_ble_eq_true rfl) (Nat.le_of_ble_eq_true rfl) (Nat.le_of_ble_eq_true rfl) (Nat.le_of_ble_eq_true rfl) ?_
  intro T4 X4 e4
  refine Go.istoreN X4 hx (hb hby d3_39) rfl  #[.val (.ref a), .val (.int x), .val (.int (7 : Int32)), .val (.int (slotv x (7 : Int32)))] rfl ?_
  show Go p e below _ T4 (mkF m 40 #[.val (.ref a), .val (.int x), .val (.int (7 : Int32)), .val (.int (slotv x (7 : Int32)))] [])
  refine isFound hw hx hby hml hown hZ a sl ks x t h0 Fs Vs 8 _ _ _ X4 e4 (ix_slot (b := 3) (by decide) rfl (by decide) (by decide) x) hl ?_
  intro T5 j5 X5 e5
  show Go p e below _ T5 (mkF m 60 #[.val (.ref a), .val (.int x), .val (.int (7 : Int32)), .val (.int j5)] [])
  refine Go.iconst X5 hx (hb hby d3_60) rfl (0 : Int32) rfl ?_
  exact Go.retZ X5 hx (z' := (0 : Int32)) hret hlk (hb hby d3_61) rfl (by decide) (by rw [e5]; exact ⟨rfl, rfl, rfl⟩) (Nat.le_of_ble_eq_true rfl) (Nat.le_of_ble_eq_true rfl)
set_option maxRecDepth 65536 in
set_option maxHeartbeats 40000000 in
theorem isAddR (l : Launch) (Z : State) (a0 : Array Value) (hw : ∀ d ∈ tables_1, d.before a0 Z = true) (a : Addr) (x : Int32) (a_NONE : Addr) (k_NONE : ClassId) (es : List Int32) (h0 : Heap) (O0 : Old Z Z.heap.size h0) (FF : Facts Z a_NONE k_NONE) (R : Rep Z a_NONE h0 a es) (hx0 : 0 ≤ x.toInt) (hl : es.length ≤ 4) : Ctr l Z (⟨"com/example/overrule/overrule/engine/IntSet", "add", "(I)Z"⟩ : MethodName) prog_46_method_2_code 4 (some .boolean) ({ frames := 3, cells := 2, slots := 24, locals := 60 } : Room) #[(.ref a), (.int x)] h0 (fun v h L => v = some (.int (if x ∈ es then 0 else 1)) ∧ Fr Z.heap.size L ∧ Blw a h0 h ∧ Rep Z a_NONE h a (addL es x)) := by
  obtain ⟨ga, hg, Ea, ⟨rfl, Fe, Fn, Fs⟩ | ⟨he, h4, eb, sl, kb, ks, pad, l1, l2, ne, lp, Fe, Fn, Fs, Vb, Vs⟩ | ⟨h5, -⟩⟩ := R
  · refine (isAdd0 l Z a0 hw a x a_NONE k_NONE h0 O0 FF Ea ga hg hx0 List.not_mem_nil Fe Fn Fs).mono ?_
    rintro v h L ⟨rfl, N, K, E, eb, sl, kb, ks, s1, s2, ne, F1, F2, F3, V1, V2⟩
    exact ⟨by simp, N, Blw.of K (by simp), ga, good_addL hg hx0, E, Or.inr (Or.inl ⟨by simp [addL], by simp [addL], eb, sl, kb, ks, [0, 0, 0], Nat.lt_of_lt_of_le Ea.lt s1, Nat.lt_of_lt_of_le Ea.lt s2, ne, rfl, F1, F2, F3, V1, V2⟩)⟩
  · have FF' := FF
    obtain ⟨S_NONE, V_NONE⟩ := FF'
    have hsn : ¬ sl = a_NONE := fun q => by have h1 := V_NONE.lt; have h2 := Nat.lt_of_le_of_lt ga l2; rw [q] at h2; exact absurd (Nat.lt_trans h1 h2) (Nat.lt_irrefl _)
    have gb : Z.heap.size ≤ eb := Nat.le_trans ga (Nat.le_of_lt l1)
    have gs : Z.heap.size ≤ sl := Nat.le_trans ga (Nat.le_of_lt l2)
    by_cases hx : x ∈ es
    · refine (isAddF l Z a0 hw a sl ks x (tab 8 (hsh (7 : Int32)) es) a_NONE k_NONE h0 O0 FF Fs hsn Vs (by rw [rep_look8 x hg (by omega)]; exact decide_eq_true hx)).mono ?_
      rintro v h L ⟨rfl, rfl, rfl⟩
      rw [if_pos hx, show addL es x = es from if_pos hx]
      exact ⟨rfl, Fr.nil _, Blw.refl _ _, ga, hg, Ea, Or.inr (Or.inl ⟨he, h4, eb, sl, kb, ks, pad, l1, l2, ne, lp, Fe, Fn, Fs, Vb, Vs⟩)⟩
    · have hg' := good_addL hg hx0
      rw [show addL es x = es ++ [x] from if_neg hx] at hg' ⊢
      rw [if_neg hx]
      rcases es with _ | ⟨u0, _ | ⟨u1, _ | ⟨u2, _ | ⟨u3, _ | ⟨u4, es⟩⟩⟩⟩⟩
      · exact absurd rfl he
      · obtain ⟨w1, w2, w3, rfl⟩ := len_3 (l := pad) (by simpa using lp)
        refine (isAdd1 l Z a0 hw a x a_NONE k_NONE eb sl kb ks u0 w1 w2 w3 h0 O0 FF Ea ga hg hx0 hx Fe Fn Fs gb gs (Nat.ne_of_lt l1) (Nat.ne_of_lt l2) ne hsn Vb Vs).mono ?_
        rintro v h L ⟨rfl, N, K, E, F1, F2, F3, V1, V2⟩
        exact ⟨rfl, N, Blw.of K (by simp [Nat.le_of_lt l1, Nat.le_of_lt l2]), ga, hg', E, Or.inr (Or.inl ⟨by simp, by simp, eb, sl, kb, ks, [w2, w3], l1, l2, ne, rfl, F1, F2, F3, V1, V2⟩)⟩
      · obtain ⟨w2, w3, rfl⟩ := len_2 (l := pad) (by simpa using lp)
        refine (isAdd2 l Z a0 hw a x a_NONE k_NONE eb sl kb ks u0 u1 w2 w3 h0 O0 FF Ea ga hg hx0 hx Fe Fn Fs gb gs (Nat.ne_of_lt l1) (Nat.ne_of_lt l2) ne hsn Vb Vs).mono ?_
        rintro v h L ⟨rfl, N, K, E, F1, F2, F3, V1, V2⟩
        exact ⟨rfl, N, Blw.of K (by simp [Nat.le_of_lt l1, Nat.le_of_lt l2]), ga, hg', E, Or.inr (Or.inl ⟨by simp, by simp, eb, sl, kb, ks, [w3], l1, l2, ne, rfl, F1, F2, F3, V1, V2⟩)⟩
      · obtain ⟨w3, rfl⟩ := len_1 (l := pad) (by simpa using lp)
        refine (isAdd3 l Z a0 hw a x a_NONE k_NONE eb sl kb ks u0 u1 u2 w3 h0 O0 FF Ea ga hg hx0 hx Fe Fn Fs gb gs (Nat.ne_of_lt l1) (Nat.ne_of_lt l2) ne hsn Vb Vs).mono ?_
        rintro v h L ⟨rfl, N, K, E, F1, F2, F3, V1, V2⟩
        exact ⟨rfl, N, Blw.of K (by simp [Nat.le_of_lt l1, Nat.le_of_lt l2]), ga, hg', E, Or.inr (Or.inl ⟨by simp, by simp, eb, sl, kb, ks, [], l1, l2, ne, rfl, F1, F2, F3, V1, V2⟩)⟩
      · obtain rfl : pad = [] := List.eq_nil_of_length_eq_zero (by simpa using lp)
        refine (isAdd4 l Z a0 hw a x a_NONE k_NONE eb sl kb ks u0 u1 u2 u3 h0 O0 FF Ea ga hg hg' hx0 hx Fe Fn Fs gb gs (Nat.ne_of_lt l1) (Nat.ne_of_lt l2) ne hsn Vb Vs).mono ?_
        rintro v h L ⟨rfl, N, K, E, eb', sl', kb', ks', s1, s2, ne', F1, F2, F3, V1, V2⟩
        exact ⟨rfl, N, Blw.of K (by simp [Nat.le_of_lt l1, Nat.le_of_lt l2]), ga, hg', E, Or.inr (Or.inr ⟨rfl, eb', sl', kb', ks', [0, 0, 0], Nat.lt_of_lt_of_le Ea.lt s1, Nat.lt_of_lt_of_le Ea.lt s2, ne', rfl, F1, F2, F3, V1, V2⟩)⟩
      · exact absurd hl (by simp <;> omega)
  · omega
theorem d11_0 : decode prog_46_method_3_code 0 = .ok (.aload_n 0, 1) := by decide +kernel
theorem d11_1 : decode prog_46_method_3_code 1 = .ok (.getfield 27, 3) := by decide +kernel
theorem d11_4 : decode prog_46_method_3_code 4 = .ok (.ifCond .ne 5, 3) := by decide +kernel
theorem d11_7 : decode prog_46_method_3_code 7 = .ok (.iconst 0, 1) := by decide +kernel
theorem d11_8 : decode prog_46_method_3_code 8 = .ok (.ireturn, 1) := by decide +kernel
theorem d11_9 : decode prog_46_method_3_code 9 = .ok (.aload_n 0, 1) := by decide +kernel
theorem d11_10 : decode prog_46_method_3_code 10 = .ok (.getfield 16, 3) := by decide +kernel
theorem d11_13 : decode prog_46_method_3_code 13 = .ok (.arraylength, 1) := by decide +kernel
theorem d11_14 : decode prog_46_method_3_code 14 = .ok (.iconst 1, 1) := by decide +kernel
theorem d11_15 : decode prog_46_method_3_code 15 = .ok (.isub, 1) := by decide +kernel
theorem d11_16 : decode prog_46_method_3_code 16 = .ok (.istore_n 2, 1) := by decide +kernel
theorem d11_17 : decode prog_46_method_3_code 17 = .ok (.iload_n 1, 1) := by decide +kernel
theorem d11_18 : decode prog_46_method_3_code 18 = .ok (.iload_n 2, 1) := by decide +kernel
theorem d11_19 : decode prog_46_method_3_code 19 = .ok (.invokestatic 23, 3) := by decide +kernel
theorem d11_22 : decode prog_46_method_3_code 22 = .ok (.istore_n 3, 1) := by decide +kernel
theorem d11_23 : decode prog_46_method_3_code 23 = .ok (.aload_n 0, 1) := by decide +kernel
theorem d11_24 : decode prog_46_method_3_code 24 = .ok (.getfield 16, 3) := by decide +kernel
theorem d11_27 : decode prog_46_method_3_code 27 = .ok (.iload_n 3, 1) := by decide +kernel
theorem d11_28 : decode prog_46_method_3_code 28 = .ok (.iaload, 1) := by decide +kernel
theorem d11_29 : decode prog_46_method_3_code 29 = .ok (.iconst (-1), 1) := by decide +kernel
theorem d11_30 : decode prog_46_method_3_code 30 = .ok (.if_icmp .eq 24, 3) := by decide +kernel
theorem d11_33 : decode prog_46_method_3_code 33 = .ok (.aload_n 0, 1) := by decide +kernel
theorem d11_34 : decode prog_46_method_3_code 34 = .ok (.getfield 16, 3) := by decide +kernel
theorem d11_37 : decode prog_46_method_3_code 37 = .ok (.iload_n 3, 1) := by decide +kernel
theorem d11_38 : decode prog_46_method_3_code 38 = .ok (.iaload, 1) := by decide +kernel
theorem d11_39 : decode prog_46_method_3_code 39 = .ok (.iload_n 1, 1) := by decide +kernel
theorem d11_40 : decode prog_46_method_3_code 40 = .ok (.if_icmp .ne 5, 3) := by decide +kernel
theorem d11_43 : decode prog_46_method_3_code 43 = .ok (.iconst 1, 1) := by decide +kernel
theorem d11_44 : decode prog_46_method_3_code 44 = .ok (.ireturn, 1) := by decide +kernel
theorem d11_45 : decode prog_46_method_3_code 45 = .ok (.iload_n 3, 1) := by decide +kernel
theorem d11_46 : decode prog_46_method_3_code 46 = .ok (.iconst 1, 1) := by decide +kernel
theorem d11_47 : decode prog_46_method_3_code 47 = .ok (.iadd, 1) := by decide +kernel
theorem d11_48 : decode prog_46_method_3_code 48 = .ok (.iload_n 2, 1) := by decide +kernel
theorem d11_49 : decode prog_46_method_3_code 49 = .ok (.iand, 1) := by decide +kernel
theorem d11_50 : decode prog_46_method_3_code 50 = .ok (.istore_n 3, 1) := by decide +kernel
theorem d11_51 : decode prog_46_method_3_code 51 = .ok (.goto (-28), 3) := by decide +kernel
theorem d11_54 : decode prog_46_method_3_code 54 = .ok (.iconst 0, 1) := by decide +kernel
theorem d11_55 : decode prog_46_method_3_code 55 = .ok (.ireturn, 1) := by decide +kernel
theorem ef_11 (m : MethodId) (x0 : Addr) (x1 : Int32) : entryFrame m #[(.ref x0), (.int x1)] 4 = mkF m 0 #[.val (.ref x0), .val (.int x1), .unset, .unset] [] := by first | (simp [entryFrame, mkF, argsToLocals, Value.category]; done) | rfl
set_option maxRecDepth 65536 in
set_option maxHeartbeats 40000000 in
theorem isHas8 (l : Launch) (Z : State) (a0 : Array Value) (hw : ∀ d ∈ tables_1, d.before a0 Z = true) (a sl : Addr) (ks : ClassId) (n x : Int32) (t : List Int32) (h0 : Heap) (Fn : Fld Z h0 a "com/example/overrule/overrule/engine/IntSet" "size" "I" (.int n)) (hn : ¬ n = 0) (Fs : Fld Z h0 a "com/example/overrule/overrule/engine/IntSet" "slots" "[I" (.ref sl)) (Vs : Arv Z h0 sl ks .int (8 : Int32) (t.map Value.int) (.int (0 : Int32))) (hf : ∃ d, d < 8 ∧ t.getD ((hsh (7 : Int32) x + d) % 8) 0 = -1) : Pur l Z (⟨"com/example/overrule/overrule/engine/IntSet", "contains", "(I)Z"⟩ : MethodName) prog_46_method_3_code 4 (some .boolean) 1 14 #[(.ref a), (.int x)] h0 (some (.int (if lookN t 8 x 8 (hsh (7 : Int32) x) = true then 1 else 0 : Int32))) := by
  refine Ctr.of (plainFor_of_name pn_4) ?_
  have wd : ∀ {d : Jvm.Cond} (i : Nat), tables_1[i]? = some d → d.before a0 Z = true := fun i q => hw _ (List.mem_of_getElem? q)
  intro p e s m below meth c s₁ hx hby hml hown hnm hret hlk hZ X0 e0
  refine Go.cast (ef_11 m a x) ?_
  show Go p e below _ s₁ (mkF m 0 #[.val (.ref a), .val (.int x), .unset, .unset] [])
  refine Go.aloadN X0 hx (hb hby d11_0) rfl rfl rfl ?_
  refine Go.getF X0 hx hZ hown (host := "") (Or.inl (wd 33 rfl)) Via.refl e0 Fn (hb hby d11_1) rfl ?_
  intro T1 X1 e1
  refine Go.ifYes X1 hx (hb hby d11_4) rfl 9 ((if0 _ _).trans (feq hn).2) (by decide) (by decide) ?_
  refine Go.aloadN X1 hx (hb hby d11_9) rfl rfl rfl ?_
  refine Go.getF X1 hx hZ hown (host := "") (Or.inl (wd 14 rfl)) Via.refl e1 Fs (hb hby d11_10) rfl ?_
  intro T2 X2 e2
  refine Go.alen X2 hx hZ Vs e2 (hb hby d11_13) rfl ?_
  refine Go.iconst X2 hx (hb hby d11_14) rfl (1 : Int32) rfl ?_
  refine Go.isub X2 hx (hb hby d11_15) rfl ?_
  show Go p e below _ T2 (mkF m 16 #[.val (.ref a), .val (.int x), .unset, .unset] [(.int ((8 : Int32) - (1 : Int32)))])
  rw [show ((8 : Int32) - (1 : Int32)) = (7 : Int32) from by decide]
  refine Go.istoreN X2 hx (hb hby d11_16) rfl  #[.val (.ref a), .val (.int x), .val (.int (7 : Int32)), .unset] rfl ?_
  refine Go.iloadN X2 hx (hb hby d11_17) rfl rfl  ?_
  refine Go.iloadN X2 hx (hb hby d11_18) rfl rfl  ?_
  refine Go.pureS X2 hx hZ hown (wd 29 rfl) (wd 30 rfl) (wd 3 rfl) (wd 31 rfl) (by decide) [(.int x), (.int (7 : Int32))] [] (isSlot l Z a0 hw x (7 : Int32) h0) e2 rfl (by rw [hml]; rfl) pd_2 rfl (hb hby d11_19) (Nat.le_of_ble_eq_true rfl) (Nat.le_of_ble_eq_true rfl) (Nat.le_of_ble_eq_true rfl) (Nat.le_of_ble_eq_true rfl) ?_
  intro T3 X3 e3
  refine Go.istoreN X3 hx (hb hby d11_22) rfl  #[.val (.ref a), .val (.int x), .val (.int (7 : Int32)), .val (.int (slotv x (7 : Int32)))] rfl ?_
  have loop : ∀ (k : Nat) (j : Int32) (i : Nat) (T : State), Stand p l e ({ frames := 1, cells := 0, slots := 0, locals := 14 } : Room) s m #[(.ref a), (.int x)] below meth c T [] 0 0 → T.heap = h0 → Ix (8 : Int32) j i → (∃ d, d < k ∧ t.getD ((i + d) % 8) 0 = -1) → lookN t 8 x k i = lookN t 8 x 8 (hsh (7 : Int32) x) → Go p e below (OwnEnd (fun v h' L => v = some (.int (if lookN t 8 x 8 (hsh (7 : Int32) x) = true then 1 else 0 : Int32)) ∧ L = [] ∧ h' = h0) s 0 0) T (mkF m 23 #[.val (.ref a), .val (.int x), .val (.int (7 : Int32)), .val (.int j)] []) := by
    intro k
    induction k with
    | zero => rintro j i T X e hj ⟨d, hd, -⟩; omega
    | succ k ih =>
      intro j i T9 X9 e9 hj hf hl
      have hi : i < 8 := by have := hj.int; have h2 := Int32.lt_iff_toInt_lt.mp hj.2.1; rw [show ((8 : Int32)).toInt = 8 from by decide] at h2; omega
      show Go p e below _ T9 (mkF m 23 #[.val (.ref a), .val (.int x), .val (.int (7 : Int32)), .val (.int j)] [])
      refine Go.aloadN X9 hx (hb hby d11_23) rfl rfl rfl ?_
      refine Go.getF X9 hx hZ hown (host := "") (Or.inl (wd 14 rfl)) Via.refl e9 Fs (hb hby d11_24) rfl ?_
      intro T4 X4 e4
      refine Go.iloadN X4 hx (hb hby d11_27) rfl rfl  ?_
      refine Go.iaload X4 hx hZ (.int (t.getD i 0)) Vs e4  ⟨hj.1, hj.2.1⟩ (own_getD hj.2.2) (hb hby d11_28) rfl ?_
      refine Go.iconst X4 hx (hb hby d11_29) rfl (-1 : Int32) rfl ?_
      by_cases hc5 : (t.getD i 0) = (-1 : Int32)
      · refine Go.icmpYes X4 hx (hb hby d11_30) rfl 54 (teq hc5).1 (by decide) (by decide) ?_
        refine Go.iconst X4 hx (hb hby d11_54) rfl (0 : Int32) rfl ?_
        exact Go.retZ X4 hx (z' := (0 : Int32)) hret hlk (hb hby d11_55) rfl (by decide) (by rw [e4]; exact ⟨by rw [← hl]; unfold lookN; rw [if_pos hc5]; rfl, rfl, rfl⟩) (Nat.le_of_ble_eq_true rfl) (Nat.le_of_ble_eq_true rfl)
      · refine Go.icmpNo X4 hx (hb hby d11_30) rfl (feq hc5).1 ?_
        refine Go.aloadN X4 hx (hb hby d11_33) rfl rfl rfl ?_
        refine Go.getF X4 hx hZ hown (host := "") (Or.inl (wd 14 rfl)) Via.refl e4 Fs (hb hby d11_34) rfl ?_
        intro T6 X6 e6
        refine Go.iloadN X6 hx (hb hby d11_37) rfl rfl  ?_
        refine Go.iaload X6 hx hZ (.int (t.getD i 0)) Vs e6  ⟨hj.1, hj.2.1⟩ (own_getD hj.2.2) (hb hby d11_38) rfl ?_
        refine Go.iloadN X6 hx (hb hby d11_39) rfl rfl  ?_
        by_cases hc7 : (t.getD i 0) = x
        · refine Go.icmpNo X6 hx (hb hby d11_40) rfl (teq hc7).2 ?_
          refine Go.iconst X6 hx (hb hby d11_43) rfl (1 : Int32) rfl ?_
          exact Go.retZ X6 hx (z' := (1 : Int32)) hret hlk (hb hby d11_44) rfl (by decide) (by rw [e6]; exact ⟨by rw [← hl]; unfold lookN; rw [if_neg hc5, if_pos hc7]; rfl, rfl, rfl⟩) (Nat.le_of_ble_eq_true rfl) (Nat.le_of_ble_eq_true rfl)
        · refine Go.icmpYes X6 hx (hb hby d11_40) rfl 45 (feq hc7).2 (by decide) (by decide) ?_
          refine Go.iloadN X6 hx (hb hby d11_45) rfl rfl  ?_
          refine Go.iconst X6 hx (hb hby d11_46) rfl (1 : Int32) rfl ?_
          refine Go.iadd X6 hx (hb hby d11_47) rfl ?_
          refine Go.iloadN X6 hx (hb hby d11_48) rfl rfl  ?_
          refine Go.iand X6 hx (hb hby d11_49) rfl ?_
          refine Go.istoreN X6 hx (hb hby d11_50) rfl  #[.val (.ref a), .val (.int x), .val (.int (7 : Int32)), .val (.int ((j + (1 : Int32)) &&& (7 : Int32)))] rfl ?_
          refine Go.goto X6 hx (hb hby d11_51) rfl 23 (by decide) (by decide) ?_
          show Go p e below _ T6 (mkF m 23 #[.val (.ref a), .val (.int x), .val (.int (7 : Int32)), .val (.int ((j + (1 : Int32)) &&& (7 : Int32)))] [])
          refine ih _ ((i + 1) % 8) _ X6 e6 (ix_next (b := 3) (by decide) rfl (by decide) (by decide) hj) ?_ ?_
          · obtain ⟨d, hd, hv⟩ := hf
            cases d with
            | zero => rw [Nat.add_zero, Nat.mod_eq_of_lt hi] at hv; exact absurd hv hc5
            | succ d => exact ⟨d, by omega, by rw [step_mod]; exact hv⟩
          · rw [← hl]; conv => rhs; unfold lookN
            rw [if_neg hc5, if_neg hc7]
  show Go p e below _ T3 (mkF m 23 #[.val (.ref a), .val (.int x), .val (.int (7 : Int32)), .val (.int (slotv x (7 : Int32)))] [])
  exact loop 8 _ _ _ X3 e3 (ix_slot (b := 3) (by decide) rfl (by decide) (by decide) x) hf rfl
set_option maxRecDepth 65536 in
set_option maxHeartbeats 40000000 in
theorem isHas16 (l : Launch) (Z : State) (a0 : Array Value) (hw : ∀ d ∈ tables_1, d.before a0 Z = true) (a sl : Addr) (ks : ClassId) (n x : Int32) (t : List Int32) (h0 : Heap) (Fn : Fld Z h0 a "com/example/overrule/overrule/engine/IntSet" "size" "I" (.int n)) (hn : ¬ n = 0) (Fs : Fld Z h0 a "com/example/overrule/overrule/engine/IntSet" "slots" "[I" (.ref sl)) (Vs : Arv Z h0 sl ks .int (16 : Int32) (t.map Value.int) (.int (0 : Int32))) (hf : ∃ d, d < 16 ∧ t.getD ((hsh (15 : Int32) x + d) % 16) 0 = -1) : Pur l Z (⟨"com/example/overrule/overrule/engine/IntSet", "contains", "(I)Z"⟩ : MethodName) prog_46_method_3_code 4 (some .boolean) 1 14 #[(.ref a), (.int x)] h0 (some (.int (if lookN t 16 x 16 (hsh (15 : Int32) x) = true then 1 else 0 : Int32))) := by
  refine Ctr.of (plainFor_of_name pn_4) ?_
  have wd : ∀ {d : Jvm.Cond} (i : Nat), tables_1[i]? = some d → d.before a0 Z = true := fun i q => hw _ (List.mem_of_getElem? q)
  intro p e s m below meth c s₁ hx hby hml hown hnm hret hlk hZ X0 e0
  refine Go.cast (ef_11 m a x) ?_
  show Go p e below _ s₁ (mkF m 0 #[.val (.ref a), .val (.int x), .unset, .unset] [])
  refine Go.aloadN X0 hx (hb hby d11_0) rfl rfl rfl ?_
  refine Go.getF X0 hx hZ hown (host := "") (Or.inl (wd 33 rfl)) Via.refl e0 Fn (hb hby d11_1) rfl ?_
  intro T1 X1 e1
  refine Go.ifYes X1 hx (hb hby d11_4) rfl 9 ((if0 _ _).trans (feq hn).2) (by decide) (by decide) ?_
  refine Go.aloadN X1 hx (hb hby d11_9) rfl rfl rfl ?_
  refine Go.getF X1 hx hZ hown (host := "") (Or.inl (wd 14 rfl)) Via.refl e1 Fs (hb hby d11_10) rfl ?_
  intro T2 X2 e2
  refine Go.alen X2 hx hZ Vs e2 (hb hby d11_13) rfl ?_
  refine Go.iconst X2 hx (hb hby d11_14) rfl (1 : Int32) rfl ?_
  refine Go.isub X2 hx (hb hby d11_15) rfl ?_
  show Go p e below _ T2 (mkF m 16 #[.val (.ref a), .val (.int x), .unset, .unset] [(.int ((16 : Int32) - (1 : Int32)))])
  rw [show ((16 : Int32) - (1 : Int32)) = (15 : Int32) from by decide]
  refine Go.istoreN X2 hx (hb hby d11_16) rfl  #[.val (.ref a), .val (.int x), .val (.int (15 : Int32)), .unset] rfl ?_
  refine Go.iloadN X2 hx (hb hby d11_17) rfl rfl  ?_
  refine Go.iloadN X2 hx (hb hby d11_18) rfl rfl  ?_
  refine Go.pureS X2 hx hZ hown (wd 29 rfl) (wd 30 rfl) (wd 3 rfl) (wd 31 rfl) (by decide) [(.int x), (.int (15 : Int32))] [] (isSlot l Z a0 hw x (15 : Int32) h0) e2 rfl (by rw [hml]; rfl) pd_2 rfl (hb hby d11_19) (Nat.le_of_ble_eq_true rfl) (Nat.le_of_ble_eq_true rfl) (Nat.le_of_ble_eq_true rfl) (Nat.le_of_ble_eq_true rfl) ?_
  intro T3 X3 e3
  refine Go.istoreN X3 hx (hb hby d11_22) rfl  #[.val (.ref a), .val (.int x), .val (.int (15 : Int32)), .val (.int (slotv x (15 : Int32)))] rfl ?_
  have loop : ∀ (k : Nat) (j : Int32) (i : Nat) (T : State), Stand p l e ({ frames := 1, cells := 0, slots := 0, locals := 14 } : Room) s m #[(.ref a), (.int x)] below meth c T [] 0 0 → T.heap = h0 → Ix (16 : Int32) j i → (∃ d, d < k ∧ t.getD ((i + d) % 16) 0 = -1) → lookN t 16 x k i = lookN t 16 x 16 (hsh (15 : Int32) x) → Go p e below (OwnEnd (fun v h' L => v = some (.int (if lookN t 16 x 16 (hsh (15 : Int32) x) = true then 1 else 0 : Int32)) ∧ L = [] ∧ h' = h0) s 0 0) T (mkF m 23 #[.val (.ref a), .val (.int x), .val (.int (15 : Int32)), .val (.int j)] []) := by
    intro k
    induction k with
    | zero => rintro j i T X e hj ⟨d, hd, -⟩; omega
    | succ k ih =>
      intro j i T9 X9 e9 hj hf hl
      have hi : i < 16 := by have := hj.int; have h2 := Int32.lt_iff_toInt_lt.mp hj.2.1; rw [show ((16 : Int32)).toInt = 16 from by decide] at h2; omega
      show Go p e below _ T9 (mkF m 23 #[.val (.ref a), .val (.int x), .val (.int (15 : Int32)), .val (.int j)] [])
      refine Go.aloadN X9 hx (hb hby d11_23) rfl rfl rfl ?_
      refine Go.getF X9 hx hZ hown (host := "") (Or.inl (wd 14 rfl)) Via.refl e9 Fs (hb hby d11_24) rfl ?_
      intro T4 X4 e4
      refine Go.iloadN X4 hx (hb hby d11_27) rfl rfl  ?_
      refine Go.iaload X4 hx hZ (.int (t.getD i 0)) Vs e4  ⟨hj.1, hj.2.1⟩ (own_getD hj.2.2) (hb hby d11_28) rfl ?_
      refine Go.iconst X4 hx (hb hby d11_29) rfl (-1 : Int32) rfl ?_
      by_cases hc5 : (t.getD i 0) = (-1 : Int32)
      · refine Go.icmpYes X4 hx (hb hby d11_30) rfl 54 (teq hc5).1 (by decide) (by decide) ?_
        refine Go.iconst X4 hx (hb hby d11_54) rfl (0 : Int32) rfl ?_
        exact Go.retZ X4 hx (z' := (0 : Int32)) hret hlk (hb hby d11_55) rfl (by decide) (by rw [e4]; exact ⟨by rw [← hl]; unfold lookN; rw [if_pos hc5]; rfl, rfl, rfl⟩) (Nat.le_of_ble_eq_true rfl) (Nat.le_of_ble_eq_true rfl)
      · refine Go.icmpNo X4 hx (hb hby d11_30) rfl (feq hc5).1 ?_
        refine Go.aloadN X4 hx (hb hby d11_33) rfl rfl rfl ?_
        refine Go.getF X4 hx hZ hown (host := "") (Or.inl (wd 14 rfl)) Via.refl e4 Fs (hb hby d11_34) rfl ?_
        intro T6 X6 e6
        refine Go.iloadN X6 hx (hb hby d11_37) rfl rfl  ?_
        refine Go.iaload X6 hx hZ (.int (t.getD i 0)) Vs e6  ⟨hj.1, hj.2.1⟩ (own_getD hj.2.2) (hb hby d11_38) rfl ?_
        refine Go.iloadN X6 hx (hb hby d11_39) rfl rfl  ?_
        by_cases hc7 : (t.getD i 0) = x
        · refine Go.icmpNo X6 hx (hb hby d11_40) rfl (teq hc7).2 ?_
          refine Go.iconst X6 hx (hb hby d11_43) rfl (1 : Int32) rfl ?_
          exact Go.retZ X6 hx (z' := (1 : Int32)) hret hlk (hb hby d11_44) rfl (by decide) (by rw [e6]; exact ⟨by rw [← hl]; unfold lookN; rw [if_neg hc5, if_pos hc7]; rfl, rfl, rfl⟩) (Nat.le_of_ble_eq_true rfl) (Nat.le_of_ble_eq_true rfl)
        · refine Go.icmpYes X6 hx (hb hby d11_40) rfl 45 (feq hc7).2 (by decide) (by decide) ?_
          refine Go.iloadN X6 hx (hb hby d11_45) rfl rfl  ?_
          refine Go.iconst X6 hx (hb hby d11_46) rfl (1 : Int32) rfl ?_
          refine Go.iadd X6 hx (hb hby d11_47) rfl ?_
          refine Go.iloadN X6 hx (hb hby d11_48) rfl rfl  ?_
          refine Go.iand X6 hx (hb hby d11_49) rfl ?_
          refine Go.istoreN X6 hx (hb hby d11_50) rfl  #[.val (.ref a), .val (.int x), .val (.int (15 : Int32)), .val (.int ((j + (1 : Int32)) &&& (15 : Int32)))] rfl ?_
          refine Go.goto X6 hx (hb hby d11_51) rfl 23 (by decide) (by decide) ?_
          show Go p e below _ T6 (mkF m 23 #[.val (.ref a), .val (.int x), .val (.int (15 : Int32)), .val (.int ((j + (1 : Int32)) &&& (15 : Int32)))] [])
          refine ih _ ((i + 1) % 16) _ X6 e6 (ix_next (b := 4) (by decide) rfl (by decide) (by decide) hj) ?_ ?_
          · obtain ⟨d, hd, hv⟩ := hf
            cases d with
            | zero => rw [Nat.add_zero, Nat.mod_eq_of_lt hi] at hv; exact absurd hv hc5
            | succ d => exact ⟨d, by omega, by rw [step_mod]; exact hv⟩
          · rw [← hl]; conv => rhs; unfold lookN
            rw [if_neg hc5, if_neg hc7]
  show Go p e below _ T3 (mkF m 23 #[.val (.ref a), .val (.int x), .val (.int (15 : Int32)), .val (.int (slotv x (15 : Int32)))] [])
  exact loop 16 _ _ _ X3 e3 (ix_slot (b := 4) (by decide) rfl (by decide) (by decide) x) hf rfl
set_option maxRecDepth 65536 in
set_option maxHeartbeats 40000000 in
theorem isHas0 (l : Launch) (Z : State) (a0 : Array Value) (hw : ∀ d ∈ tables_1, d.before a0 Z = true) (a : Addr) (x : Int32) (h0 : Heap) (Fn : Fld Z h0 a "com/example/overrule/overrule/engine/IntSet" "size" "I" (.int (0 : Int32))) : Pur l Z (⟨"com/example/overrule/overrule/engine/IntSet", "contains", "(I)Z"⟩ : MethodName) prog_46_method_3_code 4 (some .boolean) 1 14 #[(.ref a), (.int x)] h0 (some (.int (0 : Int32))) := by
  refine Ctr.of (plainFor_of_name pn_4) ?_
  have wd : ∀ {d : Jvm.Cond} (i : Nat), tables_1[i]? = some d → d.before a0 Z = true := fun i q => hw _ (List.mem_of_getElem? q)
  intro p e s m below meth c s₁ hx hby hml hown hnm hret hlk hZ X0 e0
  refine Go.cast (ef_11 m a x) ?_
  show Go p e below _ s₁ (mkF m 0 #[.val (.ref a), .val (.int x), .unset, .unset] [])
  refine Go.aloadN X0 hx (hb hby d11_0) rfl rfl rfl ?_
  refine Go.getF X0 hx hZ hown (host := "") (Or.inl (wd 33 rfl)) Via.refl e0 Fn (hb hby d11_1) rfl ?_
  intro T1 X1 e1
  refine Go.ifNo X1 hx (hb hby d11_4) rfl ((if0 _ _).trans (teq (by decide : (0 : Int32) = (0 : Int32))).2) ?_
  refine Go.iconst X1 hx (hb hby d11_7) rfl (0 : Int32) rfl ?_
  exact Go.retZ X1 hx (z' := (0 : Int32)) hret hlk (hb hby d11_8) rfl (by decide) ⟨by first | rfl | simp [], rfl, e1⟩ (Nat.le_of_ble_eq_true rfl) (Nat.le_of_ble_eq_true rfl)
set_option maxRecDepth 65536 in
set_option maxHeartbeats 40000000 in
theorem isHasR (l : Launch) (Z : State) (a0 : Array Value) (hw : ∀ d ∈ tables_1, d.before a0 Z = true) (a aN : Addr) (x : Int32) (es : List Int32) (h0 : Heap) (hg : Good es) (R : RepN Z aN h0 a ∧ es = [] ∨ (es.length ≤ 4 ∧ RepA Z h0 a es 4 8 7 4 8) ∨ (es.length ≤ 8 ∧ RepA Z h0 a es 8 16 15 8 16)) : Pur l Z (⟨"com/example/overrule/overrule/engine/IntSet", "contains", "(I)Z"⟩ : MethodName) prog_46_method_3_code 4 (some .boolean) 1 14 #[(.ref a), (.int x)] h0 (some (.int (if x ∈ es then 1 else 0 : Int32))) := by
  obtain ⟨⟨-, Fn, -⟩, rfl⟩ | ⟨h4, eb, sl, kb, ks, pad, l1, l2, ne, lp, Fe, Fn, Fs, Vb, Vs⟩ | ⟨h8, eb, sl, kb, ks, pad, l1, l2, ne, lp, Fe, Fn, Fs, Vb, Vs⟩ := R
  · rw [if_neg List.not_mem_nil]; exact isHas0 l Z a0 hw a x h0 Fn
  · by_cases he : es = []
    · subst he; rw [if_neg List.not_mem_nil]; exact isHas0 l Z a0 hw a x h0 Fn
    · have hn : ¬ Int32.ofNat es.length = 0 := own_ofNat (fun q => he (List.eq_nil_of_length_eq_zero q)) (by omega)
      have C := isHas8 l Z a0 hw a sl ks (Int32.ofNat es.length) x _ h0 Fn hn Fs Vs (free_at (inv8 hg (by omega)) (by omega) _)
      rw [rep_look8 x hg (by omega)] at C
      by_cases hx : x ∈ es
      · rw [if_pos hx]; rw [decide_eq_true hx] at C; exact C
      · rw [if_neg hx]; rw [decide_eq_false hx] at C; exact C
  · by_cases he : es = []
    · subst he; rw [if_neg List.not_mem_nil]; exact isHas0 l Z a0 hw a x h0 Fn
    · have hn : ¬ Int32.ofNat es.length = 0 := own_ofNat (fun q => he (List.eq_nil_of_length_eq_zero q)) (by omega)
      have C := isHas16 l Z a0 hw a sl ks (Int32.ofNat es.length) x _ h0 Fn hn Fs Vs (free_at (inv16 hg (by omega)) (by omega) _)
      rw [rep_look16 x hg (by omega)] at C
      by_cases hx : x ∈ es
      · rw [if_pos hx]; rw [decide_eq_true hx] at C; exact C
      · rw [if_neg hx]; rw [decide_eq_false hx] at C; exact C
set_option maxRecDepth 65536 in
set_option maxHeartbeats 40000000 in
theorem lwMin (l : Launch) (Z : State) (a0 : Array Value) (hw : ∀ d ∈ tables_1, d.before a0 Z = true) (u0 u1 : Int32) (h0 : Heap)  : Pur l Z (⟨"java/lang/Math", "min", "(II)I"⟩ : MethodName) jdk_29_method_69_code 2 (some .int) 0 0 #[(.int u0), (.int u1)] h0 (some (.int (if u1 < u0 then u1 else u0 : Int32))) := by
  refine Ctr.of (Jvm.Free.JP.mathPlain rfl (by decide +kernel)) ?_
  have wd : ∀ {d : Jvm.Cond} (i : Nat), tables_1[i]? = some d → d.before a0 Z = true := fun i q => hw _ (List.mem_of_getElem? q)
  intro p e s m below meth c s₁ hx hby hml hown hnm hret hlk hZ X0 e0
  refine Go.cast (ef_9 m u0 u1) ?_
  show Go p e below _ s₁ (mkF m 0 #[.val (.int u0), .val (.int u1)] [])
  refine Go.iloadN X0 hx (hb hby d9_0) rfl rfl  ?_
  refine Go.iloadN X0 hx (hb hby d9_1) rfl rfl  ?_
  by_cases hc1 : u1 < u0
  · refine Go.icmpYes X0 hx (hb hby d9_2) rfl 9 (tlt hc1).2.2.1 (by decide) (by decide) ?_
    refine Go.iloadN X0 hx (hb hby d9_9) rfl rfl  ?_
    exact Go.retI X0 hx hret hlk (hb hby d9_10) rfl ⟨by rw [if_pos hc1], rfl, e0⟩ (Nat.le_of_ble_eq_true rfl) (Nat.le_of_ble_eq_true rfl)
  · refine Go.icmpNo X0 hx (hb hby d9_2) rfl (flt hc1).2.2.1 ?_
    refine Go.iloadN X0 hx (hb hby d9_5) rfl rfl  ?_
    refine Go.goto X0 hx (hb hby d9_6) rfl 10 (by decide) (by decide) ?_
    exact Go.retI X0 hx hret hlk (hb hby d9_10) rfl ⟨by rw [if_neg hc1], rfl, e0⟩ (Nat.le_of_ble_eq_true rfl) (Nat.le_of_ble_eq_true rfl)
theorem d7_0 : decode prog_46_method_5_code 0 = .ok (.aload_n 0, 1) := by decide +kernel
theorem d7_1 : decode prog_46_method_5_code 1 = .ok (.getfield 16, 3) := by decide +kernel
theorem d7_4 : decode prog_46_method_5_code 4 = .ok (.arraylength, 1) := by decide +kernel
theorem d7_5 : decode prog_46_method_5_code 5 = .ok (.iconst 1, 1) := by decide +kernel
theorem d7_6 : decode prog_46_method_5_code 6 = .ok (.isub, 1) := by decide +kernel
theorem d7_7 : decode prog_46_method_5_code 7 = .ok (.istore_n 2, 1) := by decide +kernel
theorem d7_8 : decode prog_46_method_5_code 8 = .ok (.aload_n 0, 1) := by decide +kernel
theorem d7_9 : decode prog_46_method_5_code 9 = .ok (.getfield 27, 3) := by decide +kernel
theorem d7_12 : decode prog_46_method_5_code 12 = .ok (.iload_n 1, 1) := by decide +kernel
theorem d7_13 : decode prog_46_method_5_code 13 = .ok (.if_icmp .le 60, 3) := by decide +kernel
theorem d7_16 : decode prog_46_method_5_code 16 = .ok (.aload_n 0, 1) := by decide +kernel
theorem d7_17 : decode prog_46_method_5_code 17 = .ok (.getfield 13, 3) := by decide +kernel
theorem d7_20 : decode prog_46_method_5_code 20 = .ok (.aload_n 0, 1) := by decide +kernel
theorem d7_21 : decode prog_46_method_5_code 21 = .ok (.dup, 1) := by decide +kernel
theorem d7_22 : decode prog_46_method_5_code 22 = .ok (.getfield 27, 3) := by decide +kernel
theorem d7_25 : decode prog_46_method_5_code 25 = .ok (.iconst 1, 1) := by decide +kernel
theorem d7_26 : decode prog_46_method_5_code 26 = .ok (.isub, 1) := by decide +kernel
theorem d7_27 : decode prog_46_method_5_code 27 = .ok (.dup_x1, 1) := by decide +kernel
theorem d7_28 : decode prog_46_method_5_code 28 = .ok (.putfield 27, 3) := by decide +kernel
theorem d7_31 : decode prog_46_method_5_code 31 = .ok (.iaload, 1) := by decide +kernel
theorem d7_32 : decode prog_46_method_5_code 32 = .ok (.istore_n 3, 1) := by decide +kernel
theorem d7_33 : decode prog_46_method_5_code 33 = .ok (.iload_n 3, 1) := by decide +kernel
theorem d7_34 : decode prog_46_method_5_code 34 = .ok (.iload_n 2, 1) := by decide +kernel
theorem d7_35 : decode prog_46_method_5_code 35 = .ok (.invokestatic 23, 3) := by decide +kernel
theorem d7_38 : decode prog_46_method_5_code 38 = .ok (.istore 4, 2) := by decide +kernel
theorem d7_40 : decode prog_46_method_5_code 40 = .ok (.aload_n 0, 1) := by decide +kernel
theorem d7_41 : decode prog_46_method_5_code 41 = .ok (.getfield 16, 3) := by decide +kernel
theorem d7_44 : decode prog_46_method_5_code 44 = .ok (.iload 4, 2) := by decide +kernel
theorem d7_46 : decode prog_46_method_5_code 46 = .ok (.iaload, 1) := by decide +kernel
theorem d7_47 : decode prog_46_method_5_code 47 = .ok (.iload_n 3, 1) := by decide +kernel
theorem d7_48 : decode prog_46_method_5_code 48 = .ok (.if_icmp .eq 14, 3) := by decide +kernel
theorem d7_51 : decode prog_46_method_5_code 51 = .ok (.iload 4, 2) := by decide +kernel
theorem d7_53 : decode prog_46_method_5_code 53 = .ok (.iconst 1, 1) := by decide +kernel
theorem d7_54 : decode prog_46_method_5_code 54 = .ok (.iadd, 1) := by decide +kernel
theorem d7_55 : decode prog_46_method_5_code 55 = .ok (.iload_n 2, 1) := by decide +kernel
theorem d7_56 : decode prog_46_method_5_code 56 = .ok (.iand, 1) := by decide +kernel
theorem d7_57 : decode prog_46_method_5_code 57 = .ok (.istore 4, 2) := by decide +kernel
theorem d7_59 : decode prog_46_method_5_code 59 = .ok (.goto (-19), 3) := by decide +kernel
theorem d7_62 : decode prog_46_method_5_code 62 = .ok (.aload_n 0, 1) := by decide +kernel
theorem d7_63 : decode prog_46_method_5_code 63 = .ok (.getfield 16, 3) := by decide +kernel
theorem d7_66 : decode prog_46_method_5_code 66 = .ok (.iload 4, 2) := by decide +kernel
theorem d7_68 : decode prog_46_method_5_code 68 = .ok (.iconst (-1), 1) := by decide +kernel
theorem d7_69 : decode prog_46_method_5_code 69 = .ok (.iastore, 1) := by decide +kernel
theorem d7_70 : decode prog_46_method_5_code 70 = .ok (.goto (-62), 3) := by decide +kernel
theorem d7_73 : decode prog_46_method_5_code 73 = .ok (.return_, 1) := by decide +kernel
theorem ef_7 (m : MethodId) (x0 : Addr) (x1 : Int32) : entryFrame m #[(.ref x0), (.int x1)] 5 = mkF m 0 #[.val (.ref x0), .val (.int x1), .unset, .unset, .unset] [] := by first | (simp [entryFrame, mkF, argsToLocals, Value.category]; done) | rfl
set_option maxRecDepth 65536 in
set_option maxHeartbeats 40000000 in
theorem isSeek8 {p : Program} {l : Launch} {e : Env} {R : Room} {s : State} {m : MethodId} {args : Array Value} {below : List Frame} {meth : Method} {c : Code} {locs : List Loc} {cells slots : Nat} {Z : State} {a0 : Array Value} {P : Outcome → State → Prop} (hw : ∀ d ∈ tables_1, d.before a0 Z = true) (hx : p.tables.exec = Jvm.exec) (hby : c.code = prog_46_method_5_code) (hml : c.maxLocals = 5) (hown : s.vm.findClass "com/example/overrule/overrule/engine/IntSet" = some m.cls) (hZ : Z.Warmed39 s.vm) (a sl : Addr) (ks : ClassId) (y x : Int32) (t : List Int32) (h0 : Heap) (Fs : Fld Z h0 a "com/example/overrule/overrule/engine/IntSet" "slots" "[I" (.ref sl)) (Vs : Arv Z h0 sl ks .int (8 : Int32) (t.map Value.int) (.int (0 : Int32))) : ∀ (k : Nat) (j : Int32) (i : Nat) (T : State), Stand p l e R s m args below meth c T locs cells slots → T.heap = h0 → Ix (8 : Int32) j i → (∃ d, d < k ∧ t.getD ((i + d) % 8) 0 = x) → (∀ (T' : State) (j' : Int32), Stand p l e R s m args below meth c T' locs cells slots → T'.heap = h0 → Ix (8 : Int32) j' (tfN t 8 x k i) → Go p e below P T' (mkF m 62 #[.val (.ref a), .val (.int y), .val (.int (7 : Int32)), .val (.int x), .val (.int j')] [])) → Go p e below P T (mkF m 40 #[.val (.ref a), .val (.int y), .val (.int (7 : Int32)), .val (.int x), .val (.int j)] []) := by
  have wd : ∀ {d : Jvm.Cond} (i : Nat), tables_1[i]? = some d → d.before a0 Z = true := fun i q => hw _ (List.mem_of_getElem? q)
  intro k
  induction k with
  | zero => rintro j i T X e hj ⟨d, hd, -⟩; omega
  | succ k ih =>
    intro j i T9 X9 e9 hj hf K
    have hi : i < 8 := by have := hj.int; have h2 := Int32.lt_iff_toInt_lt.mp hj.2.1; rw [show ((8 : Int32)).toInt = 8 from by decide] at h2; omega
    show Go p e below _ T9 (mkF m 40 #[.val (.ref a), .val (.int y), .val (.int (7 : Int32)), .val (.int x), .val (.int j)] [])
    refine Go.aloadN X9 hx (hb hby d7_40) rfl rfl rfl ?_
    refine Go.getF X9 hx hZ hown (host := "") (Or.inl (wd 14 rfl)) Via.refl e9 Fs (hb hby d7_41) rfl ?_
    intro T1 X1 e1
    refine Go.iload X1 hx (hb hby d7_44) rfl rfl  ?_
    refine Go.iaload X1 hx hZ (.int (t.getD i 0)) Vs e1  ⟨hj.1, hj.2.1⟩ (own_getD hj.2.2) (hb hby d7_46) rfl ?_
    refine Go.iloadN X1 hx (hb hby d7_47) rfl rfl  ?_
    by_cases hc2 : (t.getD i 0) = x
    · refine Go.icmpYes X1 hx (hb hby d7_48) rfl 62 (teq hc2).1 (by decide) (by decide) ?_
      show Go p e below _ T1 (mkF m 62 #[.val (.ref a), .val (.int y), .val (.int (7 : Int32)), .val (.int x), .val (.int j)] [])
      exact K _ _ X1 e1 (by unfold tfN; rw [if_pos hc2]; exact hj)
    · refine Go.icmpNo X1 hx (hb hby d7_48) rfl (feq hc2).1 ?_
      refine Go.iload X1 hx (hb hby d7_51) rfl rfl  ?_
      refine Go.iconst X1 hx (hb hby d7_53) rfl (1 : Int32) rfl ?_
      refine Go.iadd X1 hx (hb hby d7_54) rfl ?_
      refine Go.iloadN X1 hx (hb hby d7_55) rfl rfl  ?_
      refine Go.iand X1 hx (hb hby d7_56) rfl ?_
      refine Go.istore X1 hx (hb hby d7_57) rfl  #[.val (.ref a), .val (.int y), .val (.int (7 : Int32)), .val (.int x), .val (.int ((j + (1 : Int32)) &&& (7 : Int32)))] rfl ?_
      refine Go.goto X1 hx (hb hby d7_59) rfl 40 (by decide) (by decide) ?_
      show Go p e below _ T1 (mkF m 40 #[.val (.ref a), .val (.int y), .val (.int (7 : Int32)), .val (.int x), .val (.int ((j + (1 : Int32)) &&& (7 : Int32)))] [])
      refine ih _ ((i + 1) % 8) _ X1 e1 (ix_next (b := 3) (by decide) rfl (by decide) (by decide) hj) ?_ ?_
      · obtain ⟨d, hd, hv⟩ := hf
        cases d with
        | zero => rw [Nat.add_zero, Nat.mod_eq_of_lt hi] at hv; exact absurd hv hc2
        | succ d => exact ⟨d, by omega, by rw [step_mod]; exact hv⟩
      · intro T' j' X' e' hj'
        refine K T' j' X' e' ?_
        unfold tfN; rw [if_neg hc2]; exact hj'
set_option maxRecDepth 65536 in
set_option maxHeartbeats 40000000 in
theorem isTrunc8 (l : Launch) (Z : State) (a0 : Array Value) (hw : ∀ d ∈ tables_1, d.before a0 Z = true) (a : Addr) (y : Int32) (es : List Int32) (h0 : Heap) (O0 : Old Z Z.heap.size h0) (Ea : Exa Z h0 a "com/example/overrule/overrule/engine/IntSet") (ga : Z.heap.size ≤ a) (hg : Good es) (hy0 : 0 ≤ y.toInt) (R : RepA Z h0 a es 4 8 7 4 8) : Ctr l Z (⟨"com/example/overrule/overrule/engine/IntSet", "truncate", "(I)V"⟩ : MethodName) prog_46_method_5_code 5 none ({ frames := 1, cells := 0, slots := 0, locals := 14 } : Room) #[(.ref a), (.int y)] h0 (fun v h L => v = none ∧ Fr Z.heap.size L ∧ Blw a h0 h ∧ Exa Z h a "com/example/overrule/overrule/engine/IntSet" ∧ RepA Z h a (es.take y.toInt.toNat) 4 8 7 4 8) := by
  refine Ctr.of (plainFor_of_name pn_4) ?_
  have wd : ∀ {d : Jvm.Cond} (i : Nat), tables_1[i]? = some d → d.before a0 Z = true := fun i q => hw _ (List.mem_of_getElem? q)
  intro p e s m below meth c s₁ hx hby hml hown hnm hret hlk hZ X0 e0
  refine Go.cast (ef_7 m a y) ?_
  obtain ⟨eb, sl, kb, ks, pad, l1, l2, ne, lp, Fe, Fn, Fs, Vb, Vs⟩ := R
  have gs : Z.heap.size ≤ sl := Nat.le_trans ga (Nat.le_of_lt l2)
  have n_a_eb : a ≠ eb := Nat.ne_of_lt l1
  have n_a_sl : a ≠ sl := Nat.ne_of_lt l2
  show Go p e below _ s₁ (mkF m 0 #[.val (.ref a), .val (.int y), .unset, .unset, .unset] [])
  refine Go.aloadN X0 hx (hb hby d7_0) rfl rfl rfl ?_
  refine Go.getF X0 hx hZ hown (host := "") (Or.inl (wd 14 rfl)) Via.refl e0 Fs (hb hby d7_1) rfl ?_
  intro T1 X1 e1
  refine Go.alen X1 hx hZ Vs e1 (hb hby d7_4) rfl ?_
  refine Go.iconst X1 hx (hb hby d7_5) rfl (1 : Int32) rfl ?_
  refine Go.isub X1 hx (hb hby d7_6) rfl ?_
  show Go p e below _ T1 (mkF m 7 #[.val (.ref a), .val (.int y), .unset, .unset, .unset] [(.int ((8 : Int32) - (1 : Int32)))])
  rw [show ((8 : Int32) - (1 : Int32)) = (7 : Int32) from by decide]
  refine Go.istoreN X1 hx (hb hby d7_7) rfl  #[.val (.ref a), .val (.int y), .val (.int (7 : Int32)), .unset, .unset] rfl ?_
  have loop : ∀ (n : Nat) (fs pd : List Int32) (y3 y4 : Slot) (T : State) (hh : Heap) (ls : List Loc), ((y3 = .unset ∧ y4 = .unset) ∨ ∃ v3 v4, y3 = .val (.int v3) ∧ y4 = .val (.int v4)) → fs.length = n → (fs ++ pd).length = 4 → Good fs → fs.take y.toInt.toNat = es.take y.toInt.toNat → Stand p l e ({ frames := 1, cells := 0, slots := 0, locals := 14 } : Room) s m #[(.ref a), (.int y)] below meth c T ls 0 0 → T.heap = hh → Old Z Z.heap.size hh → Keep h0 hh [a, sl] → Fr Z.heap.size ls → Exa Z hh a "com/example/overrule/overrule/engine/IntSet" → Fld Z hh a "com/example/overrule/overrule/engine/IntSet" "elements" "[I" (.ref eb) → Fld Z hh a "com/example/overrule/overrule/engine/IntSet" "size" "I" (.int (Int32.ofNat n)) → Fld Z hh a "com/example/overrule/overrule/engine/IntSet" "slots" "[I" (.ref sl) → Arv Z hh eb kb .int (4 : Int32) ((fs ++ pd).map Value.int) (.int (0 : Int32)) → Arv Z hh sl ks .int (8 : Int32) ((tab 8 (hsh (7 : Int32)) fs).map Value.int) (.int (0 : Int32)) → Go p e below (OwnEnd (fun v h L => v = none ∧ Fr Z.heap.size L ∧ Blw a h0 h ∧ Exa Z h a "com/example/overrule/overrule/engine/IntSet" ∧ RepA Z h a (es.take y.toInt.toNat) 4 8 7 4 8) s 0 0) T (mkF m 8 #[.val (.ref a), .val (.int y), .val (.int (7 : Int32)), y3, y4] []) := by
    intro n
    induction n with
    | zero =>
      intro fs pd y3 y4 T9 hh ls hy34 hl lp hg ht X9 e9 O9 K9 N9 Eb Fe Fn Fs Vb Vs
      have hn16 : 0 ≤ 16 := by decide
      have hbb : ¬ y < Int32.ofNat 0 := fun q => by have := (ofNat_lt hn16).mp q; omega
      have hz : es.take y.toInt.toNat = fs := by
        rw [← ht]; exact List.take_of_length_le (by have h1 : ¬ y.toInt < ((0 : Nat) : Int) := fun q => hbb ((ofNat_lt hn16).mpr q); omega)
      show Go p e below _ T9 (mkF m 8 #[.val (.ref a), .val (.int y), .val (.int (7 : Int32)), y3, y4] [])
      refine Go.aloadN X9 hx (hb hby d7_8) rfl rfl rfl ?_
      refine Go.getF X9 hx hZ hown (host := "") (Or.inl (wd 33 rfl)) Via.refl e9 Fn (hb hby d7_9) rfl ?_
      intro T2 X2 e2
      refine Go.iloadN X2 hx (hb hby d7_12) rfl rfl  ?_
      refine Go.icmpYes X2 hx (hb hby d7_13) rfl 73 (flt hbb).2.2.2 (by decide) (by decide) ?_
      exact Go.retV X2 hx hret hlk (hb hby d7_73) rfl (by rw [e2, hz]; exact ⟨rfl, N9, Blw.of K9 (by simp [Nat.le_of_lt l2]), Eb, eb, sl, kb, ks, pd, l1, l2, ne, lp, Fe, (by rw [hl]; exact Fn), Fs, Vb, Vs⟩) (Nat.le_of_ble_eq_true rfl) (Nat.le_of_ble_eq_true rfl)
    | succ n ih =>
      intro fs pd y3 y4 T9 hh ls hy34 hl lp hg ht X9 e9 O9 K9 N9 Eb Fe Fn Fs Vb Vs
      have hn16 : n + 1 ≤ 16 := by rw [List.length_append] at lp; omega
      by_cases hbb : y < Int32.ofNat (n + 1)
      · obtain ⟨fs, x, rfl, hl'⟩ := snoc_of hl
        have hnE : n < 4 := by rw [List.length_append] at lp; omega
        have hr := rem_pack (M := 8) (h := (hsh (7 : Int32))) hl8 hg (by omega)
        have hk : y.toInt.toNat < (fs ++ [x]).length := by have := (ofNat_lt hn16).mp hbb; omega
        show Go p e below _ T9 (mkF m 8 #[.val (.ref a), .val (.int y), .val (.int (7 : Int32)), y3, y4] [])
        refine Go.aloadN X9 hx (hb hby d7_8) rfl rfl rfl ?_
        refine Go.getF X9 hx hZ hown (host := "") (Or.inl (wd 33 rfl)) Via.refl e9 Fn (hb hby d7_9) rfl ?_
        intro T3 X3 e3
        refine Go.iloadN X3 hx (hb hby d7_12) rfl rfl  ?_
        refine Go.icmpNo X3 hx (hb hby d7_13) rfl (tlt hbb).2.2.2 ?_
        refine Go.aloadN X3 hx (hb hby d7_16) rfl rfl rfl ?_
        refine Go.getF X3 hx hZ hown (host := "") (Or.inl (wd 12 rfl)) Via.refl e3 Fe (hb hby d7_17) rfl ?_
        intro T4 X4 e4
        refine Go.aloadN X4 hx (hb hby d7_20) rfl rfl rfl ?_
        refine Go.dup X4 hx (hb hby d7_21) rfl rfl ?_
        refine Go.getF X4 hx hZ hown (host := "") (Or.inl (wd 33 rfl)) Via.refl e4 Fn (hb hby d7_22) rfl ?_
        intro T5 X5 e5
        refine Go.iconst X5 hx (hb hby d7_25) rfl (1 : Int32) rfl ?_
        refine Go.isub X5 hx (hb hby d7_26) rfl ?_
        show Go p e below _ T5 (mkF m 27 #[.val (.ref a), .val (.int y), .val (.int (7 : Int32)), y3, y4] [(.int ((Int32.ofNat (n + 1)) - (1 : Int32))), (.ref a), (.ref eb)])
        rw [ofNat_pred n]
        show Go p e below _ T5 (mkF m 27 #[.val (.ref a), .val (.int y), .val (.int (7 : Int32)), y3, y4] [(.int (Int32.ofNat n)), (.ref a), (.ref eb)])
        refine Go.dupX1 X5 hx (hb hby d7_27) rfl rfl rfl ?_
        refine Go.putF X5 hx hZ hown (host := "") (Or.inl (wd 33 rfl)) Via.refl e5 Fn Eb (Or.inl (wd 34 rfl)) (wd 2 rfl) (ty := .int) (by decide) rfl rfl (hb hby d7_28) rfl ?_
        intro T6 h6 X6 e6 W6 F7
        have K8 := K9.wr W6 (Or.inl (List.mem_of_getElem? (i := 0) rfl))
        have O9 := O9.wr W6 ga
        have N10 := Fr.snoc X6 N9 ga
        have E11 := Eb.wr W6
        have F12 := Fe.other W6 (Or.inr (slot_ne (Or.inl (wd 13 rfl)) (Or.inl (wd 34 rfl)) (by decide) (t := (.array .int)) (t' := .int) (by decide) (by decide)))
        have F13 := Fs.other W6 (Or.inr (slot_ne (Or.inl (wd 15 rfl)) (Or.inl (wd 34 rfl)) (by decide) (t := (.array .int)) (t' := .int) (by decide) (by decide)))
        have V14 := Vb.other W6 (Ne.symm n_a_eb)
        have V15 := Vs.other W6 (Ne.symm n_a_sl)
        refine Go.iaload X6 hx hZ (.int x) V14 e6  (ofNat_in (k := 4) hnE (by decide)) ((own_getD (ofNat_nat (by omega))).trans (congrArg Value.int (read_at hl'))) (hb hby d7_31) rfl ?_
        refine Go.istoreN X6 hx (hb hby d7_32) rfl  #[.val (.ref a), .val (.int y), .val (.int (7 : Int32)), .val (.int x), y4] (by rcases hy34 with ⟨rfl, rfl⟩ | ⟨v3, v4, rfl, rfl⟩ <;> rfl) ?_
        refine Go.iloadN X6 hx (hb hby d7_33) rfl rfl  ?_
        refine Go.iloadN X6 hx (hb hby d7_34) rfl rfl  ?_
        refine Go.pureS X6 hx hZ hown (wd 29 rfl) (wd 30 rfl) (wd 3 rfl) (wd 31 rfl) (by decide) [(.int x), (.int (7 : Int32))] [] (isSlot l Z a0 hw x (7 : Int32) h6) e6 rfl (by rw [hml]; rfl) pd_2 rfl (hb hby d7_35) (Nat.le_of_ble_eq_true rfl) (Nat.le_of_ble_eq_true rfl) (Nat.le_of_ble_eq_true rfl) (Nat.le_of_ble_eq_true rfl) ?_
        intro T16 X16 e16
        refine Go.istore X16 hx (hb hby d7_38) rfl  #[.val (.ref a), .val (.int y), .val (.int (7 : Int32)), .val (.int x), .val (.int (slotv x (7 : Int32)))] (by rcases hy34 with ⟨rfl, rfl⟩ | ⟨v3, v4, rfl, rfl⟩ <;> rfl) ?_
        show Go p e below _ T16 (mkF m 40 #[.val (.ref a), .val (.int y), .val (.int (7 : Int32)), .val (.int x), .val (.int (slotv x (7 : Int32)))] [])
        refine isSeek8 hw hx hby hml hown hZ a sl ks y x (tab 8 (hsh (7 : Int32)) (fs ++ [x])) h6 F13 V15 8 _ _ _ X16 e16 (ix_slot (b := 3) (by decide) rfl (by decide) (by decide) x) hr.1 ?_
        intro T17 j17 X17 e17 hj17
        show Go p e below _ T17 (mkF m 62 #[.val (.ref a), .val (.int y), .val (.int (7 : Int32)), .val (.int x), .val (.int j17)] [])
        refine Go.aloadN X17 hx (hb hby d7_62) rfl rfl rfl ?_
        refine Go.getF X17 hx hZ hown (host := "") (Or.inl (wd 14 rfl)) Via.refl e17 F13 (hb hby d7_63) rfl ?_
        intro T18 X18 e18
        refine Go.iload X18 hx (hb hby d7_66) rfl rfl  ?_
        refine Go.iconst X18 hx (hb hby d7_68) rfl (-1 : Int32) rfl ?_
        refine Go.iastore X18 hx hZ V15 e18 ⟨hj17.1, hj17.2.1⟩ _ hj17.2.2 (by rw [List.length_map, (inv8 hg (by omega)).1]; exact hr.2.1) (hb hby d7_69) rfl ?_
        intro T19 h19 X19 e19 W19 V19'
        have V19 : Arv Z h19 sl ks .int (8 : Int32) ((tab 8 (hsh (7 : Int32)) fs).map Value.int) (.int (0 : Int32)) := by rw [← hr.2.2, List.map_set]; exact V19'
        have K20 := K8.wr W19 (Or.inl (List.mem_of_getElem? (i := 1) rfl))
        have O21 := O9.wr W19 gs
        have N22 := Fr.snoc X19 N10 gs
        have E23 := E11.wr W19
        have F24 := F12.other W19 (Or.inl n_a_sl)
        have F25 := F7.other W19 (Or.inl n_a_sl)
        have F26 := F13.other W19 (Or.inl n_a_sl)
        have V27 := V14.other W19 ne
        refine Go.goto X19 hx (hb hby d7_70) rfl 8 (by decide) (by decide) ?_
        show Go p e below _ T19 (mkF m 8 #[.val (.ref a), .val (.int y), .val (.int (7 : Int32)), .val (.int x), .val (.int j17)] [])
        refine ih fs (x :: pd) _ _ _ _ _ (Or.inr ⟨_, _, rfl, rfl⟩) hl' (by simpa using lp) (good_pre hg) ((take_snoc hk).symm.trans ht) X19 e19 O21 K20 N22 E23 F24 F25 F26 ?_ V19
        rw [show fs ++ x :: pd = fs ++ [x] ++ pd from by simp]; exact V27
      · have hz : es.take y.toInt.toNat = fs := by
          rw [← ht]; exact List.take_of_length_le (by have h1 : ¬ y.toInt < (((n + 1) : Nat) : Int) := fun q => hbb ((ofNat_lt hn16).mpr q); omega)
        show Go p e below _ T9 (mkF m 8 #[.val (.ref a), .val (.int y), .val (.int (7 : Int32)), y3, y4] [])
        refine Go.aloadN X9 hx (hb hby d7_8) rfl rfl rfl ?_
        refine Go.getF X9 hx hZ hown (host := "") (Or.inl (wd 33 rfl)) Via.refl e9 Fn (hb hby d7_9) rfl ?_
        intro T28 X28 e28
        refine Go.iloadN X28 hx (hb hby d7_12) rfl rfl  ?_
        refine Go.icmpYes X28 hx (hb hby d7_13) rfl 73 (flt hbb).2.2.2 (by decide) (by decide) ?_
        exact Go.retV X28 hx hret hlk (hb hby d7_73) rfl (by rw [e28, hz]; exact ⟨rfl, N9, Blw.of K9 (by simp [Nat.le_of_lt l2]), Eb, eb, sl, kb, ks, pd, l1, l2, ne, lp, Fe, (by rw [hl]; exact Fn), Fs, Vb, Vs⟩) (Nat.le_of_ble_eq_true rfl) (Nat.le_of_ble_eq_true rfl)
  show Go p e below _ T1 (mkF m 8 #[.val (.ref a), .val (.int y), .val (.int (7 : Int32)), .unset, .unset] [])
  exact loop es.length es pad .unset .unset _ h0 [] (Or.inl ⟨rfl, rfl⟩) rfl lp hg rfl X1 e1 O0 (Keep.refl h0 [a, sl]) (Fr.nil _) Ea Fe Fn Fs Vb Vs
set_option maxRecDepth 65536 in
set_option maxHeartbeats 40000000 in
theorem isSeek16 {p : Program} {l : Launch} {e : Env} {R : Room} {s : State} {m : MethodId} {args : Array Value} {below : List Frame} {meth : Method} {c : Code} {locs : List Loc} {cells slots : Nat} {Z : State} {a0 : Array Value} {P : Outcome → State → Prop} (hw : ∀ d ∈ tables_1, d.before a0 Z = true) (hx : p.tables.exec = Jvm.exec) (hby : c.code = prog_46_method_5_code) (hml : c.maxLocals = 5) (hown : s.vm.findClass "com/example/overrule/overrule/engine/IntSet" = some m.cls) (hZ : Z.Warmed39 s.vm) (a sl : Addr) (ks : ClassId) (y x : Int32) (t : List Int32) (h0 : Heap) (Fs : Fld Z h0 a "com/example/overrule/overrule/engine/IntSet" "slots" "[I" (.ref sl)) (Vs : Arv Z h0 sl ks .int (16 : Int32) (t.map Value.int) (.int (0 : Int32))) : ∀ (k : Nat) (j : Int32) (i : Nat) (T : State), Stand p l e R s m args below meth c T locs cells slots → T.heap = h0 → Ix (16 : Int32) j i → (∃ d, d < k ∧ t.getD ((i + d) % 16) 0 = x) → (∀ (T' : State) (j' : Int32), Stand p l e R s m args below meth c T' locs cells slots → T'.heap = h0 → Ix (16 : Int32) j' (tfN t 16 x k i) → Go p e below P T' (mkF m 62 #[.val (.ref a), .val (.int y), .val (.int (15 : Int32)), .val (.int x), .val (.int j')] [])) → Go p e below P T (mkF m 40 #[.val (.ref a), .val (.int y), .val (.int (15 : Int32)), .val (.int x), .val (.int j)] []) := by
  have wd : ∀ {d : Jvm.Cond} (i : Nat), tables_1[i]? = some d → d.before a0 Z = true := fun i q => hw _ (List.mem_of_getElem? q)
  intro k
  induction k with
  | zero => rintro j i T X e hj ⟨d, hd, -⟩; omega
  | succ k ih =>
    intro j i T9 X9 e9 hj hf K
    have hi : i < 16 := by have := hj.int; have h2 := Int32.lt_iff_toInt_lt.mp hj.2.1; rw [show ((16 : Int32)).toInt = 16 from by decide] at h2; omega
    show Go p e below _ T9 (mkF m 40 #[.val (.ref a), .val (.int y), .val (.int (15 : Int32)), .val (.int x), .val (.int j)] [])
    refine Go.aloadN X9 hx (hb hby d7_40) rfl rfl rfl ?_
    refine Go.getF X9 hx hZ hown (host := "") (Or.inl (wd 14 rfl)) Via.refl e9 Fs (hb hby d7_41) rfl ?_
    intro T1 X1 e1
    refine Go.iload X1 hx (hb hby d7_44) rfl rfl  ?_
    refine Go.iaload X1 hx hZ (.int (t.getD i 0)) Vs e1  ⟨hj.1, hj.2.1⟩ (own_getD hj.2.2) (hb hby d7_46) rfl ?_
    refine Go.iloadN X1 hx (hb hby d7_47) rfl rfl  ?_
    by_cases hc2 : (t.getD i 0) = x
    · refine Go.icmpYes X1 hx (hb hby d7_48) rfl 62 (teq hc2).1 (by decide) (by decide) ?_
      show Go p e below _ T1 (mkF m 62 #[.val (.ref a), .val (.int y), .val (.int (15 : Int32)), .val (.int x), .val (.int j)] [])
      exact K _ _ X1 e1 (by unfold tfN; rw [if_pos hc2]; exact hj)
    · refine Go.icmpNo X1 hx (hb hby d7_48) rfl (feq hc2).1 ?_
      refine Go.iload X1 hx (hb hby d7_51) rfl rfl  ?_
      refine Go.iconst X1 hx (hb hby d7_53) rfl (1 : Int32) rfl ?_
      refine Go.iadd X1 hx (hb hby d7_54) rfl ?_
      refine Go.iloadN X1 hx (hb hby d7_55) rfl rfl  ?_
      refine Go.iand X1 hx (hb hby d7_56) rfl ?_
      refine Go.istore X1 hx (hb hby d7_57) rfl  #[.val (.ref a), .val (.int y), .val (.int (15 : Int32)), .val (.int x), .val (.int ((j + (1 : Int32)) &&& (15 : Int32)))] rfl ?_
      refine Go.goto X1 hx (hb hby d7_59) rfl 40 (by decide) (by decide) ?_
      show Go p e below _ T1 (mkF m 40 #[.val (.ref a), .val (.int y), .val (.int (15 : Int32)), .val (.int x), .val (.int ((j + (1 : Int32)) &&& (15 : Int32)))] [])
      refine ih _ ((i + 1) % 16) _ X1 e1 (ix_next (b := 4) (by decide) rfl (by decide) (by decide) hj) ?_ ?_
      · obtain ⟨d, hd, hv⟩ := hf
        cases d with
        | zero => rw [Nat.add_zero, Nat.mod_eq_of_lt hi] at hv; exact absurd hv hc2
        | succ d => exact ⟨d, by omega, by rw [step_mod]; exact hv⟩
      · intro T' j' X' e' hj'
        refine K T' j' X' e' ?_
        unfold tfN; rw [if_neg hc2]; exact hj'
set_option maxRecDepth 65536 in
set_option maxHeartbeats 40000000 in
theorem isTrunc16 (l : Launch) (Z : State) (a0 : Array Value) (hw : ∀ d ∈ tables_1, d.before a0 Z = true) (a : Addr) (y : Int32) (es : List Int32) (h0 : Heap) (O0 : Old Z Z.heap.size h0) (Ea : Exa Z h0 a "com/example/overrule/overrule/engine/IntSet") (ga : Z.heap.size ≤ a) (hg : Good es) (hy0 : 0 ≤ y.toInt) (R : RepA Z h0 a es 8 16 15 8 16) : Ctr l Z (⟨"com/example/overrule/overrule/engine/IntSet", "truncate", "(I)V"⟩ : MethodName) prog_46_method_5_code 5 none ({ frames := 1, cells := 0, slots := 0, locals := 14 } : Room) #[(.ref a), (.int y)] h0 (fun v h L => v = none ∧ Fr Z.heap.size L ∧ Blw a h0 h ∧ Exa Z h a "com/example/overrule/overrule/engine/IntSet" ∧ RepA Z h a (es.take y.toInt.toNat) 8 16 15 8 16) := by
  refine Ctr.of (plainFor_of_name pn_4) ?_
  have wd : ∀ {d : Jvm.Cond} (i : Nat), tables_1[i]? = some d → d.before a0 Z = true := fun i q => hw _ (List.mem_of_getElem? q)
  intro p e s m below meth c s₁ hx hby hml hown hnm hret hlk hZ X0 e0
  refine Go.cast (ef_7 m a y) ?_
  obtain ⟨eb, sl, kb, ks, pad, l1, l2, ne, lp, Fe, Fn, Fs, Vb, Vs⟩ := R
  have gs : Z.heap.size ≤ sl := Nat.le_trans ga (Nat.le_of_lt l2)
  have n_a_eb : a ≠ eb := Nat.ne_of_lt l1
  have n_a_sl : a ≠ sl := Nat.ne_of_lt l2
  show Go p e below _ s₁ (mkF m 0 #[.val (.ref a), .val (.int y), .unset, .unset, .unset] [])
  refine Go.aloadN X0 hx (hb hby d7_0) rfl rfl rfl ?_
  refine Go.getF X0 hx hZ hown (host := "") (Or.inl (wd 14 rfl)) Via.refl e0 Fs (hb hby d7_1) rfl ?_
  intro T1 X1 e1
  refine Go.alen X1 hx hZ Vs e1 (hb hby d7_4) rfl ?_
  refine Go.iconst X1 hx (hb hby d7_5) rfl (1 : Int32) rfl ?_
  refine Go.isub X1 hx (hb hby d7_6) rfl ?_
  show Go p e below _ T1 (mkF m 7 #[.val (.ref a), .val (.int y), .unset, .unset, .unset] [(.int ((16 : Int32) - (1 : Int32)))])
  rw [show ((16 : Int32) - (1 : Int32)) = (15 : Int32) from by decide]
  refine Go.istoreN X1 hx (hb hby d7_7) rfl  #[.val (.ref a), .val (.int y), .val (.int (15 : Int32)), .unset, .unset] rfl ?_
  have loop : ∀ (n : Nat) (fs pd : List Int32) (y3 y4 : Slot) (T : State) (hh : Heap) (ls : List Loc), ((y3 = .unset ∧ y4 = .unset) ∨ ∃ v3 v4, y3 = .val (.int v3) ∧ y4 = .val (.int v4)) → fs.length = n → (fs ++ pd).length = 8 → Good fs → fs.take y.toInt.toNat = es.take y.toInt.toNat → Stand p l e ({ frames := 1, cells := 0, slots := 0, locals := 14 } : Room) s m #[(.ref a), (.int y)] below meth c T ls 0 0 → T.heap = hh → Old Z Z.heap.size hh → Keep h0 hh [a, sl] → Fr Z.heap.size ls → Exa Z hh a "com/example/overrule/overrule/engine/IntSet" → Fld Z hh a "com/example/overrule/overrule/engine/IntSet" "elements" "[I" (.ref eb) → Fld Z hh a "com/example/overrule/overrule/engine/IntSet" "size" "I" (.int (Int32.ofNat n)) → Fld Z hh a "com/example/overrule/overrule/engine/IntSet" "slots" "[I" (.ref sl) → Arv Z hh eb kb .int (8 : Int32) ((fs ++ pd).map Value.int) (.int (0 : Int32)) → Arv Z hh sl ks .int (16 : Int32) ((tab 16 (hsh (15 : Int32)) fs).map Value.int) (.int (0 : Int32)) → Go p e below (OwnEnd (fun v h L => v = none ∧ Fr Z.heap.size L ∧ Blw a h0 h ∧ Exa Z h a "com/example/overrule/overrule/engine/IntSet" ∧ RepA Z h a (es.take y.toInt.toNat) 8 16 15 8 16) s 0 0) T (mkF m 8 #[.val (.ref a), .val (.int y), .val (.int (15 : Int32)), y3, y4] []) := by
    intro n
    induction n with
    | zero =>
      intro fs pd y3 y4 T9 hh ls hy34 hl lp hg ht X9 e9 O9 K9 N9 Eb Fe Fn Fs Vb Vs
      have hn16 : 0 ≤ 16 := by decide
      have hbb : ¬ y < Int32.ofNat 0 := fun q => by have := (ofNat_lt hn16).mp q; omega
      have hz : es.take y.toInt.toNat = fs := by
        rw [← ht]; exact List.take_of_length_le (by have h1 : ¬ y.toInt < ((0 : Nat) : Int) := fun q => hbb ((ofNat_lt hn16).mpr q); omega)
      show Go p e below _ T9 (mkF m 8 #[.val (.ref a), .val (.int y), .val (.int (15 : Int32)), y3, y4] [])
      refine Go.aloadN X9 hx (hb hby d7_8) rfl rfl rfl ?_
      refine Go.getF X9 hx hZ hown (host := "") (Or.inl (wd 33 rfl)) Via.refl e9 Fn (hb hby d7_9) rfl ?_
      intro T2 X2 e2
      refine Go.iloadN X2 hx (hb hby d7_12) rfl rfl  ?_
      refine Go.icmpYes X2 hx (hb hby d7_13) rfl 73 (flt hbb).2.2.2 (by decide) (by decide) ?_
      exact Go.retV X2 hx hret hlk (hb hby d7_73) rfl (by rw [e2, hz]; exact ⟨rfl, N9, Blw.of K9 (by simp [Nat.le_of_lt l2]), Eb, eb, sl, kb, ks, pd, l1, l2, ne, lp, Fe, (by rw [hl]; exact Fn), Fs, Vb, Vs⟩) (Nat.le_of_ble_eq_true rfl) (Nat.le_of_ble_eq_true rfl)
    | succ n ih =>
      intro fs pd y3 y4 T9 hh ls hy34 hl lp hg ht X9 e9 O9 K9 N9 Eb Fe Fn Fs Vb Vs
      have hn16 : n + 1 ≤ 16 := by rw [List.length_append] at lp; omega
      by_cases hbb : y < Int32.ofNat (n + 1)
      · obtain ⟨fs, x, rfl, hl'⟩ := snoc_of hl
        have hnE : n < 8 := by rw [List.length_append] at lp; omega
        have hr := rem_pack (M := 16) (h := (hsh (15 : Int32))) hl16 hg (by omega)
        have hk : y.toInt.toNat < (fs ++ [x]).length := by have := (ofNat_lt hn16).mp hbb; omega
        show Go p e below _ T9 (mkF m 8 #[.val (.ref a), .val (.int y), .val (.int (15 : Int32)), y3, y4] [])
        refine Go.aloadN X9 hx (hb hby d7_8) rfl rfl rfl ?_
        refine Go.getF X9 hx hZ hown (host := "") (Or.inl (wd 33 rfl)) Via.refl e9 Fn (hb hby d7_9) rfl ?_
        intro T3 X3 e3
        refine Go.iloadN X3 hx (hb hby d7_12) rfl rfl  ?_
        refine Go.icmpNo X3 hx (hb hby d7_13) rfl (tlt hbb).2.2.2 ?_
        refine Go.aloadN X3 hx (hb hby d7_16) rfl rfl rfl ?_
        refine Go.getF X3 hx hZ hown (host := "") (Or.inl (wd 12 rfl)) Via.refl e3 Fe (hb hby d7_17) rfl ?_
        intro T4 X4 e4
        refine Go.aloadN X4 hx (hb hby d7_20) rfl rfl rfl ?_
        refine Go.dup X4 hx (hb hby d7_21) rfl rfl ?_
        refine Go.getF X4 hx hZ hown (host := "") (Or.inl (wd 33 rfl)) Via.refl e4 Fn (hb hby d7_22) rfl ?_
        intro T5 X5 e5
        refine Go.iconst X5 hx (hb hby d7_25) rfl (1 : Int32) rfl ?_
        refine Go.isub X5 hx (hb hby d7_26) rfl ?_
        show Go p e below _ T5 (mkF m 27 #[.val (.ref a), .val (.int y), .val (.int (15 : Int32)), y3, y4] [(.int ((Int32.ofNat (n + 1)) - (1 : Int32))), (.ref a), (.ref eb)])
        rw [ofNat_pred n]
        show Go p e below _ T5 (mkF m 27 #[.val (.ref a), .val (.int y), .val (.int (15 : Int32)), y3, y4] [(.int (Int32.ofNat n)), (.ref a), (.ref eb)])
        refine Go.dupX1 X5 hx (hb hby d7_27) rfl rfl rfl ?_
        refine Go.putF X5 hx hZ hown (host := "") (Or.inl (wd 33 rfl)) Via.refl e5 Fn Eb (Or.inl (wd 34 rfl)) (wd 2 rfl) (ty := .int) (by decide) rfl rfl (hb hby d7_28) rfl ?_
        intro T6 h6 X6 e6 W6 F7
        have K8 := K9.wr W6 (Or.inl (List.mem_of_getElem? (i := 0) rfl))
        have O9 := O9.wr W6 ga
        have N10 := Fr.snoc X6 N9 ga
        have E11 := Eb.wr W6
        have F12 := Fe.other W6 (Or.inr (slot_ne (Or.inl (wd 13 rfl)) (Or.inl (wd 34 rfl)) (by decide) (t := (.array .int)) (t' := .int) (by decide) (by decide)))
        have F13 := Fs.other W6 (Or.inr (slot_ne (Or.inl (wd 15 rfl)) (Or.inl (wd 34 rfl)) (by decide) (t := (.array .int)) (t' := .int) (by decide) (by decide)))
        have V14 := Vb.other W6 (Ne.symm n_a_eb)
        have V15 := Vs.other W6 (Ne.symm n_a_sl)
        refine Go.iaload X6 hx hZ (.int x) V14 e6  (ofNat_in (k := 8) hnE (by decide)) ((own_getD (ofNat_nat (by omega))).trans (congrArg Value.int (read_at hl'))) (hb hby d7_31) rfl ?_
        refine Go.istoreN X6 hx (hb hby d7_32) rfl  #[.val (.ref a), .val (.int y), .val (.int (15 : Int32)), .val (.int x), y4] (by rcases hy34 with ⟨rfl, rfl⟩ | ⟨v3, v4, rfl, rfl⟩ <;> rfl) ?_
        refine Go.iloadN X6 hx (hb hby d7_33) rfl rfl  ?_
        refine Go.iloadN X6 hx (hb hby d7_34) rfl rfl  ?_
        refine Go.pureS X6 hx hZ hown (wd 29 rfl) (wd 30 rfl) (wd 3 rfl) (wd 31 rfl) (by decide) [(.int x), (.int (15 : Int32))] [] (isSlot l Z a0 hw x (15 : Int32) h6) e6 rfl (by rw [hml]; rfl) pd_2 rfl (hb hby d7_35) (Nat.le_of_ble_eq_true rfl) (Nat.le_of_ble_eq_true rfl) (Nat.le_of_ble_eq_true rfl) (Nat.le_of_ble_eq_true rfl) ?_
        intro T16 X16 e16
        refine Go.istore X16 hx (hb hby d7_38) rfl  #[.val (.ref a), .val (.int y), .val (.int (15 : Int32)), .val (.int x), .val (.int (slotv x (15 : Int32)))] (by rcases hy34 with ⟨rfl, rfl⟩ | ⟨v3, v4, rfl, rfl⟩ <;> rfl) ?_
        show Go p e below _ T16 (mkF m 40 #[.val (.ref a), .val (.int y), .val (.int (15 : Int32)), .val (.int x), .val (.int (slotv x (15 : Int32)))] [])
        refine isSeek16 hw hx hby hml hown hZ a sl ks y x (tab 16 (hsh (15 : Int32)) (fs ++ [x])) h6 F13 V15 16 _ _ _ X16 e16 (ix_slot (b := 4) (by decide) rfl (by decide) (by decide) x) hr.1 ?_
        intro T17 j17 X17 e17 hj17
        show Go p e below _ T17 (mkF m 62 #[.val (.ref a), .val (.int y), .val (.int (15 : Int32)), .val (.int x), .val (.int j17)] [])
        refine Go.aloadN X17 hx (hb hby d7_62) rfl rfl rfl ?_
        refine Go.getF X17 hx hZ hown (host := "") (Or.inl (wd 14 rfl)) Via.refl e17 F13 (hb hby d7_63) rfl ?_
        intro T18 X18 e18
        refine Go.iload X18 hx (hb hby d7_66) rfl rfl  ?_
        refine Go.iconst X18 hx (hb hby d7_68) rfl (-1 : Int32) rfl ?_
        refine Go.iastore X18 hx hZ V15 e18 ⟨hj17.1, hj17.2.1⟩ _ hj17.2.2 (by rw [List.length_map, (inv16 hg (by omega)).1]; exact hr.2.1) (hb hby d7_69) rfl ?_
        intro T19 h19 X19 e19 W19 V19'
        have V19 : Arv Z h19 sl ks .int (16 : Int32) ((tab 16 (hsh (15 : Int32)) fs).map Value.int) (.int (0 : Int32)) := by rw [← hr.2.2, List.map_set]; exact V19'
        have K20 := K8.wr W19 (Or.inl (List.mem_of_getElem? (i := 1) rfl))
        have O21 := O9.wr W19 gs
        have N22 := Fr.snoc X19 N10 gs
        have E23 := E11.wr W19
        have F24 := F12.other W19 (Or.inl n_a_sl)
        have F25 := F7.other W19 (Or.inl n_a_sl)
        have F26 := F13.other W19 (Or.inl n_a_sl)
        have V27 := V14.other W19 ne
        refine Go.goto X19 hx (hb hby d7_70) rfl 8 (by decide) (by decide) ?_
        show Go p e below _ T19 (mkF m 8 #[.val (.ref a), .val (.int y), .val (.int (15 : Int32)), .val (.int x), .val (.int j17)] [])
        refine ih fs (x :: pd) _ _ _ _ _ (Or.inr ⟨_, _, rfl, rfl⟩) hl' (by simpa using lp) (good_pre hg) ((take_snoc hk).symm.trans ht) X19 e19 O21 K20 N22 E23 F24 F25 F26 ?_ V19
        rw [show fs ++ x :: pd = fs ++ [x] ++ pd from by simp]; exact V27
      · have hz : es.take y.toInt.toNat = fs := by
          rw [← ht]; exact List.take_of_length_le (by have h1 : ¬ y.toInt < (((n + 1) : Nat) : Int) := fun q => hbb ((ofNat_lt hn16).mpr q); omega)
        show Go p e below _ T9 (mkF m 8 #[.val (.ref a), .val (.int y), .val (.int (15 : Int32)), y3, y4] [])
        refine Go.aloadN X9 hx (hb hby d7_8) rfl rfl rfl ?_
        refine Go.getF X9 hx hZ hown (host := "") (Or.inl (wd 33 rfl)) Via.refl e9 Fn (hb hby d7_9) rfl ?_
        intro T28 X28 e28
        refine Go.iloadN X28 hx (hb hby d7_12) rfl rfl  ?_
        refine Go.icmpYes X28 hx (hb hby d7_13) rfl 73 (flt hbb).2.2.2 (by decide) (by decide) ?_
        exact Go.retV X28 hx hret hlk (hb hby d7_73) rfl (by rw [e28, hz]; exact ⟨rfl, N9, Blw.of K9 (by simp [Nat.le_of_lt l2]), Eb, eb, sl, kb, ks, pd, l1, l2, ne, lp, Fe, (by rw [hl]; exact Fn), Fs, Vb, Vs⟩) (Nat.le_of_ble_eq_true rfl) (Nat.le_of_ble_eq_true rfl)
  show Go p e below _ T1 (mkF m 8 #[.val (.ref a), .val (.int y), .val (.int (15 : Int32)), .unset, .unset] [])
  exact loop es.length es pad .unset .unset _ h0 [] (Or.inl ⟨rfl, rfl⟩) rfl lp hg rfl X1 e1 O0 (Keep.refl h0 [a, sl]) (Fr.nil _) Ea Fe Fn Fs Vb Vs
set_option maxRecDepth 65536 in
set_option maxHeartbeats 40000000 in
theorem isTruncR (l : Launch) (Z : State) (a0 : Array Value) (hw : ∀ d ∈ tables_1, d.before a0 Z = true) (a aN : Addr) (y : Int32) (es : List Int32) (h0 : Heap) (O0 : Old Z Z.heap.size h0) (R : Rep Z aN h0 a es) (hne : es ≠ []) (hy0 : 0 ≤ y.toInt) : Ctr l Z (⟨"com/example/overrule/overrule/engine/IntSet", "truncate", "(I)V"⟩ : MethodName) prog_46_method_5_code 5 none ({ frames := 1, cells := 0, slots := 0, locals := 14 } : Room) #[(.ref a), (.int y)] h0 (fun v h L => v = none ∧ Fr Z.heap.size L ∧ Blw a h0 h ∧ RepT Z h a (es.take y.toInt.toNat)) := by
  obtain ⟨ga, hg, Ea, ⟨he, -⟩ | ⟨-, h4, RA⟩ | ⟨h5, RA⟩⟩ := R
  · exact absurd he hne
  · refine (isTrunc8 l Z a0 hw a y es h0 O0 Ea ga hg hy0 RA).mono ?_
    rintro v h L ⟨rfl, N, B, E, RA'⟩
    exact ⟨rfl, N, B, good_take hg _, E, Or.inl ⟨by rw [List.length_take]; omega, RA'⟩⟩
  · refine (isTrunc16 l Z a0 hw a y es h0 O0 Ea ga hg hy0 RA).mono ?_
    rintro v h L ⟨rfl, N, B, E, RA'⟩
    exact ⟨rfl, N, B, good_take hg _, E, Or.inr ⟨by rw [List.length_take]; omega, RA'⟩⟩
theorem d8_0 : decode prog_46_method_6_code 0 = .ok (.aload_n 0, 1) := by decide +kernel
theorem d8_1 : decode prog_46_method_6_code 1 = .ok (.getfield 27, 3) := by decide +kernel
theorem d8_4 : decode prog_46_method_6_code 4 = .ok (.ireturn, 1) := by decide +kernel
theorem ef_8 (m : MethodId) (x0 : Addr) : entryFrame m #[(.ref x0)] 1 = mkF m 0 #[.val (.ref x0)] [] := by first | (simp [entryFrame, mkF, argsToLocals, Value.category]; done) | rfl
set_option maxRecDepth 65536 in
set_option maxHeartbeats 40000000 in
theorem isSize (l : Launch) (Z : State) (a0 : Array Value) (hw : ∀ d ∈ tables_1, d.before a0 Z = true) (a : Addr) (n : Int32) (h0 : Heap) (Fn : Fld Z h0 a "com/example/overrule/overrule/engine/IntSet" "size" "I" (.int n)) : Pur l Z (⟨"com/example/overrule/overrule/engine/IntSet", "size", "()I"⟩ : MethodName) prog_46_method_6_code 1 (some .int) 0 0 #[(.ref a)] h0 (some (.int n)) := by
  refine Ctr.of (plainFor_of_name pn_4) ?_
  have wd : ∀ {d : Jvm.Cond} (i : Nat), tables_1[i]? = some d → d.before a0 Z = true := fun i q => hw _ (List.mem_of_getElem? q)
  intro p e s m below meth c s₁ hx hby hml hown hnm hret hlk hZ X0 e0
  refine Go.cast (ef_8 m a) ?_
  show Go p e below _ s₁ (mkF m 0 #[.val (.ref a)] [])
  refine Go.aloadN X0 hx (hb hby d8_0) rfl rfl rfl ?_
  refine Go.getF X0 hx hZ hown (host := "") (Or.inl (wd 33 rfl)) Via.refl e0 Fn (hb hby d8_1) rfl ?_
  intro T1 X1 e1
  exact Go.retI X1 hx hret hlk (hb hby d8_4) rfl ⟨by first | rfl | simp [], rfl, e1⟩ (Nat.le_of_ble_eq_true rfl) (Nat.le_of_ble_eq_true rfl)
theorem d10_0 : decode method_3_code 0 = .ok (.iload_n 1, 1) := by decide +kernel
theorem d10_1 : decode method_3_code 1 = .ok (.ifCond .ne 5, 3) := by decide +kernel
theorem d10_4 : decode method_3_code 4 = .ok (.iconst 1, 1) := by decide +kernel
theorem d10_5 : decode method_3_code 5 = .ok (.ireturn, 1) := by decide +kernel
theorem d10_6 : decode method_3_code 6 = .ok (.aload_n 0, 1) := by decide +kernel
theorem d10_7 : decode method_3_code 7 = .ok (.iload_n 2, 1) := by decide +kernel
theorem d10_8 : decode method_3_code 8 = .ok (.invokevirtual 35, 3) := by decide +kernel
theorem d10_11 : decode method_3_code 11 = .ok (.iload_n 3, 1) := by decide +kernel
theorem d10_12 : decode method_3_code 12 = .ok (.iload 4, 2) := by decide +kernel
theorem d10_14 : decode method_3_code 14 = .ok (.if_icmp .ge 7, 3) := by decide +kernel
theorem d10_17 : decode method_3_code 17 = .ok (.iconst 1, 1) := by decide +kernel
theorem d10_18 : decode method_3_code 18 = .ok (.goto 4, 3) := by decide +kernel
theorem d10_21 : decode method_3_code 21 = .ok (.iconst 0, 1) := by decide +kernel
theorem d10_22 : decode method_3_code 22 = .ok (.if_icmp .ne 7, 3) := by decide +kernel
theorem d10_25 : decode method_3_code 25 = .ok (.iconst 1, 1) := by decide +kernel
theorem d10_26 : decode method_3_code 26 = .ok (.goto 4, 3) := by decide +kernel
theorem d10_29 : decode method_3_code 29 = .ok (.iconst 0, 1) := by decide +kernel
theorem d10_30 : decode method_3_code 30 = .ok (.ireturn, 1) := by decide +kernel
theorem pn_10 : plainName "com/example/overrule/overrule/engine/IntSetTruncatePinLaw" = true := by first | (simp [plainName, overriddenIn]; done) | decide +kernel
theorem ef_10 (m : MethodId) (x0 : Addr) (x1 : Int32) (x2 : Int32) (x3 : Int32) (x4 : Int32) : entryFrame m #[(.ref x0), (.int x1), (.int x2), (.int x3), (.int x4)] 5 = mkF m 0 #[.val (.ref x0), .val (.int x1), .val (.int x2), .val (.int x3), .val (.int x4)] [] := by first | (simp [entryFrame, mkF, argsToLocals, Value.category]; done) | rfl
set_option maxRecDepth 65536 in
set_option maxHeartbeats 40000000 in
theorem lwOk (l : Launch) (Z : State) (a0 : Array Value) (hw : ∀ d ∈ tables_1, d.before a0 Z = true) (a aN : Addr) (u0 u1 u2 u3 : Int32) (es : List Int32) (h0 : Heap) (Ea : Exa Z h0 a "com/example/overrule/overrule/engine/IntSet") (hg : Good es) (R : RepN Z aN h0 a ∧ es = [] ∨ (es.length ≤ 4 ∧ RepA Z h0 a es 4 8 7 4 8) ∨ (es.length ≤ 8 ∧ RepA Z h0 a es 8 16 15 8 16)) : Pur l Z (⟨"com/example/overrule/overrule/engine/IntSetTruncatePinLaw", "ok", "(Lcom/example/overrule/overrule/engine/IntSet;ZIII)Z"⟩ : MethodName) method_3_code 5 (some .boolean) 2 29 #[(.ref a), (.int u0), (.int u1), (.int u2), (.int u3)] h0 (some (.int (if u0 = (0 : Int32) then (1 : Int32) else (if (if u1 ∈ es then 1 else 0 : Int32) = (if u2 < u3 then 1 else 0 : Int32) then (1 : Int32) else (0 : Int32))))) := by
  refine Ctr.of (plainFor_of_name pn_10) ?_
  have wd : ∀ {d : Jvm.Cond} (i : Nat), tables_1[i]? = some d → d.before a0 Z = true := fun i q => hw _ (List.mem_of_getElem? q)
  intro p e s m below meth c s₁ hx hby hml hown hnm hret hlk hZ X0 e0
  refine Go.cast (ef_10 m a u0 u1 u2 u3) ?_
  show Go p e below _ s₁ (mkF m 0 #[.val (.ref a), .val (.int u0), .val (.int u1), .val (.int u2), .val (.int u3)] [])
  refine Go.iloadN X0 hx (hb hby d10_0) rfl rfl  ?_
  by_cases hc1 : u0 = (0 : Int32)
  · refine Go.ifNo X0 hx (hb hby d10_1) rfl ((if0 _ _).trans (teq hc1).2) ?_
    refine Go.iconst X0 hx (hb hby d10_4) rfl (1 : Int32) rfl ?_
    exact Go.retZ X0 hx (z' := (1 : Int32)) hret hlk (hb hby d10_5) rfl (by decide) ⟨by rw [if_pos hc1], rfl, e0⟩ (Nat.le_of_ble_eq_true rfl) (Nat.le_of_ble_eq_true rfl)
  · refine Go.ifYes X0 hx (hb hby d10_1) rfl 6 ((if0 _ _).trans (feq hc1).2) (by decide) (by decide) ?_
    refine Go.aloadN X0 hx (hb hby d10_6) rfl rfl rfl ?_
    refine Go.iloadN X0 hx (hb hby d10_7) rfl rfl  ?_
    refine Go.pureV X0 hx hZ hown (wd 53 rfl) (wd 54 rfl) (notFace_of_selects (args := #[]) (mvT hZ (wd 56 rfl))) (wd 56 rfl) (wd 55 rfl) (wd 3 rfl) (wd 57 rfl) (by decide) [(.int u1)] [] Ea (isHasR l Z a0 hw a aN u1 es h0 hg R) e0 rfl (by rw [hml]; rfl) pd_5 rfl (hb hby d10_8) (Nat.le_of_ble_eq_true rfl) (Nat.le_of_ble_eq_true rfl) (Nat.le_of_ble_eq_true rfl) (Nat.le_of_ble_eq_true rfl) ?_
    intro T2 X2 e2
    refine Go.iloadN X2 hx (hb hby d10_11) rfl rfl  ?_
    refine Go.iload X2 hx (hb hby d10_12) rfl rfl  ?_
    by_cases hc3 : u2 < u3
    · refine Go.icmpNo X2 hx (hb hby d10_14) rfl (tlt hc3).2.1 ?_
      refine Go.iconst X2 hx (hb hby d10_17) rfl (1 : Int32) rfl ?_
      refine Go.goto X2 hx (hb hby d10_18) rfl 22 (by decide) (by decide) ?_
      by_cases hc4 : (if u1 ∈ es then 1 else 0 : Int32) = (1 : Int32)
      · refine Go.icmpNo X2 hx (hb hby d10_22) rfl (teq hc4).2 ?_
        refine Go.iconst X2 hx (hb hby d10_25) rfl (1 : Int32) rfl ?_
        refine Go.goto X2 hx (hb hby d10_26) rfl 30 (by decide) (by decide) ?_
        exact Go.retZ X2 hx (z' := (1 : Int32)) hret hlk (hb hby d10_30) rfl (by decide) ⟨by rw [if_neg hc1, if_pos hc3, if_pos hc4], rfl, e2⟩ (Nat.le_of_ble_eq_true rfl) (Nat.le_of_ble_eq_true rfl)
      · refine Go.icmpYes X2 hx (hb hby d10_22) rfl 29 (feq hc4).2 (by decide) (by decide) ?_
        refine Go.iconst X2 hx (hb hby d10_29) rfl (0 : Int32) rfl ?_
        exact Go.retZ X2 hx (z' := (0 : Int32)) hret hlk (hb hby d10_30) rfl (by decide) ⟨by rw [if_neg hc1, if_pos hc3, if_neg hc4], rfl, e2⟩ (Nat.le_of_ble_eq_true rfl) (Nat.le_of_ble_eq_true rfl)
    · refine Go.icmpYes X2 hx (hb hby d10_14) rfl 21 (flt hc3).2.1 (by decide) (by decide) ?_
      refine Go.iconst X2 hx (hb hby d10_21) rfl (0 : Int32) rfl ?_
      by_cases hc5 : (if u1 ∈ es then 1 else 0 : Int32) = (0 : Int32)
      · refine Go.icmpNo X2 hx (hb hby d10_22) rfl (teq hc5).2 ?_
        refine Go.iconst X2 hx (hb hby d10_25) rfl (1 : Int32) rfl ?_
        refine Go.goto X2 hx (hb hby d10_26) rfl 30 (by decide) (by decide) ?_
        exact Go.retZ X2 hx (z' := (1 : Int32)) hret hlk (hb hby d10_30) rfl (by decide) ⟨by rw [if_neg hc1, if_neg hc3, if_pos hc5], rfl, e2⟩ (Nat.le_of_ble_eq_true rfl) (Nat.le_of_ble_eq_true rfl)
      · refine Go.icmpYes X2 hx (hb hby d10_22) rfl 29 (feq hc5).2 (by decide) (by decide) ?_
        refine Go.iconst X2 hx (hb hby d10_29) rfl (0 : Int32) rfl ?_
        exact Go.retZ X2 hx (z' := (0 : Int32)) hret hlk (hb hby d10_30) rfl (by decide) ⟨by rw [if_neg hc1, if_neg hc3, if_neg hc5], rfl, e2⟩ (Nat.le_of_ble_eq_true rfl) (Nat.le_of_ble_eq_true rfl)
theorem ef_0 (m : MethodId) (x0 : Int32) (x1 : Int32) (x2 : Int32) (x3 : Int32) (x4 : Int32) (x5 : Int32) : entryFrame m #[(.int x0), (.int x1), (.int x2), (.int x3), (.int x4), (.int x5)] maxLocals = mkF m 0 #[.val (.int x0), .val (.int x1), .val (.int x2), .val (.int x3), .val (.int x4), .val (.int x5), .unset, .unset, .unset, .unset, .unset, .unset, .unset, .unset, .unset, .unset, .unset, .unset, .unset, .unset, .unset, .unset, .unset, .unset, .unset, .unset, .unset, .unset, .unset] [] := by first | (simp [entryFrame, mkF, argsToLocals, Value.category, maxLocals]; done) | rfl
set_option maxRecDepth 65536 in
set_option maxHeartbeats 40000000 in
theorem rm0 (l : Launch) (Z : State) (a0 : Array Value) (hw : ∀ d ∈ tables_1, d.before a0 Z = true) (x0 : Int32) (x1 : Int32) (x2 : Int32) (x3 : Int32) (x4 : Int32) (x5 : Int32) (a_NONE : Addr) (k_NONE : ClassId) (FF : Facts Z a_NONE k_NONE) : Ctr l Z x code maxLocals ret room_1 #[(.int x0), (.int x1), (.int x2), (.int x3), (.int x4), (.int x5)] Z.heap (fun v h L => v = some (.int 1) ∧ Fr Z.heap.size L) := by
  refine Ctr.of (plainFor_of_name pn_10) ?_
  have wd : ∀ {d : Jvm.Cond} (i : Nat), tables_1[i]? = some d → d.before a0 Z = true := fun i q => hw _ (List.mem_of_getElem? q)
  intro p e s m below meth c s₁ hx hby hml hown hnm hret hlk hZ X0 e0
  have FF' := FF
  obtain ⟨S_NONE, V_NONE⟩ := FF'
  have hown : s.vm.findClass "com/example/overrule/overrule/engine/IntSetTruncatePinLaw" = some m.cls := hown
  have O0 := Old.start Z
  refine Go.cast (ef_0 m x0 x1 x2 x3 x4 x5) ?_
  show Go p e below _ s₁ (mkF m 0 #[.val (.int x0), .val (.int x1), .val (.int x2), .val (.int x3), .val (.int x4), .val (.int x5), .unset, .unset, .unset, .unset, .unset, .unset, .unset, .unset, .unset, .unset, .unset, .unset, .unset, .unset, .unset, .unset, .unset, .unset, .unset, .unset, .unset, .unset, .unset] [])
  refine Go.iloadN X0 hx (hb hby at_0) rfl rfl  ?_
  refine Go.ldc X0 hx hZ hown (wd 0 rfl) (hb hby at_1) rfl ?_
  refine Go.iand X0 hx (hb hby at_3) rfl ?_
  refine Go.istore X0 hx (hb hby at_4) rfl  #[.val (.int x0), .val (.int x1), .val (.int x2), .val (.int x3), .val (.int x4), .val (.int x5), .val (.int (x0 &&& (2147483647 : Int32))), .unset, .unset, .unset, .unset, .unset, .unset, .unset, .unset, .unset, .unset, .unset, .unset, .unset, .unset, .unset, .unset, .unset, .unset, .unset, .unset, .unset, .unset] rfl ?_
  show Go p e below _ s₁ (mkF m 6 #[.val (.int x0), .val (.int x1), .val (.int x2), .val (.int x3), .val (.int x4), .val (.int x5), .val (.int (x0 &&& (2147483647 : Int32))), .unset, .unset, .unset, .unset, .unset, .unset, .unset, .unset, .unset, .unset, .unset, .unset, .unset, .unset, .unset, .unset, .unset, .unset, .unset, .unset, .unset, .unset] [])
  obtain ⟨w0, hw0, nn0⟩ : ∃ w, w = (x0 &&& (2147483647 : Int32)) ∧ 0 ≤ w.toInt := ⟨_, rfl, own_nn _⟩
  rw [← hw0]
  show Go p e below _ s₁ (mkF m 6 #[.val (.int x0), .val (.int x1), .val (.int x2), .val (.int x3), .val (.int x4), .val (.int x5), .val (.int w0), .unset, .unset, .unset, .unset, .unset, .unset, .unset, .unset, .unset, .unset, .unset, .unset, .unset, .unset, .unset, .unset, .unset, .unset, .unset, .unset, .unset, .unset] [])
  refine Go.iloadN X0 hx (hb hby at_6) rfl rfl  ?_
  refine Go.ldc X0 hx hZ hown (wd 0 rfl) (hb hby at_7) rfl ?_
  refine Go.iand X0 hx (hb hby at_9) rfl ?_
  refine Go.istore X0 hx (hb hby at_10) rfl  #[.val (.int x0), .val (.int x1), .val (.int x2), .val (.int x3), .val (.int x4), .val (.int x5), .val (.int w0), .val (.int (x1 &&& (2147483647 : Int32))), .unset, .unset, .unset, .unset, .unset, .unset, .unset, .unset, .unset, .unset, .unset, .unset, .unset, .unset, .unset, .unset, .unset, .unset, .unset, .unset, .unset] rfl ?_
  show Go p e below _ s₁ (mkF m 12 #[.val (.int x0), .val (.int x1), .val (.int x2), .val (.int x3), .val (.int x4), .val (.int x5), .val (.int w0), .val (.int (x1 &&& (2147483647 : Int32))), .unset, .unset, .unset, .unset, .unset, .unset, .unset, .unset, .unset, .unset, .unset, .unset, .unset, .unset, .unset, .unset, .unset, .unset, .unset, .unset, .unset] [])
  obtain ⟨w1, hw1, nn1⟩ : ∃ w, w = (x1 &&& (2147483647 : Int32)) ∧ 0 ≤ w.toInt := ⟨_, rfl, own_nn _⟩
  rw [← hw1]
  show Go p e below _ s₁ (mkF m 12 #[.val (.int x0), .val (.int x1), .val (.int x2), .val (.int x3), .val (.int x4), .val (.int x5), .val (.int w0), .val (.int w1), .unset, .unset, .unset, .unset, .unset, .unset, .unset, .unset, .unset, .unset, .unset, .unset, .unset, .unset, .unset, .unset, .unset, .unset, .unset, .unset, .unset] [])
  refine Go.iloadN X0 hx (hb hby at_12) rfl rfl  ?_
  refine Go.ldc X0 hx hZ hown (wd 0 rfl) (hb hby at_13) rfl ?_
  refine Go.iand X0 hx (hb hby at_15) rfl ?_
  refine Go.istore X0 hx (hb hby at_16) rfl  #[.val (.int x0), .val (.int x1), .val (.int x2), .val (.int x3), .val (.int x4), .val (.int x5), .val (.int w0), .val (.int w1), .val (.int (x2 &&& (2147483647 : Int32))), .unset, .unset, .unset, .unset, .unset, .unset, .unset, .unset, .unset, .unset, .unset, .unset, .unset, .unset, .unset, .unset, .unset, .unset, .unset, .unset] rfl ?_
  show Go p e below _ s₁ (mkF m 18 #[.val (.int x0), .val (.int x1), .val (.int x2), .val (.int x3), .val (.int x4), .val (.int x5), .val (.int w0), .val (.int w1), .val (.int (x2 &&& (2147483647 : Int32))), .unset, .unset, .unset, .unset, .unset, .unset, .unset, .unset, .unset, .unset, .unset, .unset, .unset, .unset, .unset, .unset, .unset, .unset, .unset, .unset] [])
  obtain ⟨w2, hw2, nn2⟩ : ∃ w, w = (x2 &&& (2147483647 : Int32)) ∧ 0 ≤ w.toInt := ⟨_, rfl, own_nn _⟩
  rw [← hw2]
  show Go p e below _ s₁ (mkF m 18 #[.val (.int x0), .val (.int x1), .val (.int x2), .val (.int x3), .val (.int x4), .val (.int x5), .val (.int w0), .val (.int w1), .val (.int w2), .unset, .unset, .unset, .unset, .unset, .unset, .unset, .unset, .unset, .unset, .unset, .unset, .unset, .unset, .unset, .unset, .unset, .unset, .unset, .unset] [])
  refine Go.iloadN X0 hx (hb hby at_18) rfl rfl  ?_
  refine Go.ldc X0 hx hZ hown (wd 0 rfl) (hb hby at_19) rfl ?_
  refine Go.iand X0 hx (hb hby at_21) rfl ?_
  refine Go.istore X0 hx (hb hby at_22) rfl  #[.val (.int x0), .val (.int x1), .val (.int x2), .val (.int x3), .val (.int x4), .val (.int x5), .val (.int w0), .val (.int w1), .val (.int w2), .val (.int (x3 &&& (2147483647 : Int32))), .unset, .unset, .unset, .unset, .unset, .unset, .unset, .unset, .unset, .unset, .unset, .unset, .unset, .unset, .unset, .unset, .unset, .unset, .unset] rfl ?_
  show Go p e below _ s₁ (mkF m 24 #[.val (.int x0), .val (.int x1), .val (.int x2), .val (.int x3), .val (.int x4), .val (.int x5), .val (.int w0), .val (.int w1), .val (.int w2), .val (.int (x3 &&& (2147483647 : Int32))), .unset, .unset, .unset, .unset, .unset, .unset, .unset, .unset, .unset, .unset, .unset, .unset, .unset, .unset, .unset, .unset, .unset, .unset, .unset] [])
  obtain ⟨w3, hw3, nn3⟩ : ∃ w, w = (x3 &&& (2147483647 : Int32)) ∧ 0 ≤ w.toInt := ⟨_, rfl, own_nn _⟩
  rw [← hw3]
  show Go p e below _ s₁ (mkF m 24 #[.val (.int x0), .val (.int x1), .val (.int x2), .val (.int x3), .val (.int x4), .val (.int x5), .val (.int w0), .val (.int w1), .val (.int w2), .val (.int w3), .unset, .unset, .unset, .unset, .unset, .unset, .unset, .unset, .unset, .unset, .unset, .unset, .unset, .unset, .unset, .unset, .unset, .unset, .unset] [])
  refine Go.iload X0 hx (hb hby at_24) rfl rfl  ?_
  refine Go.ldc X0 hx hZ hown (wd 0 rfl) (hb hby at_26) rfl ?_
  refine Go.iand X0 hx (hb hby at_28) rfl ?_
  refine Go.istore X0 hx (hb hby at_29) rfl  #[.val (.int x0), .val (.int x1), .val (.int x2), .val (.int x3), .val (.int x4), .val (.int x5), .val (.int w0), .val (.int w1), .val (.int w2), .val (.int w3), .val (.int (x4 &&& (2147483647 : Int32))), .unset, .unset, .unset, .unset, .unset, .unset, .unset, .unset, .unset, .unset, .unset, .unset, .unset, .unset, .unset, .unset, .unset, .unset] rfl ?_
  show Go p e below _ s₁ (mkF m 31 #[.val (.int x0), .val (.int x1), .val (.int x2), .val (.int x3), .val (.int x4), .val (.int x5), .val (.int w0), .val (.int w1), .val (.int w2), .val (.int w3), .val (.int (x4 &&& (2147483647 : Int32))), .unset, .unset, .unset, .unset, .unset, .unset, .unset, .unset, .unset, .unset, .unset, .unset, .unset, .unset, .unset, .unset, .unset, .unset] [])
  obtain ⟨w4, hw4, nn4⟩ : ∃ w, w = (x4 &&& (2147483647 : Int32)) ∧ 0 ≤ w.toInt := ⟨_, rfl, own_nn _⟩
  rw [← hw4]
  show Go p e below _ s₁ (mkF m 31 #[.val (.int x0), .val (.int x1), .val (.int x2), .val (.int x3), .val (.int x4), .val (.int x5), .val (.int w0), .val (.int w1), .val (.int w2), .val (.int w3), .val (.int w4), .unset, .unset, .unset, .unset, .unset, .unset, .unset, .unset, .unset, .unset, .unset, .unset, .unset, .unset, .unset, .unset, .unset, .unset] [])
  refine Go.iload X0 hx (hb hby at_31) rfl rfl  ?_
  refine Go.bipush X0 hx (hb hby at_33) rfl (7 : Int32) rfl ?_
  refine Go.iand X0 hx (hb hby at_35) rfl ?_
  refine Go.istore X0 hx (hb hby at_36) rfl  #[.val (.int x0), .val (.int x1), .val (.int x2), .val (.int x3), .val (.int x4), .val (.int x5), .val (.int w0), .val (.int w1), .val (.int w2), .val (.int w3), .val (.int w4), .val (.int (x5 &&& (7 : Int32))), .unset, .unset, .unset, .unset, .unset, .unset, .unset, .unset, .unset, .unset, .unset, .unset, .unset, .unset, .unset, .unset, .unset] rfl ?_
  show Go p e below _ s₁ (mkF m 38 #[.val (.int x0), .val (.int x1), .val (.int x2), .val (.int x3), .val (.int x4), .val (.int x5), .val (.int w0), .val (.int w1), .val (.int w2), .val (.int w3), .val (.int w4), .val (.int (x5 &&& (7 : Int32))), .unset, .unset, .unset, .unset, .unset, .unset, .unset, .unset, .unset, .unset, .unset, .unset, .unset, .unset, .unset, .unset, .unset] [])
  obtain ⟨w5, hw5, nn5, le5⟩ : ∃ w, w = (x5 &&& (7 : Int32)) ∧ 0 ≤ w.toInt ∧ w.toInt < 8 := ⟨_, rfl, own_w7 _⟩
  rw [← hw5]
  show Go p e below _ s₁ (mkF m 38 #[.val (.int x0), .val (.int x1), .val (.int x2), .val (.int x3), .val (.int x4), .val (.int x5), .val (.int w0), .val (.int w1), .val (.int w2), .val (.int w3), .val (.int w4), .val (.int w5), .unset, .unset, .unset, .unset, .unset, .unset, .unset, .unset, .unset, .unset, .unset, .unset, .unset, .unset, .unset, .unset, .unset] [])
  refine Go.newO X0 hx hZ hown (wd 1 rfl) (wd 2 rfl) (wd 3 rfl) e0 (hb hby at_38) rfl (Nat.le_of_ble_eq_true rfl) (Nat.le_of_ble_eq_true rfl) ?_
  intro T1 h1 b1 g1 X1 e1 E1 A1 D1
  have F2 : Fld Z h1 b1 "com/example/overrule/overrule/engine/IntSet" "elements" "[I" .null := D1 (Or.inl (wd 13 rfl)) (ty := (.array .int)) (by decide)
  have F3 : Fld Z h1 b1 "com/example/overrule/overrule/engine/IntSet" "slots" "[I" .null := D1 (Or.inl (wd 15 rfl)) (ty := (.array .int)) (by decide)
  have F4 : Fld Z h1 b1 "com/example/overrule/overrule/engine/IntSet" "size" "I" (.int (0 : Int32)) := D1 (Or.inl (wd 34 rfl)) (ty := .int) (by decide)
  have q1 : Z.heap.size ≤ b1 := Nat.le_trans O0.2.1 (Nat.le_of_eq g1.symm)
  have O5 := O0.ext E1
  refine Go.dup X1 hx (hb hby at_41) rfl rfl ?_
  refine Go.callI X1 hx hZ rfl hown (wd 4 rfl) (wd 5 rfl) (wd 3 rfl) (wd 6 rfl) (by decide) [] [(.ref b1)] (isInit l Z a0 hw b1 a_NONE k_NONE h1 O5 FF A1 q1 F2 F4 F3) e1 rfl (by rw [hml]; rfl) pd_6 rfl (hb hby at_42) (Nat.le_of_ble_eq_true rfl) (Nat.le_of_ble_eq_true rfl) (Nat.le_of_ble_eq_true rfl) (Nat.le_of_ble_eq_true rfl) ?_
  rintro vv6 T6 L6 X6 Q6
  obtain ⟨rfl, N6, K6, Y6, Fe6, Fn6, Fs6⟩ := Q6
  have M7 := Fr.app (Fr.nil _) N6
  have O8 := O5.keep K6 (allS q1 (all0))
  have E9 := A1.keep K6
  have R10 : Rep Z a_NONE T6.heap b1 ([] : List Int32) := ⟨q1, good_nil, Y6, Or.inl ⟨rfl, Fe6, Fn6, Fs6⟩⟩
  show Go p e below _ T6 (mkF m 45 #[.val (.int x0), .val (.int x1), .val (.int x2), .val (.int x3), .val (.int x4), .val (.int x5), .val (.int w0), .val (.int w1), .val (.int w2), .val (.int w3), .val (.int w4), .val (.int w5), .unset, .unset, .unset, .unset, .unset, .unset, .unset, .unset, .unset, .unset, .unset, .unset, .unset, .unset, .unset, .unset, .unset] [(.ref b1)])
  refine Go.astore X6 hx (hb hby at_45) rfl rfl #[.val (.int x0), .val (.int x1), .val (.int x2), .val (.int x3), .val (.int x4), .val (.int x5), .val (.int w0), .val (.int w1), .val (.int w2), .val (.int w3), .val (.int w4), .val (.int w5), .val (.ref b1), .unset, .unset, .unset, .unset, .unset, .unset, .unset, .unset, .unset, .unset, .unset, .unset, .unset, .unset, .unset, .unset] rfl ?_
  refine Go.aload X6 hx (hb hby at_47) rfl rfl rfl ?_
  refine Go.iload X6 hx (hb hby at_49) rfl rfl  ?_
  refine Go.callV X6 hx hZ hown (wd 16 rfl) (wd 17 rfl) (notFace_of_selects (args := #[]) (mvT hZ (wd 19 rfl))) (wd 19 rfl) (wd 18 rfl) (wd 3 rfl) (wd 20 rfl) (by decide) [(.int w0)] [] Y6 (isAddR l Z a0 hw b1 w0 a_NONE k_NONE ([] : List Int32) T6.heap O8 FF R10 nn0 (Nat.le_trans (Nat.le_refl 0) (Nat.le_of_ble_eq_true rfl))) rfl rfl (by rw [hml]; rfl) pd_5 rfl (hb hby at_51) (Nat.le_of_ble_eq_true rfl) (Nat.le_of_ble_eq_true rfl) (Nat.le_of_ble_eq_true rfl) (Nat.le_of_ble_eq_true rfl) ?_
  rintro vv11 T11 L11 X11 Q11
  obtain ⟨rfl, N11, B11, R11⟩ := Q11
  have M12 := Fr.app M7 N11
  have O13 := Blw.old B11 q1 O8
  have E14 := R11.2.2.1
  show Go p e below _ T11 (mkF m 54 #[.val (.int x0), .val (.int x1), .val (.int x2), .val (.int x3), .val (.int x4), .val (.int x5), .val (.int w0), .val (.int w1), .val (.int w2), .val (.int w3), .val (.int w4), .val (.int w5), .val (.ref b1), .unset, .unset, .unset, .unset, .unset, .unset, .unset, .unset, .unset, .unset, .unset, .unset, .unset, .unset, .unset, .unset] [(.int (if w0 ∈ ([] : List Int32) then 0 else 1 : Int32))])
  rw [show (if w0 ∈ ([] : List Int32) then 0 else 1 : Int32) = (1 : Int32) from by simp]
  show Go p e below _ T11 (mkF m 54 #[.val (.int x0), .val (.int x1), .val (.int x2), .val (.int x3), .val (.int x4), .val (.int x5), .val (.int w0), .val (.int w1), .val (.int w2), .val (.int w3), .val (.int w4), .val (.int w5), .val (.ref b1), .unset, .unset, .unset, .unset, .unset, .unset, .unset, .unset, .unset, .unset, .unset, .unset, .unset, .unset, .unset, .unset] [(.int (1 : Int32))])
  refine Go.istore X11 hx (hb hby at_54) rfl  #[.val (.int x0), .val (.int x1), .val (.int x2), .val (.int x3), .val (.int x4), .val (.int x5), .val (.int w0), .val (.int w1), .val (.int w2), .val (.int w3), .val (.int w4), .val (.int w5), .val (.ref b1), .val (.int (1 : Int32)), .unset, .unset, .unset, .unset, .unset, .unset, .unset, .unset, .unset, .unset, .unset, .unset, .unset, .unset, .unset] rfl ?_
  refine Go.aload X11 hx (hb hby at_56) rfl rfl rfl ?_
  refine Go.iload X11 hx (hb hby at_58) rfl rfl  ?_
  refine Go.callV X11 hx hZ hown (wd 16 rfl) (wd 17 rfl) (notFace_of_selects (args := #[]) (mvT hZ (wd 19 rfl))) (wd 19 rfl) (wd 18 rfl) (wd 3 rfl) (wd 20 rfl) (by decide) [(.int w1)] [] E14 (isAddR l Z a0 hw b1 w1 a_NONE k_NONE (addL ([] : List Int32) w0) T11.heap O13 FF R11 nn1 (Nat.le_trans (Nat.le_trans (addL_len _ _) (Nat.succ_le_succ (Nat.le_refl 0))) (Nat.le_of_ble_eq_true rfl))) rfl rfl (by rw [hml]; rfl) pd_5 rfl (hb hby at_60) (Nat.le_of_ble_eq_true rfl) (Nat.le_of_ble_eq_true rfl) (Nat.le_of_ble_eq_true rfl) (Nat.le_of_ble_eq_true rfl) ?_
  rintro vv15 T15 L15 X15 Q15
  obtain ⟨rfl, N15, B15, R15⟩ := Q15
  have M16 := Fr.app M12 N15
  have O17 := Blw.old B15 q1 O13
  have E18 := R15.2.2.1
  refine Go.istore X15 hx (hb hby at_63) rfl  #[.val (.int x0), .val (.int x1), .val (.int x2), .val (.int x3), .val (.int x4), .val (.int x5), .val (.int w0), .val (.int w1), .val (.int w2), .val (.int w3), .val (.int w4), .val (.int w5), .val (.ref b1), .val (.int (1 : Int32)), .val (.int (if w1 ∈ (addL ([] : List Int32) w0) then 0 else 1 : Int32)), .unset, .unset, .unset, .unset, .unset, .unset, .unset, .unset, .unset, .unset, .unset, .unset, .unset, .unset] rfl ?_
  refine Go.aload X15 hx (hb hby at_65) rfl rfl rfl ?_
  refine Go.iload X15 hx (hb hby at_67) rfl rfl  ?_
  refine Go.callV X15 hx hZ hown (wd 16 rfl) (wd 17 rfl) (notFace_of_selects (args := #[]) (mvT hZ (wd 19 rfl))) (wd 19 rfl) (wd 18 rfl) (wd 3 rfl) (wd 20 rfl) (by decide) [(.int w2)] [] E18 (isAddR l Z a0 hw b1 w2 a_NONE k_NONE (addL (addL ([] : List Int32) w0) w1) T15.heap O17 FF R15 nn2 (Nat.le_trans (Nat.le_trans (addL_len _ _) (Nat.succ_le_succ (Nat.le_trans (addL_len _ _) (Nat.succ_le_succ (Nat.le_refl 0))))) (Nat.le_of_ble_eq_true rfl))) rfl rfl (by rw [hml]; rfl) pd_5 rfl (hb hby at_69) (Nat.le_of_ble_eq_true rfl) (Nat.le_of_ble_eq_true rfl) (Nat.le_of_ble_eq_true rfl) (Nat.le_of_ble_eq_true rfl) ?_
  rintro vv19 T19 L19 X19 Q19
  obtain ⟨rfl, N19, B19, R19⟩ := Q19
  have M20 := Fr.app M16 N19
  have O21 := Blw.old B19 q1 O17
  have E22 := R19.2.2.1
  refine Go.istore X19 hx (hb hby at_72) rfl  #[.val (.int x0), .val (.int x1), .val (.int x2), .val (.int x3), .val (.int x4), .val (.int x5), .val (.int w0), .val (.int w1), .val (.int w2), .val (.int w3), .val (.int w4), .val (.int w5), .val (.ref b1), .val (.int (1 : Int32)), .val (.int (if w1 ∈ (addL ([] : List Int32) w0) then 0 else 1 : Int32)), .val (.int (if w2 ∈ (addL (addL ([] : List Int32) w0) w1) then 0 else 1 : Int32)), .unset, .unset, .unset, .unset, .unset, .unset, .unset, .unset, .unset, .unset, .unset, .unset, .unset] rfl ?_
  refine Go.aload X19 hx (hb hby at_74) rfl rfl rfl ?_
  refine Go.iload X19 hx (hb hby at_76) rfl rfl  ?_
  refine Go.callV X19 hx hZ hown (wd 16 rfl) (wd 17 rfl) (notFace_of_selects (args := #[]) (mvT hZ (wd 19 rfl))) (wd 19 rfl) (wd 18 rfl) (wd 3 rfl) (wd 20 rfl) (by decide) [(.int w3)] [] E22 (isAddR l Z a0 hw b1 w3 a_NONE k_NONE (addL (addL (addL ([] : List Int32) w0) w1) w2) T19.heap O21 FF R19 nn3 (Nat.le_trans (Nat.le_trans (addL_len _ _) (Nat.succ_le_succ (Nat.le_trans (addL_len _ _) (Nat.succ_le_succ (Nat.le_trans (addL_len _ _) (Nat.succ_le_succ (Nat.le_refl 0))))))) (Nat.le_of_ble_eq_true rfl))) rfl rfl (by rw [hml]; rfl) pd_5 rfl (hb hby at_78) (Nat.le_of_ble_eq_true rfl) (Nat.le_of_ble_eq_true rfl) (Nat.le_of_ble_eq_true rfl) (Nat.le_of_ble_eq_true rfl) ?_
  rintro vv23 T23 L23 X23 Q23
  obtain ⟨rfl, N23, B23, R23⟩ := Q23
  have M24 := Fr.app M20 N23
  have O25 := Blw.old B23 q1 O21
  have E26 := R23.2.2.1
  refine Go.istore X23 hx (hb hby at_81) rfl  #[.val (.int x0), .val (.int x1), .val (.int x2), .val (.int x3), .val (.int x4), .val (.int x5), .val (.int w0), .val (.int w1), .val (.int w2), .val (.int w3), .val (.int w4), .val (.int w5), .val (.ref b1), .val (.int (1 : Int32)), .val (.int (if w1 ∈ (addL ([] : List Int32) w0) then 0 else 1 : Int32)), .val (.int (if w2 ∈ (addL (addL ([] : List Int32) w0) w1) then 0 else 1 : Int32)), .val (.int (if w3 ∈ (addL (addL (addL ([] : List Int32) w0) w1) w2) then 0 else 1 : Int32)), .unset, .unset, .unset, .unset, .unset, .unset, .unset, .unset, .unset, .unset, .unset, .unset] rfl ?_
  refine Go.aload X23 hx (hb hby at_83) rfl rfl rfl ?_
  refine Go.iload X23 hx (hb hby at_85) rfl rfl  ?_
  refine Go.callV X23 hx hZ hown (wd 16 rfl) (wd 17 rfl) (notFace_of_selects (args := #[]) (mvT hZ (wd 19 rfl))) (wd 19 rfl) (wd 18 rfl) (wd 3 rfl) (wd 20 rfl) (by decide) [(.int w4)] [] E26 (isAddR l Z a0 hw b1 w4 a_NONE k_NONE (addL (addL (addL (addL ([] : List Int32) w0) w1) w2) w3) T23.heap O25 FF R23 nn4 (Nat.le_trans (Nat.le_trans (addL_len _ _) (Nat.succ_le_succ (Nat.le_trans (addL_len _ _) (Nat.succ_le_succ (Nat.le_trans (addL_len _ _) (Nat.succ_le_succ (Nat.le_trans (addL_len _ _) (Nat.succ_le_succ (Nat.le_refl 0))))))))) (Nat.le_of_ble_eq_true rfl))) rfl rfl (by rw [hml]; rfl) pd_5 rfl (hb hby at_87) (Nat.le_of_ble_eq_true rfl) (Nat.le_of_ble_eq_true rfl) (Nat.le_of_ble_eq_true rfl) (Nat.le_of_ble_eq_true rfl) ?_
  rintro vv27 T27 L27 X27 Q27
  obtain ⟨rfl, N27, B27, R27⟩ := Q27
  have M28 := Fr.app M24 N27
  have O29 := Blw.old B27 q1 O25
  have E30 := R27.2.2.1
  refine Go.istore X27 hx (hb hby at_90) rfl  #[.val (.int x0), .val (.int x1), .val (.int x2), .val (.int x3), .val (.int x4), .val (.int x5), .val (.int w0), .val (.int w1), .val (.int w2), .val (.int w3), .val (.int w4), .val (.int w5), .val (.ref b1), .val (.int (1 : Int32)), .val (.int (if w1 ∈ (addL ([] : List Int32) w0) then 0 else 1 : Int32)), .val (.int (if w2 ∈ (addL (addL ([] : List Int32) w0) w1) then 0 else 1 : Int32)), .val (.int (if w3 ∈ (addL (addL (addL ([] : List Int32) w0) w1) w2) then 0 else 1 : Int32)), .val (.int (if w4 ∈ (addL (addL (addL (addL ([] : List Int32) w0) w1) w2) w3) then 0 else 1 : Int32)), .unset, .unset, .unset, .unset, .unset, .unset, .unset, .unset, .unset, .unset, .unset] rfl ?_
  refine Go.iconst X27 hx (hb hby at_92) rfl (1 : Int32) rfl ?_
  refine Go.istore X27 hx (hb hby at_93) rfl  #[.val (.int x0), .val (.int x1), .val (.int x2), .val (.int x3), .val (.int x4), .val (.int x5), .val (.int w0), .val (.int w1), .val (.int w2), .val (.int w3), .val (.int w4), .val (.int w5), .val (.ref b1), .val (.int (1 : Int32)), .val (.int (if w1 ∈ (addL ([] : List Int32) w0) then 0 else 1 : Int32)), .val (.int (if w2 ∈ (addL (addL ([] : List Int32) w0) w1) then 0 else 1 : Int32)), .val (.int (if w3 ∈ (addL (addL (addL ([] : List Int32) w0) w1) w2) then 0 else 1 : Int32)), .val (.int (if w4 ∈ (addL (addL (addL (addL ([] : List Int32) w0) w1) w2) w3) then 0 else 1 : Int32)), .val (.int (1 : Int32)), .unset, .unset, .unset, .unset, .unset, .unset, .unset, .unset, .unset, .unset] rfl ?_
  refine Go.joinI X27 rfl ((if w1 ∈ (addL ([] : List Int32) w0) then 0 else 1 : Int32)) (fun z => mkF m 107 #[.val (.int x0), .val (.int x1), .val (.int x2), .val (.int x3), .val (.int x4), .val (.int x5), .val (.int w0), .val (.int w1), .val (.int w2), .val (.int w3), .val (.int w4), .val (.int w5), .val (.ref b1), .val (.int (1 : Int32)), .val (.int (if w1 ∈ (addL ([] : List Int32) w0) then 0 else 1 : Int32)), .val (.int (if w2 ∈ (addL (addL ([] : List Int32) w0) w1) then 0 else 1 : Int32)), .val (.int (if w3 ∈ (addL (addL (addL ([] : List Int32) w0) w1) w2) then 0 else 1 : Int32)), .val (.int (if w4 ∈ (addL (addL (addL (addL ([] : List Int32) w0) w1) w2) w3) then 0 else 1 : Int32)), .val (.int (1 : Int32)), .unset, .unset, .unset, .unset, .unset, .unset, .unset, .unset, .unset, .unset] [(.int z)]) ?_ ?_
  · intro J31
    refine Go.iload X27 hx (hb hby at_95) rfl rfl  ?_
    refine Go.iload X27 hx (hb hby at_97) rfl rfl  ?_
    by_cases hc32 : w1 = w0
    · refine Go.icmpYes X27 hx (hb hby at_99) rfl 106 (teq hc32).1 (by decide) (by decide) ?_
      refine Go.iconst X27 hx (hb hby at_106) rfl (0 : Int32) rfl ?_
      exact J31 _ _ (by rw [if_pos (by simp [mem_addL, hc32])]) X27 rfl
    · refine Go.icmpNo X27 hx (hb hby at_99) rfl (feq hc32).1 ?_
      refine Go.iconst X27 hx (hb hby at_102) rfl (1 : Int32) rfl ?_
      refine Go.goto X27 hx (hb hby at_103) rfl 107 (by decide) (by decide) ?_
      exact J31 _ _ (by rw [if_neg (by simp [mem_addL, hc32])]) X27 rfl
  intro T33 X33 e33
  show Go p e below _ T33 (mkF m 107 #[.val (.int x0), .val (.int x1), .val (.int x2), .val (.int x3), .val (.int x4), .val (.int x5), .val (.int w0), .val (.int w1), .val (.int w2), .val (.int w3), .val (.int w4), .val (.int w5), .val (.ref b1), .val (.int (1 : Int32)), .val (.int (if w1 ∈ (addL ([] : List Int32) w0) then 0 else 1 : Int32)), .val (.int (if w2 ∈ (addL (addL ([] : List Int32) w0) w1) then 0 else 1 : Int32)), .val (.int (if w3 ∈ (addL (addL (addL ([] : List Int32) w0) w1) w2) then 0 else 1 : Int32)), .val (.int (if w4 ∈ (addL (addL (addL (addL ([] : List Int32) w0) w1) w2) w3) then 0 else 1 : Int32)), .val (.int (1 : Int32)), .unset, .unset, .unset, .unset, .unset, .unset, .unset, .unset, .unset, .unset] [(.int (if w1 ∈ (addL ([] : List Int32) w0) then 0 else 1 : Int32))])
  refine Go.istore X33 hx (hb hby at_107) rfl  #[.val (.int x0), .val (.int x1), .val (.int x2), .val (.int x3), .val (.int x4), .val (.int x5), .val (.int w0), .val (.int w1), .val (.int w2), .val (.int w3), .val (.int w4), .val (.int w5), .val (.ref b1), .val (.int (1 : Int32)), .val (.int (if w1 ∈ (addL ([] : List Int32) w0) then 0 else 1 : Int32)), .val (.int (if w2 ∈ (addL (addL ([] : List Int32) w0) w1) then 0 else 1 : Int32)), .val (.int (if w3 ∈ (addL (addL (addL ([] : List Int32) w0) w1) w2) then 0 else 1 : Int32)), .val (.int (if w4 ∈ (addL (addL (addL (addL ([] : List Int32) w0) w1) w2) w3) then 0 else 1 : Int32)), .val (.int (1 : Int32)), .val (.int (if w1 ∈ (addL ([] : List Int32) w0) then 0 else 1 : Int32)), .unset, .unset, .unset, .unset, .unset, .unset, .unset, .unset, .unset] rfl ?_
  refine Go.joinI X33 e33 ((if w2 ∈ (addL (addL ([] : List Int32) w0) w1) then 0 else 1 : Int32)) (fun z => mkF m 128 #[.val (.int x0), .val (.int x1), .val (.int x2), .val (.int x3), .val (.int x4), .val (.int x5), .val (.int w0), .val (.int w1), .val (.int w2), .val (.int w3), .val (.int w4), .val (.int w5), .val (.ref b1), .val (.int (1 : Int32)), .val (.int (if w1 ∈ (addL ([] : List Int32) w0) then 0 else 1 : Int32)), .val (.int (if w2 ∈ (addL (addL ([] : List Int32) w0) w1) then 0 else 1 : Int32)), .val (.int (if w3 ∈ (addL (addL (addL ([] : List Int32) w0) w1) w2) then 0 else 1 : Int32)), .val (.int (if w4 ∈ (addL (addL (addL (addL ([] : List Int32) w0) w1) w2) w3) then 0 else 1 : Int32)), .val (.int (1 : Int32)), .val (.int (if w1 ∈ (addL ([] : List Int32) w0) then 0 else 1 : Int32)), .unset, .unset, .unset, .unset, .unset, .unset, .unset, .unset, .unset] [(.int z)]) ?_ ?_
  · intro J34
    refine Go.iload X33 hx (hb hby at_109) rfl rfl  ?_
    refine Go.iload X33 hx (hb hby at_111) rfl rfl  ?_
    by_cases hc35 : w2 = w0
    · refine Go.icmpYes X33 hx (hb hby at_113) rfl 127 (teq hc35).1 (by decide) (by decide) ?_
      refine Go.iconst X33 hx (hb hby at_127) rfl (0 : Int32) rfl ?_
      exact J34 _ _ (by rw [if_pos (by simp [mem_addL, hc35])]) X33 e33
    · refine Go.icmpNo X33 hx (hb hby at_113) rfl (feq hc35).1 ?_
      refine Go.iload X33 hx (hb hby at_116) rfl rfl  ?_
      refine Go.iload X33 hx (hb hby at_118) rfl rfl  ?_
      by_cases hc36 : w2 = w1
      · refine Go.icmpYes X33 hx (hb hby at_120) rfl 127 (teq hc36).1 (by decide) (by decide) ?_
        refine Go.iconst X33 hx (hb hby at_127) rfl (0 : Int32) rfl ?_
        exact J34 _ _ (by rw [if_pos (by simp [mem_addL, hc35, hc36])]) X33 e33
      · refine Go.icmpNo X33 hx (hb hby at_120) rfl (feq hc36).1 ?_
        refine Go.iconst X33 hx (hb hby at_123) rfl (1 : Int32) rfl ?_
        refine Go.goto X33 hx (hb hby at_124) rfl 128 (by decide) (by decide) ?_
        exact J34 _ _ (by rw [if_neg (by simp [mem_addL, hc35, hc36])]) X33 e33
  intro T37 X37 e37
  show Go p e below _ T37 (mkF m 128 #[.val (.int x0), .val (.int x1), .val (.int x2), .val (.int x3), .val (.int x4), .val (.int x5), .val (.int w0), .val (.int w1), .val (.int w2), .val (.int w3), .val (.int w4), .val (.int w5), .val (.ref b1), .val (.int (1 : Int32)), .val (.int (if w1 ∈ (addL ([] : List Int32) w0) then 0 else 1 : Int32)), .val (.int (if w2 ∈ (addL (addL ([] : List Int32) w0) w1) then 0 else 1 : Int32)), .val (.int (if w3 ∈ (addL (addL (addL ([] : List Int32) w0) w1) w2) then 0 else 1 : Int32)), .val (.int (if w4 ∈ (addL (addL (addL (addL ([] : List Int32) w0) w1) w2) w3) then 0 else 1 : Int32)), .val (.int (1 : Int32)), .val (.int (if w1 ∈ (addL ([] : List Int32) w0) then 0 else 1 : Int32)), .unset, .unset, .unset, .unset, .unset, .unset, .unset, .unset, .unset] [(.int (if w2 ∈ (addL (addL ([] : List Int32) w0) w1) then 0 else 1 : Int32))])
  refine Go.istore X37 hx (hb hby at_128) rfl  #[.val (.int x0), .val (.int x1), .val (.int x2), .val (.int x3), .val (.int x4), .val (.int x5), .val (.int w0), .val (.int w1), .val (.int w2), .val (.int w3), .val (.int w4), .val (.int w5), .val (.ref b1), .val (.int (1 : Int32)), .val (.int (if w1 ∈ (addL ([] : List Int32) w0) then 0 else 1 : Int32)), .val (.int (if w2 ∈ (addL (addL ([] : List Int32) w0) w1) then 0 else 1 : Int32)), .val (.int (if w3 ∈ (addL (addL (addL ([] : List Int32) w0) w1) w2) then 0 else 1 : Int32)), .val (.int (if w4 ∈ (addL (addL (addL (addL ([] : List Int32) w0) w1) w2) w3) then 0 else 1 : Int32)), .val (.int (1 : Int32)), .val (.int (if w1 ∈ (addL ([] : List Int32) w0) then 0 else 1 : Int32)), .val (.int (if w2 ∈ (addL (addL ([] : List Int32) w0) w1) then 0 else 1 : Int32)), .unset, .unset, .unset, .unset, .unset, .unset, .unset, .unset] rfl ?_
  refine Go.joinI X37 e37 ((if w3 ∈ (addL (addL (addL ([] : List Int32) w0) w1) w2) then 0 else 1 : Int32)) (fun z => mkF m 156 #[.val (.int x0), .val (.int x1), .val (.int x2), .val (.int x3), .val (.int x4), .val (.int x5), .val (.int w0), .val (.int w1), .val (.int w2), .val (.int w3), .val (.int w4), .val (.int w5), .val (.ref b1), .val (.int (1 : Int32)), .val (.int (if w1 ∈ (addL ([] : List Int32) w0) then 0 else 1 : Int32)), .val (.int (if w2 ∈ (addL (addL ([] : List Int32) w0) w1) then 0 else 1 : Int32)), .val (.int (if w3 ∈ (addL (addL (addL ([] : List Int32) w0) w1) w2) then 0 else 1 : Int32)), .val (.int (if w4 ∈ (addL (addL (addL (addL ([] : List Int32) w0) w1) w2) w3) then 0 else 1 : Int32)), .val (.int (1 : Int32)), .val (.int (if w1 ∈ (addL ([] : List Int32) w0) then 0 else 1 : Int32)), .val (.int (if w2 ∈ (addL (addL ([] : List Int32) w0) w1) then 0 else 1 : Int32)), .unset, .unset, .unset, .unset, .unset, .unset, .unset, .unset] [(.int z)]) ?_ ?_
  · intro J38
    refine Go.iload X37 hx (hb hby at_130) rfl rfl  ?_
    refine Go.iload X37 hx (hb hby at_132) rfl rfl  ?_
    by_cases hc39 : w3 = w0
    · refine Go.icmpYes X37 hx (hb hby at_134) rfl 155 (teq hc39).1 (by decide) (by decide) ?_
      refine Go.iconst X37 hx (hb hby at_155) rfl (0 : Int32) rfl ?_
      exact J38 _ _ (by rw [if_pos (by simp [mem_addL, hc39])]) X37 e37
    · refine Go.icmpNo X37 hx (hb hby at_134) rfl (feq hc39).1 ?_
      refine Go.iload X37 hx (hb hby at_137) rfl rfl  ?_
      refine Go.iload X37 hx (hb hby at_139) rfl rfl  ?_
      by_cases hc40 : w3 = w1
      · refine Go.icmpYes X37 hx (hb hby at_141) rfl 155 (teq hc40).1 (by decide) (by decide) ?_
        refine Go.iconst X37 hx (hb hby at_155) rfl (0 : Int32) rfl ?_
        exact J38 _ _ (by rw [if_pos (by simp [mem_addL, hc39, hc40])]) X37 e37
      · refine Go.icmpNo X37 hx (hb hby at_141) rfl (feq hc40).1 ?_
        refine Go.iload X37 hx (hb hby at_144) rfl rfl  ?_
        refine Go.iload X37 hx (hb hby at_146) rfl rfl  ?_
        by_cases hc41 : w3 = w2
        · refine Go.icmpYes X37 hx (hb hby at_148) rfl 155 (teq hc41).1 (by decide) (by decide) ?_
          refine Go.iconst X37 hx (hb hby at_155) rfl (0 : Int32) rfl ?_
          exact J38 _ _ (by rw [if_pos (by simp [mem_addL, hc39, hc40, hc41])]) X37 e37
        · refine Go.icmpNo X37 hx (hb hby at_148) rfl (feq hc41).1 ?_
          refine Go.iconst X37 hx (hb hby at_151) rfl (1 : Int32) rfl ?_
          refine Go.goto X37 hx (hb hby at_152) rfl 156 (by decide) (by decide) ?_
          exact J38 _ _ (by rw [if_neg (by simp [mem_addL, hc39, hc40, hc41])]) X37 e37
  intro T42 X42 e42
  show Go p e below _ T42 (mkF m 156 #[.val (.int x0), .val (.int x1), .val (.int x2), .val (.int x3), .val (.int x4), .val (.int x5), .val (.int w0), .val (.int w1), .val (.int w2), .val (.int w3), .val (.int w4), .val (.int w5), .val (.ref b1), .val (.int (1 : Int32)), .val (.int (if w1 ∈ (addL ([] : List Int32) w0) then 0 else 1 : Int32)), .val (.int (if w2 ∈ (addL (addL ([] : List Int32) w0) w1) then 0 else 1 : Int32)), .val (.int (if w3 ∈ (addL (addL (addL ([] : List Int32) w0) w1) w2) then 0 else 1 : Int32)), .val (.int (if w4 ∈ (addL (addL (addL (addL ([] : List Int32) w0) w1) w2) w3) then 0 else 1 : Int32)), .val (.int (1 : Int32)), .val (.int (if w1 ∈ (addL ([] : List Int32) w0) then 0 else 1 : Int32)), .val (.int (if w2 ∈ (addL (addL ([] : List Int32) w0) w1) then 0 else 1 : Int32)), .unset, .unset, .unset, .unset, .unset, .unset, .unset, .unset] [(.int (if w3 ∈ (addL (addL (addL ([] : List Int32) w0) w1) w2) then 0 else 1 : Int32))])
  refine Go.istore X42 hx (hb hby at_156) rfl  #[.val (.int x0), .val (.int x1), .val (.int x2), .val (.int x3), .val (.int x4), .val (.int x5), .val (.int w0), .val (.int w1), .val (.int w2), .val (.int w3), .val (.int w4), .val (.int w5), .val (.ref b1), .val (.int (1 : Int32)), .val (.int (if w1 ∈ (addL ([] : List Int32) w0) then 0 else 1 : Int32)), .val (.int (if w2 ∈ (addL (addL ([] : List Int32) w0) w1) then 0 else 1 : Int32)), .val (.int (if w3 ∈ (addL (addL (addL ([] : List Int32) w0) w1) w2) then 0 else 1 : Int32)), .val (.int (if w4 ∈ (addL (addL (addL (addL ([] : List Int32) w0) w1) w2) w3) then 0 else 1 : Int32)), .val (.int (1 : Int32)), .val (.int (if w1 ∈ (addL ([] : List Int32) w0) then 0 else 1 : Int32)), .val (.int (if w2 ∈ (addL (addL ([] : List Int32) w0) w1) then 0 else 1 : Int32)), .val (.int (if w3 ∈ (addL (addL (addL ([] : List Int32) w0) w1) w2) then 0 else 1 : Int32)), .unset, .unset, .unset, .unset, .unset, .unset, .unset] rfl ?_
  refine Go.joinI X42 e42 ((if w4 ∈ (addL (addL (addL (addL ([] : List Int32) w0) w1) w2) w3) then 0 else 1 : Int32)) (fun z => mkF m 191 #[.val (.int x0), .val (.int x1), .val (.int x2), .val (.int x3), .val (.int x4), .val (.int x5), .val (.int w0), .val (.int w1), .val (.int w2), .val (.int w3), .val (.int w4), .val (.int w5), .val (.ref b1), .val (.int (1 : Int32)), .val (.int (if w1 ∈ (addL ([] : List Int32) w0) then 0 else 1 : Int32)), .val (.int (if w2 ∈ (addL (addL ([] : List Int32) w0) w1) then 0 else 1 : Int32)), .val (.int (if w3 ∈ (addL (addL (addL ([] : List Int32) w0) w1) w2) then 0 else 1 : Int32)), .val (.int (if w4 ∈ (addL (addL (addL (addL ([] : List Int32) w0) w1) w2) w3) then 0 else 1 : Int32)), .val (.int (1 : Int32)), .val (.int (if w1 ∈ (addL ([] : List Int32) w0) then 0 else 1 : Int32)), .val (.int (if w2 ∈ (addL (addL ([] : List Int32) w0) w1) then 0 else 1 : Int32)), .val (.int (if w3 ∈ (addL (addL (addL ([] : List Int32) w0) w1) w2) then 0 else 1 : Int32)), .unset, .unset, .unset, .unset, .unset, .unset, .unset] [(.int z)]) ?_ ?_
  · intro J43
    refine Go.iload X42 hx (hb hby at_158) rfl rfl  ?_
    refine Go.iload X42 hx (hb hby at_160) rfl rfl  ?_
    by_cases hc44 : w4 = w0
    · refine Go.icmpYes X42 hx (hb hby at_162) rfl 190 (teq hc44).1 (by decide) (by decide) ?_
      refine Go.iconst X42 hx (hb hby at_190) rfl (0 : Int32) rfl ?_
      exact J43 _ _ (by rw [if_pos (by simp [mem_addL, hc44])]) X42 e42
    · refine Go.icmpNo X42 hx (hb hby at_162) rfl (feq hc44).1 ?_
      refine Go.iload X42 hx (hb hby at_165) rfl rfl  ?_
      refine Go.iload X42 hx (hb hby at_167) rfl rfl  ?_
      by_cases hc45 : w4 = w1
      · refine Go.icmpYes X42 hx (hb hby at_169) rfl 190 (teq hc45).1 (by decide) (by decide) ?_
        refine Go.iconst X42 hx (hb hby at_190) rfl (0 : Int32) rfl ?_
        exact J43 _ _ (by rw [if_pos (by simp [mem_addL, hc44, hc45])]) X42 e42
      · refine Go.icmpNo X42 hx (hb hby at_169) rfl (feq hc45).1 ?_
        refine Go.iload X42 hx (hb hby at_172) rfl rfl  ?_
        refine Go.iload X42 hx (hb hby at_174) rfl rfl  ?_
        by_cases hc46 : w4 = w2
        · refine Go.icmpYes X42 hx (hb hby at_176) rfl 190 (teq hc46).1 (by decide) (by decide) ?_
          refine Go.iconst X42 hx (hb hby at_190) rfl (0 : Int32) rfl ?_
          exact J43 _ _ (by rw [if_pos (by simp [mem_addL, hc44, hc45, hc46])]) X42 e42
        · refine Go.icmpNo X42 hx (hb hby at_176) rfl (feq hc46).1 ?_
          refine Go.iload X42 hx (hb hby at_179) rfl rfl  ?_
          refine Go.iload X42 hx (hb hby at_181) rfl rfl  ?_
          by_cases hc47 : w4 = w3
          · refine Go.icmpYes X42 hx (hb hby at_183) rfl 190 (teq hc47).1 (by decide) (by decide) ?_
            refine Go.iconst X42 hx (hb hby at_190) rfl (0 : Int32) rfl ?_
            exact J43 _ _ (by rw [if_pos (by simp [mem_addL, hc44, hc45, hc46, hc47])]) X42 e42
          · refine Go.icmpNo X42 hx (hb hby at_183) rfl (feq hc47).1 ?_
            refine Go.iconst X42 hx (hb hby at_186) rfl (1 : Int32) rfl ?_
            refine Go.goto X42 hx (hb hby at_187) rfl 191 (by decide) (by decide) ?_
            exact J43 _ _ (by rw [if_neg (by simp [mem_addL, hc44, hc45, hc46, hc47])]) X42 e42
  intro T48 X48 e48
  show Go p e below _ T48 (mkF m 191 #[.val (.int x0), .val (.int x1), .val (.int x2), .val (.int x3), .val (.int x4), .val (.int x5), .val (.int w0), .val (.int w1), .val (.int w2), .val (.int w3), .val (.int w4), .val (.int w5), .val (.ref b1), .val (.int (1 : Int32)), .val (.int (if w1 ∈ (addL ([] : List Int32) w0) then 0 else 1 : Int32)), .val (.int (if w2 ∈ (addL (addL ([] : List Int32) w0) w1) then 0 else 1 : Int32)), .val (.int (if w3 ∈ (addL (addL (addL ([] : List Int32) w0) w1) w2) then 0 else 1 : Int32)), .val (.int (if w4 ∈ (addL (addL (addL (addL ([] : List Int32) w0) w1) w2) w3) then 0 else 1 : Int32)), .val (.int (1 : Int32)), .val (.int (if w1 ∈ (addL ([] : List Int32) w0) then 0 else 1 : Int32)), .val (.int (if w2 ∈ (addL (addL ([] : List Int32) w0) w1) then 0 else 1 : Int32)), .val (.int (if w3 ∈ (addL (addL (addL ([] : List Int32) w0) w1) w2) then 0 else 1 : Int32)), .unset, .unset, .unset, .unset, .unset, .unset, .unset] [(.int (if w4 ∈ (addL (addL (addL (addL ([] : List Int32) w0) w1) w2) w3) then 0 else 1 : Int32))])
  refine Go.istore X48 hx (hb hby at_191) rfl  #[.val (.int x0), .val (.int x1), .val (.int x2), .val (.int x3), .val (.int x4), .val (.int x5), .val (.int w0), .val (.int w1), .val (.int w2), .val (.int w3), .val (.int w4), .val (.int w5), .val (.ref b1), .val (.int (1 : Int32)), .val (.int (if w1 ∈ (addL ([] : List Int32) w0) then 0 else 1 : Int32)), .val (.int (if w2 ∈ (addL (addL ([] : List Int32) w0) w1) then 0 else 1 : Int32)), .val (.int (if w3 ∈ (addL (addL (addL ([] : List Int32) w0) w1) w2) then 0 else 1 : Int32)), .val (.int (if w4 ∈ (addL (addL (addL (addL ([] : List Int32) w0) w1) w2) w3) then 0 else 1 : Int32)), .val (.int (1 : Int32)), .val (.int (if w1 ∈ (addL ([] : List Int32) w0) then 0 else 1 : Int32)), .val (.int (if w2 ∈ (addL (addL ([] : List Int32) w0) w1) then 0 else 1 : Int32)), .val (.int (if w3 ∈ (addL (addL (addL ([] : List Int32) w0) w1) w2) then 0 else 1 : Int32)), .val (.int (if w4 ∈ (addL (addL (addL (addL ([] : List Int32) w0) w1) w2) w3) then 0 else 1 : Int32)), .unset, .unset, .unset, .unset, .unset, .unset] rfl ?_
  refine Go.iload X48 hx (hb hby at_193) rfl rfl  ?_
  refine Go.iload X48 hx (hb hby at_195) rfl rfl  ?_
  refine Go.icmpNo X48 hx (hb hby at_197) rfl (teq (by decide : (1 : Int32) = (1 : Int32))).2 ?_
  refine Go.iload X48 hx (hb hby at_200) rfl rfl  ?_
  refine Go.iload X48 hx (hb hby at_202) rfl rfl  ?_
  refine Go.icmpNo X48 hx (hb hby at_204) rfl (teq (rfl : (if w1 ∈ (addL ([] : List Int32) w0) then 0 else 1 : Int32) = (if w1 ∈ (addL ([] : List Int32) w0) then 0 else 1 : Int32))).2 ?_
  refine Go.iload X48 hx (hb hby at_207) rfl rfl  ?_
  refine Go.iload X48 hx (hb hby at_209) rfl rfl  ?_
  refine Go.icmpNo X48 hx (hb hby at_211) rfl (teq (rfl : (if w2 ∈ (addL (addL ([] : List Int32) w0) w1) then 0 else 1 : Int32) = (if w2 ∈ (addL (addL ([] : List Int32) w0) w1) then 0 else 1 : Int32))).2 ?_
  refine Go.iload X48 hx (hb hby at_214) rfl rfl  ?_
  refine Go.iload X48 hx (hb hby at_216) rfl rfl  ?_
  refine Go.icmpNo X48 hx (hb hby at_218) rfl (teq (rfl : (if w3 ∈ (addL (addL (addL ([] : List Int32) w0) w1) w2) then 0 else 1 : Int32) = (if w3 ∈ (addL (addL (addL ([] : List Int32) w0) w1) w2) then 0 else 1 : Int32))).2 ?_
  refine Go.iload X48 hx (hb hby at_221) rfl rfl  ?_
  refine Go.iload X48 hx (hb hby at_223) rfl rfl  ?_
  refine Go.icmpYes X48 hx (hb hby at_225) rfl 230 (teq (rfl : (if w4 ∈ (addL (addL (addL (addL ([] : List Int32) w0) w1) w2) w3) then 0 else 1 : Int32) = (if w4 ∈ (addL (addL (addL (addL ([] : List Int32) w0) w1) w2) w3) then 0 else 1 : Int32))).1 (by decide) (by decide) ?_
  refine Go.iconst X48 hx (hb hby at_230) rfl (0 : Int32) rfl ?_
  refine Go.istore X48 hx (hb hby at_231) rfl  #[.val (.int x0), .val (.int x1), .val (.int x2), .val (.int x3), .val (.int x4), .val (.int x5), .val (.int w0), .val (.int w1), .val (.int w2), .val (.int w3), .val (.int w4), .val (.int w5), .val (.ref b1), .val (.int (1 : Int32)), .val (.int (if w1 ∈ (addL ([] : List Int32) w0) then 0 else 1 : Int32)), .val (.int (if w2 ∈ (addL (addL ([] : List Int32) w0) w1) then 0 else 1 : Int32)), .val (.int (if w3 ∈ (addL (addL (addL ([] : List Int32) w0) w1) w2) then 0 else 1 : Int32)), .val (.int (if w4 ∈ (addL (addL (addL (addL ([] : List Int32) w0) w1) w2) w3) then 0 else 1 : Int32)), .val (.int (1 : Int32)), .val (.int (if w1 ∈ (addL ([] : List Int32) w0) then 0 else 1 : Int32)), .val (.int (if w2 ∈ (addL (addL ([] : List Int32) w0) w1) then 0 else 1 : Int32)), .val (.int (if w3 ∈ (addL (addL (addL ([] : List Int32) w0) w1) w2) then 0 else 1 : Int32)), .val (.int (if w4 ∈ (addL (addL (addL (addL ([] : List Int32) w0) w1) w2) w3) then 0 else 1 : Int32)), .val (.int (0 : Int32)), .unset, .unset, .unset, .unset, .unset] rfl ?_
  refine Go.iload X48 hx (hb hby at_233) rfl rfl  ?_
  refine Go.iload X48 hx (hb hby at_235) rfl rfl  ?_
  refine Go.ifNo X48 hx (hb hby at_237) rfl ((if0 _ _).trans (feq (by decide : ¬ ((1 : Int32) = (0 : Int32)))).1) ?_
  refine Go.iconst X48 hx (hb hby at_240) rfl (1 : Int32) rfl ?_
  refine Go.goto X48 hx (hb hby at_241) rfl 245 (by decide) (by decide) ?_
  refine Go.iadd X48 hx (hb hby at_245) rfl ?_
  show Go p e below _ T48 (mkF m 246 #[.val (.int x0), .val (.int x1), .val (.int x2), .val (.int x3), .val (.int x4), .val (.int x5), .val (.int w0), .val (.int w1), .val (.int w2), .val (.int w3), .val (.int w4), .val (.int w5), .val (.ref b1), .val (.int (1 : Int32)), .val (.int (if w1 ∈ (addL ([] : List Int32) w0) then 0 else 1 : Int32)), .val (.int (if w2 ∈ (addL (addL ([] : List Int32) w0) w1) then 0 else 1 : Int32)), .val (.int (if w3 ∈ (addL (addL (addL ([] : List Int32) w0) w1) w2) then 0 else 1 : Int32)), .val (.int (if w4 ∈ (addL (addL (addL (addL ([] : List Int32) w0) w1) w2) w3) then 0 else 1 : Int32)), .val (.int (1 : Int32)), .val (.int (if w1 ∈ (addL ([] : List Int32) w0) then 0 else 1 : Int32)), .val (.int (if w2 ∈ (addL (addL ([] : List Int32) w0) w1) then 0 else 1 : Int32)), .val (.int (if w3 ∈ (addL (addL (addL ([] : List Int32) w0) w1) w2) then 0 else 1 : Int32)), .val (.int (if w4 ∈ (addL (addL (addL (addL ([] : List Int32) w0) w1) w2) w3) then 0 else 1 : Int32)), .val (.int (0 : Int32)), .unset, .unset, .unset, .unset, .unset] [(.int ((0 : Int32) + (1 : Int32)))])
  rw [show ((0 : Int32) + (1 : Int32)) = (1 : Int32) from by decide]
  refine Go.istore X48 hx (hb hby at_246) rfl  #[.val (.int x0), .val (.int x1), .val (.int x2), .val (.int x3), .val (.int x4), .val (.int x5), .val (.int w0), .val (.int w1), .val (.int w2), .val (.int w3), .val (.int w4), .val (.int w5), .val (.ref b1), .val (.int (1 : Int32)), .val (.int (if w1 ∈ (addL ([] : List Int32) w0) then 0 else 1 : Int32)), .val (.int (if w2 ∈ (addL (addL ([] : List Int32) w0) w1) then 0 else 1 : Int32)), .val (.int (if w3 ∈ (addL (addL (addL ([] : List Int32) w0) w1) w2) then 0 else 1 : Int32)), .val (.int (if w4 ∈ (addL (addL (addL (addL ([] : List Int32) w0) w1) w2) w3) then 0 else 1 : Int32)), .val (.int (1 : Int32)), .val (.int (if w1 ∈ (addL ([] : List Int32) w0) then 0 else 1 : Int32)), .val (.int (if w2 ∈ (addL (addL ([] : List Int32) w0) w1) then 0 else 1 : Int32)), .val (.int (if w3 ∈ (addL (addL (addL ([] : List Int32) w0) w1) w2) then 0 else 1 : Int32)), .val (.int (if w4 ∈ (addL (addL (addL (addL ([] : List Int32) w0) w1) w2) w3) then 0 else 1 : Int32)), .val (.int (0 : Int32)), .val (.int (1 : Int32)), .unset, .unset, .unset, .unset] rfl ?_
  refine Go.iload X48 hx (hb hby at_248) rfl rfl  ?_
  refine Go.iload X48 hx (hb hby at_250) rfl rfl  ?_
  refine Go.joinI X48 e48 ((if w1 ∈ (addL ([] : List Int32) w0) then 0 else 1 : Int32)) (fun z => mkF m 260 #[.val (.int x0), .val (.int x1), .val (.int x2), .val (.int x3), .val (.int x4), .val (.int x5), .val (.int w0), .val (.int w1), .val (.int w2), .val (.int w3), .val (.int w4), .val (.int w5), .val (.ref b1), .val (.int (1 : Int32)), .val (.int (if w1 ∈ (addL ([] : List Int32) w0) then 0 else 1 : Int32)), .val (.int (if w2 ∈ (addL (addL ([] : List Int32) w0) w1) then 0 else 1 : Int32)), .val (.int (if w3 ∈ (addL (addL (addL ([] : List Int32) w0) w1) w2) then 0 else 1 : Int32)), .val (.int (if w4 ∈ (addL (addL (addL (addL ([] : List Int32) w0) w1) w2) w3) then 0 else 1 : Int32)), .val (.int (1 : Int32)), .val (.int (if w1 ∈ (addL ([] : List Int32) w0) then 0 else 1 : Int32)), .val (.int (if w2 ∈ (addL (addL ([] : List Int32) w0) w1) then 0 else 1 : Int32)), .val (.int (if w3 ∈ (addL (addL (addL ([] : List Int32) w0) w1) w2) then 0 else 1 : Int32)), .val (.int (if w4 ∈ (addL (addL (addL (addL ([] : List Int32) w0) w1) w2) w3) then 0 else 1 : Int32)), .val (.int (0 : Int32)), .val (.int (1 : Int32)), .unset, .unset, .unset, .unset] [(.int z), (.int (1 : Int32))]) ?_ ?_
  · intro J49
    by_cases hc50 : (if w1 ∈ (addL ([] : List Int32) w0) then 0 else 1 : Int32) = (0 : Int32)
    · refine Go.ifYes X48 hx (hb hby at_252) rfl 259 ((if0 _ _).trans (teq hc50).1) (by decide) (by decide) ?_
      refine Go.iconst X48 hx (hb hby at_259) rfl (0 : Int32) rfl ?_
      exact J49 _ _ hc50.symm X48 e48
    · refine Go.ifNo X48 hx (hb hby at_252) rfl ((if0 _ _).trans (feq hc50).1) ?_
      refine Go.iconst X48 hx (hb hby at_255) rfl (1 : Int32) rfl ?_
      refine Go.goto X48 hx (hb hby at_256) rfl 260 (by decide) (by decide) ?_
      exact J49 _ _ (own_r1 hc50) X48 e48
  intro T51 X51 e51
  show Go p e below _ T51 (mkF m 260 #[.val (.int x0), .val (.int x1), .val (.int x2), .val (.int x3), .val (.int x4), .val (.int x5), .val (.int w0), .val (.int w1), .val (.int w2), .val (.int w3), .val (.int w4), .val (.int w5), .val (.ref b1), .val (.int (1 : Int32)), .val (.int (if w1 ∈ (addL ([] : List Int32) w0) then 0 else 1 : Int32)), .val (.int (if w2 ∈ (addL (addL ([] : List Int32) w0) w1) then 0 else 1 : Int32)), .val (.int (if w3 ∈ (addL (addL (addL ([] : List Int32) w0) w1) w2) then 0 else 1 : Int32)), .val (.int (if w4 ∈ (addL (addL (addL (addL ([] : List Int32) w0) w1) w2) w3) then 0 else 1 : Int32)), .val (.int (1 : Int32)), .val (.int (if w1 ∈ (addL ([] : List Int32) w0) then 0 else 1 : Int32)), .val (.int (if w2 ∈ (addL (addL ([] : List Int32) w0) w1) then 0 else 1 : Int32)), .val (.int (if w3 ∈ (addL (addL (addL ([] : List Int32) w0) w1) w2) then 0 else 1 : Int32)), .val (.int (if w4 ∈ (addL (addL (addL (addL ([] : List Int32) w0) w1) w2) w3) then 0 else 1 : Int32)), .val (.int (0 : Int32)), .val (.int (1 : Int32)), .unset, .unset, .unset, .unset] [(.int (if w1 ∈ (addL ([] : List Int32) w0) then 0 else 1 : Int32)), (.int (1 : Int32))])
  refine Go.iadd X51 hx (hb hby at_260) rfl ?_
  show Go p e below _ T51 (mkF m 261 #[.val (.int x0), .val (.int x1), .val (.int x2), .val (.int x3), .val (.int x4), .val (.int x5), .val (.int w0), .val (.int w1), .val (.int w2), .val (.int w3), .val (.int w4), .val (.int w5), .val (.ref b1), .val (.int (1 : Int32)), .val (.int (if w1 ∈ (addL ([] : List Int32) w0) then 0 else 1 : Int32)), .val (.int (if w2 ∈ (addL (addL ([] : List Int32) w0) w1) then 0 else 1 : Int32)), .val (.int (if w3 ∈ (addL (addL (addL ([] : List Int32) w0) w1) w2) then 0 else 1 : Int32)), .val (.int (if w4 ∈ (addL (addL (addL (addL ([] : List Int32) w0) w1) w2) w3) then 0 else 1 : Int32)), .val (.int (1 : Int32)), .val (.int (if w1 ∈ (addL ([] : List Int32) w0) then 0 else 1 : Int32)), .val (.int (if w2 ∈ (addL (addL ([] : List Int32) w0) w1) then 0 else 1 : Int32)), .val (.int (if w3 ∈ (addL (addL (addL ([] : List Int32) w0) w1) w2) then 0 else 1 : Int32)), .val (.int (if w4 ∈ (addL (addL (addL (addL ([] : List Int32) w0) w1) w2) w3) then 0 else 1 : Int32)), .val (.int (0 : Int32)), .val (.int (1 : Int32)), .unset, .unset, .unset, .unset] [(.int ((1 : Int32) + (if w1 ∈ (addL ([] : List Int32) w0) then 0 else 1 : Int32)))])
  rw [len1_addL w0 w1]
  show Go p e below _ T51 (mkF m 261 #[.val (.int x0), .val (.int x1), .val (.int x2), .val (.int x3), .val (.int x4), .val (.int x5), .val (.int w0), .val (.int w1), .val (.int w2), .val (.int w3), .val (.int w4), .val (.int w5), .val (.ref b1), .val (.int (1 : Int32)), .val (.int (if w1 ∈ (addL ([] : List Int32) w0) then 0 else 1 : Int32)), .val (.int (if w2 ∈ (addL (addL ([] : List Int32) w0) w1) then 0 else 1 : Int32)), .val (.int (if w3 ∈ (addL (addL (addL ([] : List Int32) w0) w1) w2) then 0 else 1 : Int32)), .val (.int (if w4 ∈ (addL (addL (addL (addL ([] : List Int32) w0) w1) w2) w3) then 0 else 1 : Int32)), .val (.int (1 : Int32)), .val (.int (if w1 ∈ (addL ([] : List Int32) w0) then 0 else 1 : Int32)), .val (.int (if w2 ∈ (addL (addL ([] : List Int32) w0) w1) then 0 else 1 : Int32)), .val (.int (if w3 ∈ (addL (addL (addL ([] : List Int32) w0) w1) w2) then 0 else 1 : Int32)), .val (.int (if w4 ∈ (addL (addL (addL (addL ([] : List Int32) w0) w1) w2) w3) then 0 else 1 : Int32)), .val (.int (0 : Int32)), .val (.int (1 : Int32)), .unset, .unset, .unset, .unset] [(.int (Int32.ofNat (addL (addL ([] : List Int32) w0) w1).length))])
  refine Go.istore X51 hx (hb hby at_261) rfl  #[.val (.int x0), .val (.int x1), .val (.int x2), .val (.int x3), .val (.int x4), .val (.int x5), .val (.int w0), .val (.int w1), .val (.int w2), .val (.int w3), .val (.int w4), .val (.int w5), .val (.ref b1), .val (.int (1 : Int32)), .val (.int (if w1 ∈ (addL ([] : List Int32) w0) then 0 else 1 : Int32)), .val (.int (if w2 ∈ (addL (addL ([] : List Int32) w0) w1) then 0 else 1 : Int32)), .val (.int (if w3 ∈ (addL (addL (addL ([] : List Int32) w0) w1) w2) then 0 else 1 : Int32)), .val (.int (if w4 ∈ (addL (addL (addL (addL ([] : List Int32) w0) w1) w2) w3) then 0 else 1 : Int32)), .val (.int (1 : Int32)), .val (.int (if w1 ∈ (addL ([] : List Int32) w0) then 0 else 1 : Int32)), .val (.int (if w2 ∈ (addL (addL ([] : List Int32) w0) w1) then 0 else 1 : Int32)), .val (.int (if w3 ∈ (addL (addL (addL ([] : List Int32) w0) w1) w2) then 0 else 1 : Int32)), .val (.int (if w4 ∈ (addL (addL (addL (addL ([] : List Int32) w0) w1) w2) w3) then 0 else 1 : Int32)), .val (.int (0 : Int32)), .val (.int (1 : Int32)), .val (.int (Int32.ofNat (addL (addL ([] : List Int32) w0) w1).length)), .unset, .unset, .unset] rfl ?_
  refine Go.iload X51 hx (hb hby at_263) rfl rfl  ?_
  refine Go.iload X51 hx (hb hby at_265) rfl rfl  ?_
  refine Go.joinI X51 e51 ((if w2 ∈ (addL (addL ([] : List Int32) w0) w1) then 0 else 1 : Int32)) (fun z => mkF m 275 #[.val (.int x0), .val (.int x1), .val (.int x2), .val (.int x3), .val (.int x4), .val (.int x5), .val (.int w0), .val (.int w1), .val (.int w2), .val (.int w3), .val (.int w4), .val (.int w5), .val (.ref b1), .val (.int (1 : Int32)), .val (.int (if w1 ∈ (addL ([] : List Int32) w0) then 0 else 1 : Int32)), .val (.int (if w2 ∈ (addL (addL ([] : List Int32) w0) w1) then 0 else 1 : Int32)), .val (.int (if w3 ∈ (addL (addL (addL ([] : List Int32) w0) w1) w2) then 0 else 1 : Int32)), .val (.int (if w4 ∈ (addL (addL (addL (addL ([] : List Int32) w0) w1) w2) w3) then 0 else 1 : Int32)), .val (.int (1 : Int32)), .val (.int (if w1 ∈ (addL ([] : List Int32) w0) then 0 else 1 : Int32)), .val (.int (if w2 ∈ (addL (addL ([] : List Int32) w0) w1) then 0 else 1 : Int32)), .val (.int (if w3 ∈ (addL (addL (addL ([] : List Int32) w0) w1) w2) then 0 else 1 : Int32)), .val (.int (if w4 ∈ (addL (addL (addL (addL ([] : List Int32) w0) w1) w2) w3) then 0 else 1 : Int32)), .val (.int (0 : Int32)), .val (.int (1 : Int32)), .val (.int (Int32.ofNat (addL (addL ([] : List Int32) w0) w1).length)), .unset, .unset, .unset] [(.int z), (.int (Int32.ofNat (addL (addL ([] : List Int32) w0) w1).length))]) ?_ ?_
  · intro J52
    by_cases hc53 : (if w2 ∈ (addL (addL ([] : List Int32) w0) w1) then 0 else 1 : Int32) = (0 : Int32)
    · refine Go.ifYes X51 hx (hb hby at_267) rfl 274 ((if0 _ _).trans (teq hc53).1) (by decide) (by decide) ?_
      refine Go.iconst X51 hx (hb hby at_274) rfl (0 : Int32) rfl ?_
      exact J52 _ _ hc53.symm X51 e51
    · refine Go.ifNo X51 hx (hb hby at_267) rfl ((if0 _ _).trans (feq hc53).1) ?_
      refine Go.iconst X51 hx (hb hby at_270) rfl (1 : Int32) rfl ?_
      refine Go.goto X51 hx (hb hby at_271) rfl 275 (by decide) (by decide) ?_
      exact J52 _ _ (own_r1 hc53) X51 e51
  intro T54 X54 e54
  show Go p e below _ T54 (mkF m 275 #[.val (.int x0), .val (.int x1), .val (.int x2), .val (.int x3), .val (.int x4), .val (.int x5), .val (.int w0), .val (.int w1), .val (.int w2), .val (.int w3), .val (.int w4), .val (.int w5), .val (.ref b1), .val (.int (1 : Int32)), .val (.int (if w1 ∈ (addL ([] : List Int32) w0) then 0 else 1 : Int32)), .val (.int (if w2 ∈ (addL (addL ([] : List Int32) w0) w1) then 0 else 1 : Int32)), .val (.int (if w3 ∈ (addL (addL (addL ([] : List Int32) w0) w1) w2) then 0 else 1 : Int32)), .val (.int (if w4 ∈ (addL (addL (addL (addL ([] : List Int32) w0) w1) w2) w3) then 0 else 1 : Int32)), .val (.int (1 : Int32)), .val (.int (if w1 ∈ (addL ([] : List Int32) w0) then 0 else 1 : Int32)), .val (.int (if w2 ∈ (addL (addL ([] : List Int32) w0) w1) then 0 else 1 : Int32)), .val (.int (if w3 ∈ (addL (addL (addL ([] : List Int32) w0) w1) w2) then 0 else 1 : Int32)), .val (.int (if w4 ∈ (addL (addL (addL (addL ([] : List Int32) w0) w1) w2) w3) then 0 else 1 : Int32)), .val (.int (0 : Int32)), .val (.int (1 : Int32)), .val (.int (Int32.ofNat (addL (addL ([] : List Int32) w0) w1).length)), .unset, .unset, .unset] [(.int (if w2 ∈ (addL (addL ([] : List Int32) w0) w1) then 0 else 1 : Int32)), (.int (Int32.ofNat (addL (addL ([] : List Int32) w0) w1).length))])
  refine Go.iadd X54 hx (hb hby at_275) rfl ?_
  show Go p e below _ T54 (mkF m 276 #[.val (.int x0), .val (.int x1), .val (.int x2), .val (.int x3), .val (.int x4), .val (.int x5), .val (.int w0), .val (.int w1), .val (.int w2), .val (.int w3), .val (.int w4), .val (.int w5), .val (.ref b1), .val (.int (1 : Int32)), .val (.int (if w1 ∈ (addL ([] : List Int32) w0) then 0 else 1 : Int32)), .val (.int (if w2 ∈ (addL (addL ([] : List Int32) w0) w1) then 0 else 1 : Int32)), .val (.int (if w3 ∈ (addL (addL (addL ([] : List Int32) w0) w1) w2) then 0 else 1 : Int32)), .val (.int (if w4 ∈ (addL (addL (addL (addL ([] : List Int32) w0) w1) w2) w3) then 0 else 1 : Int32)), .val (.int (1 : Int32)), .val (.int (if w1 ∈ (addL ([] : List Int32) w0) then 0 else 1 : Int32)), .val (.int (if w2 ∈ (addL (addL ([] : List Int32) w0) w1) then 0 else 1 : Int32)), .val (.int (if w3 ∈ (addL (addL (addL ([] : List Int32) w0) w1) w2) then 0 else 1 : Int32)), .val (.int (if w4 ∈ (addL (addL (addL (addL ([] : List Int32) w0) w1) w2) w3) then 0 else 1 : Int32)), .val (.int (0 : Int32)), .val (.int (1 : Int32)), .val (.int (Int32.ofNat (addL (addL ([] : List Int32) w0) w1).length)), .unset, .unset, .unset] [(.int ((Int32.ofNat (addL (addL ([] : List Int32) w0) w1).length) + (if w2 ∈ (addL (addL ([] : List Int32) w0) w1) then 0 else 1 : Int32)))])
  rw [len_addL (addL (addL ([] : List Int32) w0) w1) w2]
  show Go p e below _ T54 (mkF m 276 #[.val (.int x0), .val (.int x1), .val (.int x2), .val (.int x3), .val (.int x4), .val (.int x5), .val (.int w0), .val (.int w1), .val (.int w2), .val (.int w3), .val (.int w4), .val (.int w5), .val (.ref b1), .val (.int (1 : Int32)), .val (.int (if w1 ∈ (addL ([] : List Int32) w0) then 0 else 1 : Int32)), .val (.int (if w2 ∈ (addL (addL ([] : List Int32) w0) w1) then 0 else 1 : Int32)), .val (.int (if w3 ∈ (addL (addL (addL ([] : List Int32) w0) w1) w2) then 0 else 1 : Int32)), .val (.int (if w4 ∈ (addL (addL (addL (addL ([] : List Int32) w0) w1) w2) w3) then 0 else 1 : Int32)), .val (.int (1 : Int32)), .val (.int (if w1 ∈ (addL ([] : List Int32) w0) then 0 else 1 : Int32)), .val (.int (if w2 ∈ (addL (addL ([] : List Int32) w0) w1) then 0 else 1 : Int32)), .val (.int (if w3 ∈ (addL (addL (addL ([] : List Int32) w0) w1) w2) then 0 else 1 : Int32)), .val (.int (if w4 ∈ (addL (addL (addL (addL ([] : List Int32) w0) w1) w2) w3) then 0 else 1 : Int32)), .val (.int (0 : Int32)), .val (.int (1 : Int32)), .val (.int (Int32.ofNat (addL (addL ([] : List Int32) w0) w1).length)), .unset, .unset, .unset] [(.int (Int32.ofNat (addL (addL (addL ([] : List Int32) w0) w1) w2).length))])
  refine Go.istore X54 hx (hb hby at_276) rfl  #[.val (.int x0), .val (.int x1), .val (.int x2), .val (.int x3), .val (.int x4), .val (.int x5), .val (.int w0), .val (.int w1), .val (.int w2), .val (.int w3), .val (.int w4), .val (.int w5), .val (.ref b1), .val (.int (1 : Int32)), .val (.int (if w1 ∈ (addL ([] : List Int32) w0) then 0 else 1 : Int32)), .val (.int (if w2 ∈ (addL (addL ([] : List Int32) w0) w1) then 0 else 1 : Int32)), .val (.int (if w3 ∈ (addL (addL (addL ([] : List Int32) w0) w1) w2) then 0 else 1 : Int32)), .val (.int (if w4 ∈ (addL (addL (addL (addL ([] : List Int32) w0) w1) w2) w3) then 0 else 1 : Int32)), .val (.int (1 : Int32)), .val (.int (if w1 ∈ (addL ([] : List Int32) w0) then 0 else 1 : Int32)), .val (.int (if w2 ∈ (addL (addL ([] : List Int32) w0) w1) then 0 else 1 : Int32)), .val (.int (if w3 ∈ (addL (addL (addL ([] : List Int32) w0) w1) w2) then 0 else 1 : Int32)), .val (.int (if w4 ∈ (addL (addL (addL (addL ([] : List Int32) w0) w1) w2) w3) then 0 else 1 : Int32)), .val (.int (0 : Int32)), .val (.int (1 : Int32)), .val (.int (Int32.ofNat (addL (addL ([] : List Int32) w0) w1).length)), .val (.int (Int32.ofNat (addL (addL (addL ([] : List Int32) w0) w1) w2).length)), .unset, .unset] rfl ?_
  refine Go.iload X54 hx (hb hby at_278) rfl rfl  ?_
  refine Go.iload X54 hx (hb hby at_280) rfl rfl  ?_
  refine Go.joinI X54 e54 ((if w3 ∈ (addL (addL (addL ([] : List Int32) w0) w1) w2) then 0 else 1 : Int32)) (fun z => mkF m 290 #[.val (.int x0), .val (.int x1), .val (.int x2), .val (.int x3), .val (.int x4), .val (.int x5), .val (.int w0), .val (.int w1), .val (.int w2), .val (.int w3), .val (.int w4), .val (.int w5), .val (.ref b1), .val (.int (1 : Int32)), .val (.int (if w1 ∈ (addL ([] : List Int32) w0) then 0 else 1 : Int32)), .val (.int (if w2 ∈ (addL (addL ([] : List Int32) w0) w1) then 0 else 1 : Int32)), .val (.int (if w3 ∈ (addL (addL (addL ([] : List Int32) w0) w1) w2) then 0 else 1 : Int32)), .val (.int (if w4 ∈ (addL (addL (addL (addL ([] : List Int32) w0) w1) w2) w3) then 0 else 1 : Int32)), .val (.int (1 : Int32)), .val (.int (if w1 ∈ (addL ([] : List Int32) w0) then 0 else 1 : Int32)), .val (.int (if w2 ∈ (addL (addL ([] : List Int32) w0) w1) then 0 else 1 : Int32)), .val (.int (if w3 ∈ (addL (addL (addL ([] : List Int32) w0) w1) w2) then 0 else 1 : Int32)), .val (.int (if w4 ∈ (addL (addL (addL (addL ([] : List Int32) w0) w1) w2) w3) then 0 else 1 : Int32)), .val (.int (0 : Int32)), .val (.int (1 : Int32)), .val (.int (Int32.ofNat (addL (addL ([] : List Int32) w0) w1).length)), .val (.int (Int32.ofNat (addL (addL (addL ([] : List Int32) w0) w1) w2).length)), .unset, .unset] [(.int z), (.int (Int32.ofNat (addL (addL (addL ([] : List Int32) w0) w1) w2).length))]) ?_ ?_
  · intro J55
    by_cases hc56 : (if w3 ∈ (addL (addL (addL ([] : List Int32) w0) w1) w2) then 0 else 1 : Int32) = (0 : Int32)
    · refine Go.ifYes X54 hx (hb hby at_282) rfl 289 ((if0 _ _).trans (teq hc56).1) (by decide) (by decide) ?_
      refine Go.iconst X54 hx (hb hby at_289) rfl (0 : Int32) rfl ?_
      exact J55 _ _ hc56.symm X54 e54
    · refine Go.ifNo X54 hx (hb hby at_282) rfl ((if0 _ _).trans (feq hc56).1) ?_
      refine Go.iconst X54 hx (hb hby at_285) rfl (1 : Int32) rfl ?_
      refine Go.goto X54 hx (hb hby at_286) rfl 290 (by decide) (by decide) ?_
      exact J55 _ _ (own_r1 hc56) X54 e54
  intro T57 X57 e57
  show Go p e below _ T57 (mkF m 290 #[.val (.int x0), .val (.int x1), .val (.int x2), .val (.int x3), .val (.int x4), .val (.int x5), .val (.int w0), .val (.int w1), .val (.int w2), .val (.int w3), .val (.int w4), .val (.int w5), .val (.ref b1), .val (.int (1 : Int32)), .val (.int (if w1 ∈ (addL ([] : List Int32) w0) then 0 else 1 : Int32)), .val (.int (if w2 ∈ (addL (addL ([] : List Int32) w0) w1) then 0 else 1 : Int32)), .val (.int (if w3 ∈ (addL (addL (addL ([] : List Int32) w0) w1) w2) then 0 else 1 : Int32)), .val (.int (if w4 ∈ (addL (addL (addL (addL ([] : List Int32) w0) w1) w2) w3) then 0 else 1 : Int32)), .val (.int (1 : Int32)), .val (.int (if w1 ∈ (addL ([] : List Int32) w0) then 0 else 1 : Int32)), .val (.int (if w2 ∈ (addL (addL ([] : List Int32) w0) w1) then 0 else 1 : Int32)), .val (.int (if w3 ∈ (addL (addL (addL ([] : List Int32) w0) w1) w2) then 0 else 1 : Int32)), .val (.int (if w4 ∈ (addL (addL (addL (addL ([] : List Int32) w0) w1) w2) w3) then 0 else 1 : Int32)), .val (.int (0 : Int32)), .val (.int (1 : Int32)), .val (.int (Int32.ofNat (addL (addL ([] : List Int32) w0) w1).length)), .val (.int (Int32.ofNat (addL (addL (addL ([] : List Int32) w0) w1) w2).length)), .unset, .unset] [(.int (if w3 ∈ (addL (addL (addL ([] : List Int32) w0) w1) w2) then 0 else 1 : Int32)), (.int (Int32.ofNat (addL (addL (addL ([] : List Int32) w0) w1) w2).length))])
  refine Go.iadd X57 hx (hb hby at_290) rfl ?_
  show Go p e below _ T57 (mkF m 291 #[.val (.int x0), .val (.int x1), .val (.int x2), .val (.int x3), .val (.int x4), .val (.int x5), .val (.int w0), .val (.int w1), .val (.int w2), .val (.int w3), .val (.int w4), .val (.int w5), .val (.ref b1), .val (.int (1 : Int32)), .val (.int (if w1 ∈ (addL ([] : List Int32) w0) then 0 else 1 : Int32)), .val (.int (if w2 ∈ (addL (addL ([] : List Int32) w0) w1) then 0 else 1 : Int32)), .val (.int (if w3 ∈ (addL (addL (addL ([] : List Int32) w0) w1) w2) then 0 else 1 : Int32)), .val (.int (if w4 ∈ (addL (addL (addL (addL ([] : List Int32) w0) w1) w2) w3) then 0 else 1 : Int32)), .val (.int (1 : Int32)), .val (.int (if w1 ∈ (addL ([] : List Int32) w0) then 0 else 1 : Int32)), .val (.int (if w2 ∈ (addL (addL ([] : List Int32) w0) w1) then 0 else 1 : Int32)), .val (.int (if w3 ∈ (addL (addL (addL ([] : List Int32) w0) w1) w2) then 0 else 1 : Int32)), .val (.int (if w4 ∈ (addL (addL (addL (addL ([] : List Int32) w0) w1) w2) w3) then 0 else 1 : Int32)), .val (.int (0 : Int32)), .val (.int (1 : Int32)), .val (.int (Int32.ofNat (addL (addL ([] : List Int32) w0) w1).length)), .val (.int (Int32.ofNat (addL (addL (addL ([] : List Int32) w0) w1) w2).length)), .unset, .unset] [(.int ((Int32.ofNat (addL (addL (addL ([] : List Int32) w0) w1) w2).length) + (if w3 ∈ (addL (addL (addL ([] : List Int32) w0) w1) w2) then 0 else 1 : Int32)))])
  rw [len_addL (addL (addL (addL ([] : List Int32) w0) w1) w2) w3]
  show Go p e below _ T57 (mkF m 291 #[.val (.int x0), .val (.int x1), .val (.int x2), .val (.int x3), .val (.int x4), .val (.int x5), .val (.int w0), .val (.int w1), .val (.int w2), .val (.int w3), .val (.int w4), .val (.int w5), .val (.ref b1), .val (.int (1 : Int32)), .val (.int (if w1 ∈ (addL ([] : List Int32) w0) then 0 else 1 : Int32)), .val (.int (if w2 ∈ (addL (addL ([] : List Int32) w0) w1) then 0 else 1 : Int32)), .val (.int (if w3 ∈ (addL (addL (addL ([] : List Int32) w0) w1) w2) then 0 else 1 : Int32)), .val (.int (if w4 ∈ (addL (addL (addL (addL ([] : List Int32) w0) w1) w2) w3) then 0 else 1 : Int32)), .val (.int (1 : Int32)), .val (.int (if w1 ∈ (addL ([] : List Int32) w0) then 0 else 1 : Int32)), .val (.int (if w2 ∈ (addL (addL ([] : List Int32) w0) w1) then 0 else 1 : Int32)), .val (.int (if w3 ∈ (addL (addL (addL ([] : List Int32) w0) w1) w2) then 0 else 1 : Int32)), .val (.int (if w4 ∈ (addL (addL (addL (addL ([] : List Int32) w0) w1) w2) w3) then 0 else 1 : Int32)), .val (.int (0 : Int32)), .val (.int (1 : Int32)), .val (.int (Int32.ofNat (addL (addL ([] : List Int32) w0) w1).length)), .val (.int (Int32.ofNat (addL (addL (addL ([] : List Int32) w0) w1) w2).length)), .unset, .unset] [(.int (Int32.ofNat (addL (addL (addL (addL ([] : List Int32) w0) w1) w2) w3).length))])
  refine Go.istore X57 hx (hb hby at_291) rfl  #[.val (.int x0), .val (.int x1), .val (.int x2), .val (.int x3), .val (.int x4), .val (.int x5), .val (.int w0), .val (.int w1), .val (.int w2), .val (.int w3), .val (.int w4), .val (.int w5), .val (.ref b1), .val (.int (1 : Int32)), .val (.int (if w1 ∈ (addL ([] : List Int32) w0) then 0 else 1 : Int32)), .val (.int (if w2 ∈ (addL (addL ([] : List Int32) w0) w1) then 0 else 1 : Int32)), .val (.int (if w3 ∈ (addL (addL (addL ([] : List Int32) w0) w1) w2) then 0 else 1 : Int32)), .val (.int (if w4 ∈ (addL (addL (addL (addL ([] : List Int32) w0) w1) w2) w3) then 0 else 1 : Int32)), .val (.int (1 : Int32)), .val (.int (if w1 ∈ (addL ([] : List Int32) w0) then 0 else 1 : Int32)), .val (.int (if w2 ∈ (addL (addL ([] : List Int32) w0) w1) then 0 else 1 : Int32)), .val (.int (if w3 ∈ (addL (addL (addL ([] : List Int32) w0) w1) w2) then 0 else 1 : Int32)), .val (.int (if w4 ∈ (addL (addL (addL (addL ([] : List Int32) w0) w1) w2) w3) then 0 else 1 : Int32)), .val (.int (0 : Int32)), .val (.int (1 : Int32)), .val (.int (Int32.ofNat (addL (addL ([] : List Int32) w0) w1).length)), .val (.int (Int32.ofNat (addL (addL (addL ([] : List Int32) w0) w1) w2).length)), .val (.int (Int32.ofNat (addL (addL (addL (addL ([] : List Int32) w0) w1) w2) w3).length)), .unset] rfl ?_
  refine Go.iload X57 hx (hb hby at_293) rfl rfl  ?_
  refine Go.iload X57 hx (hb hby at_295) rfl rfl  ?_
  refine Go.joinI X57 e57 ((if w4 ∈ (addL (addL (addL (addL ([] : List Int32) w0) w1) w2) w3) then 0 else 1 : Int32)) (fun z => mkF m 305 #[.val (.int x0), .val (.int x1), .val (.int x2), .val (.int x3), .val (.int x4), .val (.int x5), .val (.int w0), .val (.int w1), .val (.int w2), .val (.int w3), .val (.int w4), .val (.int w5), .val (.ref b1), .val (.int (1 : Int32)), .val (.int (if w1 ∈ (addL ([] : List Int32) w0) then 0 else 1 : Int32)), .val (.int (if w2 ∈ (addL (addL ([] : List Int32) w0) w1) then 0 else 1 : Int32)), .val (.int (if w3 ∈ (addL (addL (addL ([] : List Int32) w0) w1) w2) then 0 else 1 : Int32)), .val (.int (if w4 ∈ (addL (addL (addL (addL ([] : List Int32) w0) w1) w2) w3) then 0 else 1 : Int32)), .val (.int (1 : Int32)), .val (.int (if w1 ∈ (addL ([] : List Int32) w0) then 0 else 1 : Int32)), .val (.int (if w2 ∈ (addL (addL ([] : List Int32) w0) w1) then 0 else 1 : Int32)), .val (.int (if w3 ∈ (addL (addL (addL ([] : List Int32) w0) w1) w2) then 0 else 1 : Int32)), .val (.int (if w4 ∈ (addL (addL (addL (addL ([] : List Int32) w0) w1) w2) w3) then 0 else 1 : Int32)), .val (.int (0 : Int32)), .val (.int (1 : Int32)), .val (.int (Int32.ofNat (addL (addL ([] : List Int32) w0) w1).length)), .val (.int (Int32.ofNat (addL (addL (addL ([] : List Int32) w0) w1) w2).length)), .val (.int (Int32.ofNat (addL (addL (addL (addL ([] : List Int32) w0) w1) w2) w3).length)), .unset] [(.int z), (.int (Int32.ofNat (addL (addL (addL (addL ([] : List Int32) w0) w1) w2) w3).length))]) ?_ ?_
  · intro J58
    by_cases hc59 : (if w4 ∈ (addL (addL (addL (addL ([] : List Int32) w0) w1) w2) w3) then 0 else 1 : Int32) = (0 : Int32)
    · refine Go.ifYes X57 hx (hb hby at_297) rfl 304 ((if0 _ _).trans (teq hc59).1) (by decide) (by decide) ?_
      refine Go.iconst X57 hx (hb hby at_304) rfl (0 : Int32) rfl ?_
      exact J58 _ _ hc59.symm X57 e57
    · refine Go.ifNo X57 hx (hb hby at_297) rfl ((if0 _ _).trans (feq hc59).1) ?_
      refine Go.iconst X57 hx (hb hby at_300) rfl (1 : Int32) rfl ?_
      refine Go.goto X57 hx (hb hby at_301) rfl 305 (by decide) (by decide) ?_
      exact J58 _ _ (own_r1 hc59) X57 e57
  intro T60 X60 e60
  show Go p e below _ T60 (mkF m 305 #[.val (.int x0), .val (.int x1), .val (.int x2), .val (.int x3), .val (.int x4), .val (.int x5), .val (.int w0), .val (.int w1), .val (.int w2), .val (.int w3), .val (.int w4), .val (.int w5), .val (.ref b1), .val (.int (1 : Int32)), .val (.int (if w1 ∈ (addL ([] : List Int32) w0) then 0 else 1 : Int32)), .val (.int (if w2 ∈ (addL (addL ([] : List Int32) w0) w1) then 0 else 1 : Int32)), .val (.int (if w3 ∈ (addL (addL (addL ([] : List Int32) w0) w1) w2) then 0 else 1 : Int32)), .val (.int (if w4 ∈ (addL (addL (addL (addL ([] : List Int32) w0) w1) w2) w3) then 0 else 1 : Int32)), .val (.int (1 : Int32)), .val (.int (if w1 ∈ (addL ([] : List Int32) w0) then 0 else 1 : Int32)), .val (.int (if w2 ∈ (addL (addL ([] : List Int32) w0) w1) then 0 else 1 : Int32)), .val (.int (if w3 ∈ (addL (addL (addL ([] : List Int32) w0) w1) w2) then 0 else 1 : Int32)), .val (.int (if w4 ∈ (addL (addL (addL (addL ([] : List Int32) w0) w1) w2) w3) then 0 else 1 : Int32)), .val (.int (0 : Int32)), .val (.int (1 : Int32)), .val (.int (Int32.ofNat (addL (addL ([] : List Int32) w0) w1).length)), .val (.int (Int32.ofNat (addL (addL (addL ([] : List Int32) w0) w1) w2).length)), .val (.int (Int32.ofNat (addL (addL (addL (addL ([] : List Int32) w0) w1) w2) w3).length)), .unset] [(.int (if w4 ∈ (addL (addL (addL (addL ([] : List Int32) w0) w1) w2) w3) then 0 else 1 : Int32)), (.int (Int32.ofNat (addL (addL (addL (addL ([] : List Int32) w0) w1) w2) w3).length))])
  refine Go.iadd X60 hx (hb hby at_305) rfl ?_
  show Go p e below _ T60 (mkF m 306 #[.val (.int x0), .val (.int x1), .val (.int x2), .val (.int x3), .val (.int x4), .val (.int x5), .val (.int w0), .val (.int w1), .val (.int w2), .val (.int w3), .val (.int w4), .val (.int w5), .val (.ref b1), .val (.int (1 : Int32)), .val (.int (if w1 ∈ (addL ([] : List Int32) w0) then 0 else 1 : Int32)), .val (.int (if w2 ∈ (addL (addL ([] : List Int32) w0) w1) then 0 else 1 : Int32)), .val (.int (if w3 ∈ (addL (addL (addL ([] : List Int32) w0) w1) w2) then 0 else 1 : Int32)), .val (.int (if w4 ∈ (addL (addL (addL (addL ([] : List Int32) w0) w1) w2) w3) then 0 else 1 : Int32)), .val (.int (1 : Int32)), .val (.int (if w1 ∈ (addL ([] : List Int32) w0) then 0 else 1 : Int32)), .val (.int (if w2 ∈ (addL (addL ([] : List Int32) w0) w1) then 0 else 1 : Int32)), .val (.int (if w3 ∈ (addL (addL (addL ([] : List Int32) w0) w1) w2) then 0 else 1 : Int32)), .val (.int (if w4 ∈ (addL (addL (addL (addL ([] : List Int32) w0) w1) w2) w3) then 0 else 1 : Int32)), .val (.int (0 : Int32)), .val (.int (1 : Int32)), .val (.int (Int32.ofNat (addL (addL ([] : List Int32) w0) w1).length)), .val (.int (Int32.ofNat (addL (addL (addL ([] : List Int32) w0) w1) w2).length)), .val (.int (Int32.ofNat (addL (addL (addL (addL ([] : List Int32) w0) w1) w2) w3).length)), .unset] [(.int ((Int32.ofNat (addL (addL (addL (addL ([] : List Int32) w0) w1) w2) w3).length) + (if w4 ∈ (addL (addL (addL (addL ([] : List Int32) w0) w1) w2) w3) then 0 else 1 : Int32)))])
  rw [len_addL (addL (addL (addL (addL ([] : List Int32) w0) w1) w2) w3) w4]
  show Go p e below _ T60 (mkF m 306 #[.val (.int x0), .val (.int x1), .val (.int x2), .val (.int x3), .val (.int x4), .val (.int x5), .val (.int w0), .val (.int w1), .val (.int w2), .val (.int w3), .val (.int w4), .val (.int w5), .val (.ref b1), .val (.int (1 : Int32)), .val (.int (if w1 ∈ (addL ([] : List Int32) w0) then 0 else 1 : Int32)), .val (.int (if w2 ∈ (addL (addL ([] : List Int32) w0) w1) then 0 else 1 : Int32)), .val (.int (if w3 ∈ (addL (addL (addL ([] : List Int32) w0) w1) w2) then 0 else 1 : Int32)), .val (.int (if w4 ∈ (addL (addL (addL (addL ([] : List Int32) w0) w1) w2) w3) then 0 else 1 : Int32)), .val (.int (1 : Int32)), .val (.int (if w1 ∈ (addL ([] : List Int32) w0) then 0 else 1 : Int32)), .val (.int (if w2 ∈ (addL (addL ([] : List Int32) w0) w1) then 0 else 1 : Int32)), .val (.int (if w3 ∈ (addL (addL (addL ([] : List Int32) w0) w1) w2) then 0 else 1 : Int32)), .val (.int (if w4 ∈ (addL (addL (addL (addL ([] : List Int32) w0) w1) w2) w3) then 0 else 1 : Int32)), .val (.int (0 : Int32)), .val (.int (1 : Int32)), .val (.int (Int32.ofNat (addL (addL ([] : List Int32) w0) w1).length)), .val (.int (Int32.ofNat (addL (addL (addL ([] : List Int32) w0) w1) w2).length)), .val (.int (Int32.ofNat (addL (addL (addL (addL ([] : List Int32) w0) w1) w2) w3).length)), .unset] [(.int (Int32.ofNat (addL (addL (addL (addL (addL ([] : List Int32) w0) w1) w2) w3) w4).length))])
  refine Go.istore X60 hx (hb hby at_306) rfl  #[.val (.int x0), .val (.int x1), .val (.int x2), .val (.int x3), .val (.int x4), .val (.int x5), .val (.int w0), .val (.int w1), .val (.int w2), .val (.int w3), .val (.int w4), .val (.int w5), .val (.ref b1), .val (.int (1 : Int32)), .val (.int (if w1 ∈ (addL ([] : List Int32) w0) then 0 else 1 : Int32)), .val (.int (if w2 ∈ (addL (addL ([] : List Int32) w0) w1) then 0 else 1 : Int32)), .val (.int (if w3 ∈ (addL (addL (addL ([] : List Int32) w0) w1) w2) then 0 else 1 : Int32)), .val (.int (if w4 ∈ (addL (addL (addL (addL ([] : List Int32) w0) w1) w2) w3) then 0 else 1 : Int32)), .val (.int (1 : Int32)), .val (.int (if w1 ∈ (addL ([] : List Int32) w0) then 0 else 1 : Int32)), .val (.int (if w2 ∈ (addL (addL ([] : List Int32) w0) w1) then 0 else 1 : Int32)), .val (.int (if w3 ∈ (addL (addL (addL ([] : List Int32) w0) w1) w2) then 0 else 1 : Int32)), .val (.int (if w4 ∈ (addL (addL (addL (addL ([] : List Int32) w0) w1) w2) w3) then 0 else 1 : Int32)), .val (.int (0 : Int32)), .val (.int (1 : Int32)), .val (.int (Int32.ofNat (addL (addL ([] : List Int32) w0) w1).length)), .val (.int (Int32.ofNat (addL (addL (addL ([] : List Int32) w0) w1) w2).length)), .val (.int (Int32.ofNat (addL (addL (addL (addL ([] : List Int32) w0) w1) w2) w3).length)), .val (.int (Int32.ofNat (addL (addL (addL (addL (addL ([] : List Int32) w0) w1) w2) w3) w4).length))] rfl ?_
  have G5 := R27.2.1.1
  have lq0 : ([] : List Int32).length ≤ 0 := Nat.le_refl 0
  have lq1 : (addL ([] : List Int32) w0).length ≤ 1 := Nat.le_trans (addL_len _ _) (Nat.succ_le_succ lq0)
  have lq2 : (addL (addL ([] : List Int32) w0) w1).length ≤ 2 := Nat.le_trans (addL_len _ _) (Nat.succ_le_succ lq1)
  have lq3 : (addL (addL (addL ([] : List Int32) w0) w1) w2).length ≤ 3 := Nat.le_trans (addL_len _ _) (Nat.succ_le_succ lq2)
  have lq4 : (addL (addL (addL (addL ([] : List Int32) w0) w1) w2) w3).length ≤ 4 := Nat.le_trans (addL_len _ _) (Nat.succ_le_succ lq3)
  have lq5 : (addL (addL (addL (addL (addL ([] : List Int32) w0) w1) w2) w3) w4).length ≤ 5 := Nat.le_trans (addL_len _ _) (Nat.succ_le_succ lq4)
  have pf5 : (addL (addL (addL (addL (addL ([] : List Int32) w0) w1) w2) w3) w4) <+: (addL (addL (addL (addL (addL ([] : List Int32) w0) w1) w2) w3) w4) := List.prefix_refl _
  have pf4 : (addL (addL (addL (addL ([] : List Int32) w0) w1) w2) w3) <+: (addL (addL (addL (addL (addL ([] : List Int32) w0) w1) w2) w3) w4) := (pre_addL _ _).trans pf5
  have pf3 : (addL (addL (addL ([] : List Int32) w0) w1) w2) <+: (addL (addL (addL (addL (addL ([] : List Int32) w0) w1) w2) w3) w4) := (pre_addL _ _).trans pf4
  have pf2 : (addL (addL ([] : List Int32) w0) w1) <+: (addL (addL (addL (addL (addL ([] : List Int32) w0) w1) w2) w3) w4) := (pre_addL _ _).trans pf3
  have pf1 : (addL ([] : List Int32) w0) <+: (addL (addL (addL (addL (addL ([] : List Int32) w0) w1) w2) w3) w4) := (pre_addL _ _).trans pf2
  have le1 : Int32.ofNat ((addL ([] : List Int32) w0)).length = 1 := by simp [addL]
  show Go p e below _ T60 (mkF m 308 #[.val (.int x0), .val (.int x1), .val (.int x2), .val (.int x3), .val (.int x4), .val (.int x5), .val (.int w0), .val (.int w1), .val (.int w2), .val (.int w3), .val (.int w4), .val (.int w5), .val (.ref b1), .val (.int (1 : Int32)), .val (.int (if w1 ∈ (addL ([] : List Int32) w0) then 0 else 1 : Int32)), .val (.int (if w2 ∈ (addL (addL ([] : List Int32) w0) w1) then 0 else 1 : Int32)), .val (.int (if w3 ∈ (addL (addL (addL ([] : List Int32) w0) w1) w2) then 0 else 1 : Int32)), .val (.int (if w4 ∈ (addL (addL (addL (addL ([] : List Int32) w0) w1) w2) w3) then 0 else 1 : Int32)), .val (.int (1 : Int32)), .val (.int (if w1 ∈ (addL ([] : List Int32) w0) then 0 else 1 : Int32)), .val (.int (if w2 ∈ (addL (addL ([] : List Int32) w0) w1) then 0 else 1 : Int32)), .val (.int (if w3 ∈ (addL (addL (addL ([] : List Int32) w0) w1) w2) then 0 else 1 : Int32)), .val (.int (if w4 ∈ (addL (addL (addL (addL ([] : List Int32) w0) w1) w2) w3) then 0 else 1 : Int32)), .val (.int (0 : Int32)), .val (.int (1 : Int32)), .val (.int (Int32.ofNat (addL (addL ([] : List Int32) w0) w1).length)), .val (.int (Int32.ofNat (addL (addL (addL ([] : List Int32) w0) w1) w2).length)), .val (.int (Int32.ofNat (addL (addL (addL (addL ([] : List Int32) w0) w1) w2) w3).length)), .val (.int (Int32.ofNat (addL (addL (addL (addL (addL ([] : List Int32) w0) w1) w2) w3) w4).length))] [])
  refine Go.aload X60 hx (hb hby at_308) rfl rfl rfl ?_
  refine Go.iload X60 hx (hb hby at_310) rfl rfl  ?_
  refine Go.callV X60 hx hZ hown (wd 35 rfl) (wd 36 rfl) (notFace_of_selects (args := #[]) (mvT hZ (wd 38 rfl))) (wd 38 rfl) (wd 37 rfl) (wd 3 rfl) (wd 39 rfl) (by decide) [(.int w5)] [] E30 (isTruncR l Z a0 hw b1 a_NONE w5 (addL (addL (addL (addL (addL ([] : List Int32) w0) w1) w2) w3) w4) T27.heap O29 R27 (addL_ne _ _) nn5) e60 rfl (by rw [hml]; rfl) pd_4 rfl (hb hby at_312) (Nat.le_of_ble_eq_true rfl) (Nat.le_of_ble_eq_true rfl) (Nat.le_of_ble_eq_true rfl) (Nat.le_of_ble_eq_true rfl) ?_
  rintro vv61 T61 L61 X61 Q61
  obtain ⟨rfl, N61, B61, R61⟩ := Q61
  have M62 := Fr.app M28 N61
  have O63 := Blw.old B61 q1 O29
  have E64 := R61.2.1
  refine Go.aload X61 hx (hb hby at_315) rfl rfl rfl ?_
  refine Go.pureV X61 hx hZ hown (wd 40 rfl) (wd 41 rfl) (notFace_of_selects (args := #[]) (mvT hZ (wd 43 rfl))) (wd 43 rfl) (wd 42 rfl) (wd 3 rfl) (wd 44 rfl) (by decide) [] [] E64 (isSize l Z a0 hw b1 (Int32.ofNat ((addL (addL (addL (addL (addL ([] : List Int32) w0) w1) w2) w3) w4).take (w5).toInt.toNat).length) T61.heap (rept_size R61)) rfl rfl (by rw [hml]; rfl) pd_7 rfl (hb hby at_317) (Nat.le_of_ble_eq_true rfl) (Nat.le_of_ble_eq_true rfl) (Nat.le_of_ble_eq_true rfl) (Nat.le_of_ble_eq_true rfl) ?_
  intro T65 X65 e65
  refine Go.iload X65 hx (hb hby at_320) rfl rfl  ?_
  refine Go.iload X65 hx (hb hby at_322) rfl rfl  ?_
  refine Go.pureS X65 hx hZ hown (wd 45 rfl) (wd 46 rfl) (wd 47 rfl) (wd 48 rfl) (by decide) [(.int w5), (.int (Int32.ofNat (addL (addL (addL (addL (addL ([] : List Int32) w0) w1) w2) w3) w4).length))] [(.int (Int32.ofNat ((addL (addL (addL (addL (addL ([] : List Int32) w0) w1) w2) w3) w4).take (w5).toInt.toNat).length))] (lwMin l Z a0 hw w5 (Int32.ofNat (addL (addL (addL (addL (addL ([] : List Int32) w0) w1) w2) w3) w4).length) T61.heap) e65 rfl (by rw [hml]; rfl) pd_2 rfl (hb hby at_324) (Nat.le_of_ble_eq_true rfl) (Nat.le_of_ble_eq_true rfl) (Nat.le_of_ble_eq_true rfl) (Nat.le_of_ble_eq_true rfl) ?_
  intro T66 X66 e66
  have B327 : (Int32.ofNat ((addL (addL (addL (addL (addL ([] : List Int32) w0) w1) w2) w3) w4).take (w5).toInt.toNat).length) = (if (Int32.ofNat (addL (addL (addL (addL (addL ([] : List Int32) w0) w1) w2) w3) w4).length) < w5 then (Int32.ofNat (addL (addL (addL (addL (addL ([] : List Int32) w0) w1) w2) w3) w4).length) else w5) := min_take (Nat.le_trans lq5 (by decide)) nn5 le5
  show Go p e below _ T66 (mkF m 327 #[.val (.int x0), .val (.int x1), .val (.int x2), .val (.int x3), .val (.int x4), .val (.int x5), .val (.int w0), .val (.int w1), .val (.int w2), .val (.int w3), .val (.int w4), .val (.int w5), .val (.ref b1), .val (.int (1 : Int32)), .val (.int (if w1 ∈ (addL ([] : List Int32) w0) then 0 else 1 : Int32)), .val (.int (if w2 ∈ (addL (addL ([] : List Int32) w0) w1) then 0 else 1 : Int32)), .val (.int (if w3 ∈ (addL (addL (addL ([] : List Int32) w0) w1) w2) then 0 else 1 : Int32)), .val (.int (if w4 ∈ (addL (addL (addL (addL ([] : List Int32) w0) w1) w2) w3) then 0 else 1 : Int32)), .val (.int (1 : Int32)), .val (.int (if w1 ∈ (addL ([] : List Int32) w0) then 0 else 1 : Int32)), .val (.int (if w2 ∈ (addL (addL ([] : List Int32) w0) w1) then 0 else 1 : Int32)), .val (.int (if w3 ∈ (addL (addL (addL ([] : List Int32) w0) w1) w2) then 0 else 1 : Int32)), .val (.int (if w4 ∈ (addL (addL (addL (addL ([] : List Int32) w0) w1) w2) w3) then 0 else 1 : Int32)), .val (.int (0 : Int32)), .val (.int (1 : Int32)), .val (.int (Int32.ofNat (addL (addL ([] : List Int32) w0) w1).length)), .val (.int (Int32.ofNat (addL (addL (addL ([] : List Int32) w0) w1) w2).length)), .val (.int (Int32.ofNat (addL (addL (addL (addL ([] : List Int32) w0) w1) w2) w3).length)), .val (.int (Int32.ofNat (addL (addL (addL (addL (addL ([] : List Int32) w0) w1) w2) w3) w4).length))] [(.int (if (Int32.ofNat (addL (addL (addL (addL (addL ([] : List Int32) w0) w1) w2) w3) w4).length) < w5 then (Int32.ofNat (addL (addL (addL (addL (addL ([] : List Int32) w0) w1) w2) w3) w4).length) else w5)), (.int (Int32.ofNat ((addL (addL (addL (addL (addL ([] : List Int32) w0) w1) w2) w3) w4).take (w5).toInt.toNat).length))])
  refine Go.icmpYes X66 hx (hb hby at_327) rfl 332 (teq B327).1 (by decide) (by decide) ?_
  refine Go.aload X66 hx (hb hby at_332) rfl rfl rfl ?_
  refine Go.iload X66 hx (hb hby at_334) rfl rfl  ?_
  refine Go.iload X66 hx (hb hby at_336) rfl rfl  ?_
  refine Go.iload X66 hx (hb hby at_338) rfl rfl  ?_
  refine Go.iload X66 hx (hb hby at_340) rfl rfl  ?_
  refine Go.pureS X66 hx hZ hown (wd 49 rfl) (wd 50 rfl) (wd 51 rfl) (wd 52 rfl) (by decide) [(.ref b1), (.int (1 : Int32)), (.int w0), (.int (0 : Int32)), (.int w5)] [] (lwOk l Z a0 hw b1 a_NONE (1 : Int32) w0 (0 : Int32) w5 ((addL (addL (addL (addL (addL ([] : List Int32) w0) w1) w2) w3) w4).take (w5).toInt.toNat) T61.heap R61.2.1 R61.1 (rept_read R61)) e66 rfl (by rw [hml]; rfl) pd_8 rfl (hb hby at_342) (Nat.le_of_ble_eq_true rfl) (Nat.le_of_ble_eq_true rfl) (Nat.le_of_ble_eq_true rfl) (Nat.le_of_ble_eq_true rfl) ?_
  intro T67 X67 e67
  have B68 : (if (1 : Int32) = (0 : Int32) then (1 : Int32) else (if (if w0 ∈ ((addL (addL (addL (addL (addL ([] : List Int32) w0) w1) w2) w3) w4).take (w5).toInt.toNat) then 1 else 0 : Int32) = (if (0 : Int32) < w5 then 1 else 0 : Int32) then (1 : Int32) else (0 : Int32))) = (1 : Int32) := ok_one (fun _ => ok_mem (es := ([] : List Int32)) (Nat.le_trans lq0 (by decide)) G5 pf1 (by simp) nn5)
  have C68 : ¬ (if (1 : Int32) = (0 : Int32) then (1 : Int32) else (if (if w0 ∈ ((addL (addL (addL (addL (addL ([] : List Int32) w0) w1) w2) w3) w4).take (w5).toInt.toNat) then 1 else 0 : Int32) = (if (0 : Int32) < w5 then 1 else 0 : Int32) then (1 : Int32) else (0 : Int32))) = (0 : Int32) := by rw [B68]; decide
  show Go p e below _ T67 (mkF m 345 #[.val (.int x0), .val (.int x1), .val (.int x2), .val (.int x3), .val (.int x4), .val (.int x5), .val (.int w0), .val (.int w1), .val (.int w2), .val (.int w3), .val (.int w4), .val (.int w5), .val (.ref b1), .val (.int (1 : Int32)), .val (.int (if w1 ∈ (addL ([] : List Int32) w0) then 0 else 1 : Int32)), .val (.int (if w2 ∈ (addL (addL ([] : List Int32) w0) w1) then 0 else 1 : Int32)), .val (.int (if w3 ∈ (addL (addL (addL ([] : List Int32) w0) w1) w2) then 0 else 1 : Int32)), .val (.int (if w4 ∈ (addL (addL (addL (addL ([] : List Int32) w0) w1) w2) w3) then 0 else 1 : Int32)), .val (.int (1 : Int32)), .val (.int (if w1 ∈ (addL ([] : List Int32) w0) then 0 else 1 : Int32)), .val (.int (if w2 ∈ (addL (addL ([] : List Int32) w0) w1) then 0 else 1 : Int32)), .val (.int (if w3 ∈ (addL (addL (addL ([] : List Int32) w0) w1) w2) then 0 else 1 : Int32)), .val (.int (if w4 ∈ (addL (addL (addL (addL ([] : List Int32) w0) w1) w2) w3) then 0 else 1 : Int32)), .val (.int (0 : Int32)), .val (.int (1 : Int32)), .val (.int (Int32.ofNat (addL (addL ([] : List Int32) w0) w1).length)), .val (.int (Int32.ofNat (addL (addL (addL ([] : List Int32) w0) w1) w2).length)), .val (.int (Int32.ofNat (addL (addL (addL (addL ([] : List Int32) w0) w1) w2) w3).length)), .val (.int (Int32.ofNat (addL (addL (addL (addL (addL ([] : List Int32) w0) w1) w2) w3) w4).length))] [(.int (if (1 : Int32) = (0 : Int32) then (1 : Int32) else (if (if w0 ∈ ((addL (addL (addL (addL (addL ([] : List Int32) w0) w1) w2) w3) w4).take (w5).toInt.toNat) then 1 else 0 : Int32) = (if (0 : Int32) < w5 then 1 else 0 : Int32) then (1 : Int32) else (0 : Int32))))])
  refine Go.ifNo X67 hx (hb hby at_345) rfl ((if0 _ _).trans (feq C68).1) ?_
  refine Go.aload X67 hx (hb hby at_348) rfl rfl rfl ?_
  refine Go.iload X67 hx (hb hby at_350) rfl rfl  ?_
  refine Go.iload X67 hx (hb hby at_352) rfl rfl  ?_
  refine Go.iload X67 hx (hb hby at_354) rfl rfl  ?_
  refine Go.iload X67 hx (hb hby at_356) rfl rfl  ?_
  refine Go.pureS X67 hx hZ hown (wd 49 rfl) (wd 50 rfl) (wd 51 rfl) (wd 52 rfl) (by decide) [(.ref b1), (.int (if w1 ∈ (addL ([] : List Int32) w0) then 0 else 1 : Int32)), (.int w1), (.int (1 : Int32)), (.int w5)] [] (lwOk l Z a0 hw b1 a_NONE (if w1 ∈ (addL ([] : List Int32) w0) then 0 else 1 : Int32) w1 (1 : Int32) w5 ((addL (addL (addL (addL (addL ([] : List Int32) w0) w1) w2) w3) w4).take (w5).toInt.toNat) T61.heap R61.2.1 R61.1 (rept_read R61)) e67 rfl (by rw [hml]; rfl) pd_8 rfl (hb hby at_358) (Nat.le_of_ble_eq_true rfl) (Nat.le_of_ble_eq_true rfl) (Nat.le_of_ble_eq_true rfl) (Nat.le_of_ble_eq_true rfl) ?_
  intro T69 X69 e69
  have B70 : (if (if w1 ∈ (addL ([] : List Int32) w0) then 0 else 1 : Int32) = (0 : Int32) then (1 : Int32) else (if (if w1 ∈ ((addL (addL (addL (addL (addL ([] : List Int32) w0) w1) w2) w3) w4).take (w5).toInt.toNat) then 1 else 0 : Int32) = (if (1 : Int32) < w5 then 1 else 0 : Int32) then (1 : Int32) else (0 : Int32))) = (1 : Int32) := ok_one (fun q => by
    have h := ok_mem (es := (addL ([] : List Int32) w0)) (Nat.le_trans lq1 (by decide)) G5 pf2 q nn5
    rw [le1] at h; exact h)
  have C70 : ¬ (if (if w1 ∈ (addL ([] : List Int32) w0) then 0 else 1 : Int32) = (0 : Int32) then (1 : Int32) else (if (if w1 ∈ ((addL (addL (addL (addL (addL ([] : List Int32) w0) w1) w2) w3) w4).take (w5).toInt.toNat) then 1 else 0 : Int32) = (if (1 : Int32) < w5 then 1 else 0 : Int32) then (1 : Int32) else (0 : Int32))) = (0 : Int32) := by rw [B70]; decide
  show Go p e below _ T69 (mkF m 361 #[.val (.int x0), .val (.int x1), .val (.int x2), .val (.int x3), .val (.int x4), .val (.int x5), .val (.int w0), .val (.int w1), .val (.int w2), .val (.int w3), .val (.int w4), .val (.int w5), .val (.ref b1), .val (.int (1 : Int32)), .val (.int (if w1 ∈ (addL ([] : List Int32) w0) then 0 else 1 : Int32)), .val (.int (if w2 ∈ (addL (addL ([] : List Int32) w0) w1) then 0 else 1 : Int32)), .val (.int (if w3 ∈ (addL (addL (addL ([] : List Int32) w0) w1) w2) then 0 else 1 : Int32)), .val (.int (if w4 ∈ (addL (addL (addL (addL ([] : List Int32) w0) w1) w2) w3) then 0 else 1 : Int32)), .val (.int (1 : Int32)), .val (.int (if w1 ∈ (addL ([] : List Int32) w0) then 0 else 1 : Int32)), .val (.int (if w2 ∈ (addL (addL ([] : List Int32) w0) w1) then 0 else 1 : Int32)), .val (.int (if w3 ∈ (addL (addL (addL ([] : List Int32) w0) w1) w2) then 0 else 1 : Int32)), .val (.int (if w4 ∈ (addL (addL (addL (addL ([] : List Int32) w0) w1) w2) w3) then 0 else 1 : Int32)), .val (.int (0 : Int32)), .val (.int (1 : Int32)), .val (.int (Int32.ofNat (addL (addL ([] : List Int32) w0) w1).length)), .val (.int (Int32.ofNat (addL (addL (addL ([] : List Int32) w0) w1) w2).length)), .val (.int (Int32.ofNat (addL (addL (addL (addL ([] : List Int32) w0) w1) w2) w3).length)), .val (.int (Int32.ofNat (addL (addL (addL (addL (addL ([] : List Int32) w0) w1) w2) w3) w4).length))] [(.int (if (if w1 ∈ (addL ([] : List Int32) w0) then 0 else 1 : Int32) = (0 : Int32) then (1 : Int32) else (if (if w1 ∈ ((addL (addL (addL (addL (addL ([] : List Int32) w0) w1) w2) w3) w4).take (w5).toInt.toNat) then 1 else 0 : Int32) = (if (1 : Int32) < w5 then 1 else 0 : Int32) then (1 : Int32) else (0 : Int32))))])
  refine Go.ifNo X69 hx (hb hby at_361) rfl ((if0 _ _).trans (feq C70).1) ?_
  refine Go.aload X69 hx (hb hby at_364) rfl rfl rfl ?_
  refine Go.iload X69 hx (hb hby at_366) rfl rfl  ?_
  refine Go.iload X69 hx (hb hby at_368) rfl rfl  ?_
  refine Go.iload X69 hx (hb hby at_370) rfl rfl  ?_
  refine Go.iload X69 hx (hb hby at_372) rfl rfl  ?_
  refine Go.pureS X69 hx hZ hown (wd 49 rfl) (wd 50 rfl) (wd 51 rfl) (wd 52 rfl) (by decide) [(.ref b1), (.int (if w2 ∈ (addL (addL ([] : List Int32) w0) w1) then 0 else 1 : Int32)), (.int w2), (.int (Int32.ofNat (addL (addL ([] : List Int32) w0) w1).length)), (.int w5)] [] (lwOk l Z a0 hw b1 a_NONE (if w2 ∈ (addL (addL ([] : List Int32) w0) w1) then 0 else 1 : Int32) w2 (Int32.ofNat (addL (addL ([] : List Int32) w0) w1).length) w5 ((addL (addL (addL (addL (addL ([] : List Int32) w0) w1) w2) w3) w4).take (w5).toInt.toNat) T61.heap R61.2.1 R61.1 (rept_read R61)) e69 rfl (by rw [hml]; rfl) pd_8 rfl (hb hby at_374) (Nat.le_of_ble_eq_true rfl) (Nat.le_of_ble_eq_true rfl) (Nat.le_of_ble_eq_true rfl) (Nat.le_of_ble_eq_true rfl) ?_
  intro T71 X71 e71
  have B72 : (if (if w2 ∈ (addL (addL ([] : List Int32) w0) w1) then 0 else 1 : Int32) = (0 : Int32) then (1 : Int32) else (if (if w2 ∈ ((addL (addL (addL (addL (addL ([] : List Int32) w0) w1) w2) w3) w4).take (w5).toInt.toNat) then 1 else 0 : Int32) = (if (Int32.ofNat (addL (addL ([] : List Int32) w0) w1).length) < w5 then 1 else 0 : Int32) then (1 : Int32) else (0 : Int32))) = (1 : Int32) := ok_one (fun q => ok_mem (es := (addL (addL ([] : List Int32) w0) w1)) (Nat.le_trans lq2 (by decide)) G5 pf3 q nn5)
  have C72 : ¬ (if (if w2 ∈ (addL (addL ([] : List Int32) w0) w1) then 0 else 1 : Int32) = (0 : Int32) then (1 : Int32) else (if (if w2 ∈ ((addL (addL (addL (addL (addL ([] : List Int32) w0) w1) w2) w3) w4).take (w5).toInt.toNat) then 1 else 0 : Int32) = (if (Int32.ofNat (addL (addL ([] : List Int32) w0) w1).length) < w5 then 1 else 0 : Int32) then (1 : Int32) else (0 : Int32))) = (0 : Int32) := by rw [B72]; decide
  show Go p e below _ T71 (mkF m 377 #[.val (.int x0), .val (.int x1), .val (.int x2), .val (.int x3), .val (.int x4), .val (.int x5), .val (.int w0), .val (.int w1), .val (.int w2), .val (.int w3), .val (.int w4), .val (.int w5), .val (.ref b1), .val (.int (1 : Int32)), .val (.int (if w1 ∈ (addL ([] : List Int32) w0) then 0 else 1 : Int32)), .val (.int (if w2 ∈ (addL (addL ([] : List Int32) w0) w1) then 0 else 1 : Int32)), .val (.int (if w3 ∈ (addL (addL (addL ([] : List Int32) w0) w1) w2) then 0 else 1 : Int32)), .val (.int (if w4 ∈ (addL (addL (addL (addL ([] : List Int32) w0) w1) w2) w3) then 0 else 1 : Int32)), .val (.int (1 : Int32)), .val (.int (if w1 ∈ (addL ([] : List Int32) w0) then 0 else 1 : Int32)), .val (.int (if w2 ∈ (addL (addL ([] : List Int32) w0) w1) then 0 else 1 : Int32)), .val (.int (if w3 ∈ (addL (addL (addL ([] : List Int32) w0) w1) w2) then 0 else 1 : Int32)), .val (.int (if w4 ∈ (addL (addL (addL (addL ([] : List Int32) w0) w1) w2) w3) then 0 else 1 : Int32)), .val (.int (0 : Int32)), .val (.int (1 : Int32)), .val (.int (Int32.ofNat (addL (addL ([] : List Int32) w0) w1).length)), .val (.int (Int32.ofNat (addL (addL (addL ([] : List Int32) w0) w1) w2).length)), .val (.int (Int32.ofNat (addL (addL (addL (addL ([] : List Int32) w0) w1) w2) w3).length)), .val (.int (Int32.ofNat (addL (addL (addL (addL (addL ([] : List Int32) w0) w1) w2) w3) w4).length))] [(.int (if (if w2 ∈ (addL (addL ([] : List Int32) w0) w1) then 0 else 1 : Int32) = (0 : Int32) then (1 : Int32) else (if (if w2 ∈ ((addL (addL (addL (addL (addL ([] : List Int32) w0) w1) w2) w3) w4).take (w5).toInt.toNat) then 1 else 0 : Int32) = (if (Int32.ofNat (addL (addL ([] : List Int32) w0) w1).length) < w5 then 1 else 0 : Int32) then (1 : Int32) else (0 : Int32))))])
  refine Go.ifNo X71 hx (hb hby at_377) rfl ((if0 _ _).trans (feq C72).1) ?_
  refine Go.aload X71 hx (hb hby at_380) rfl rfl rfl ?_
  refine Go.iload X71 hx (hb hby at_382) rfl rfl  ?_
  refine Go.iload X71 hx (hb hby at_384) rfl rfl  ?_
  refine Go.iload X71 hx (hb hby at_386) rfl rfl  ?_
  refine Go.iload X71 hx (hb hby at_388) rfl rfl  ?_
  refine Go.pureS X71 hx hZ hown (wd 49 rfl) (wd 50 rfl) (wd 51 rfl) (wd 52 rfl) (by decide) [(.ref b1), (.int (if w3 ∈ (addL (addL (addL ([] : List Int32) w0) w1) w2) then 0 else 1 : Int32)), (.int w3), (.int (Int32.ofNat (addL (addL (addL ([] : List Int32) w0) w1) w2).length)), (.int w5)] [] (lwOk l Z a0 hw b1 a_NONE (if w3 ∈ (addL (addL (addL ([] : List Int32) w0) w1) w2) then 0 else 1 : Int32) w3 (Int32.ofNat (addL (addL (addL ([] : List Int32) w0) w1) w2).length) w5 ((addL (addL (addL (addL (addL ([] : List Int32) w0) w1) w2) w3) w4).take (w5).toInt.toNat) T61.heap R61.2.1 R61.1 (rept_read R61)) e71 rfl (by rw [hml]; rfl) pd_8 rfl (hb hby at_390) (Nat.le_of_ble_eq_true rfl) (Nat.le_of_ble_eq_true rfl) (Nat.le_of_ble_eq_true rfl) (Nat.le_of_ble_eq_true rfl) ?_
  intro T73 X73 e73
  have B74 : (if (if w3 ∈ (addL (addL (addL ([] : List Int32) w0) w1) w2) then 0 else 1 : Int32) = (0 : Int32) then (1 : Int32) else (if (if w3 ∈ ((addL (addL (addL (addL (addL ([] : List Int32) w0) w1) w2) w3) w4).take (w5).toInt.toNat) then 1 else 0 : Int32) = (if (Int32.ofNat (addL (addL (addL ([] : List Int32) w0) w1) w2).length) < w5 then 1 else 0 : Int32) then (1 : Int32) else (0 : Int32))) = (1 : Int32) := ok_one (fun q => ok_mem (es := (addL (addL (addL ([] : List Int32) w0) w1) w2)) (Nat.le_trans lq3 (by decide)) G5 pf4 q nn5)
  have C74 : ¬ (if (if w3 ∈ (addL (addL (addL ([] : List Int32) w0) w1) w2) then 0 else 1 : Int32) = (0 : Int32) then (1 : Int32) else (if (if w3 ∈ ((addL (addL (addL (addL (addL ([] : List Int32) w0) w1) w2) w3) w4).take (w5).toInt.toNat) then 1 else 0 : Int32) = (if (Int32.ofNat (addL (addL (addL ([] : List Int32) w0) w1) w2).length) < w5 then 1 else 0 : Int32) then (1 : Int32) else (0 : Int32))) = (0 : Int32) := by rw [B74]; decide
  show Go p e below _ T73 (mkF m 393 #[.val (.int x0), .val (.int x1), .val (.int x2), .val (.int x3), .val (.int x4), .val (.int x5), .val (.int w0), .val (.int w1), .val (.int w2), .val (.int w3), .val (.int w4), .val (.int w5), .val (.ref b1), .val (.int (1 : Int32)), .val (.int (if w1 ∈ (addL ([] : List Int32) w0) then 0 else 1 : Int32)), .val (.int (if w2 ∈ (addL (addL ([] : List Int32) w0) w1) then 0 else 1 : Int32)), .val (.int (if w3 ∈ (addL (addL (addL ([] : List Int32) w0) w1) w2) then 0 else 1 : Int32)), .val (.int (if w4 ∈ (addL (addL (addL (addL ([] : List Int32) w0) w1) w2) w3) then 0 else 1 : Int32)), .val (.int (1 : Int32)), .val (.int (if w1 ∈ (addL ([] : List Int32) w0) then 0 else 1 : Int32)), .val (.int (if w2 ∈ (addL (addL ([] : List Int32) w0) w1) then 0 else 1 : Int32)), .val (.int (if w3 ∈ (addL (addL (addL ([] : List Int32) w0) w1) w2) then 0 else 1 : Int32)), .val (.int (if w4 ∈ (addL (addL (addL (addL ([] : List Int32) w0) w1) w2) w3) then 0 else 1 : Int32)), .val (.int (0 : Int32)), .val (.int (1 : Int32)), .val (.int (Int32.ofNat (addL (addL ([] : List Int32) w0) w1).length)), .val (.int (Int32.ofNat (addL (addL (addL ([] : List Int32) w0) w1) w2).length)), .val (.int (Int32.ofNat (addL (addL (addL (addL ([] : List Int32) w0) w1) w2) w3).length)), .val (.int (Int32.ofNat (addL (addL (addL (addL (addL ([] : List Int32) w0) w1) w2) w3) w4).length))] [(.int (if (if w3 ∈ (addL (addL (addL ([] : List Int32) w0) w1) w2) then 0 else 1 : Int32) = (0 : Int32) then (1 : Int32) else (if (if w3 ∈ ((addL (addL (addL (addL (addL ([] : List Int32) w0) w1) w2) w3) w4).take (w5).toInt.toNat) then 1 else 0 : Int32) = (if (Int32.ofNat (addL (addL (addL ([] : List Int32) w0) w1) w2).length) < w5 then 1 else 0 : Int32) then (1 : Int32) else (0 : Int32))))])
  refine Go.ifNo X73 hx (hb hby at_393) rfl ((if0 _ _).trans (feq C74).1) ?_
  refine Go.aload X73 hx (hb hby at_396) rfl rfl rfl ?_
  refine Go.iload X73 hx (hb hby at_398) rfl rfl  ?_
  refine Go.iload X73 hx (hb hby at_400) rfl rfl  ?_
  refine Go.iload X73 hx (hb hby at_402) rfl rfl  ?_
  refine Go.iload X73 hx (hb hby at_404) rfl rfl  ?_
  refine Go.pureS X73 hx hZ hown (wd 49 rfl) (wd 50 rfl) (wd 51 rfl) (wd 52 rfl) (by decide) [(.ref b1), (.int (if w4 ∈ (addL (addL (addL (addL ([] : List Int32) w0) w1) w2) w3) then 0 else 1 : Int32)), (.int w4), (.int (Int32.ofNat (addL (addL (addL (addL ([] : List Int32) w0) w1) w2) w3).length)), (.int w5)] [] (lwOk l Z a0 hw b1 a_NONE (if w4 ∈ (addL (addL (addL (addL ([] : List Int32) w0) w1) w2) w3) then 0 else 1 : Int32) w4 (Int32.ofNat (addL (addL (addL (addL ([] : List Int32) w0) w1) w2) w3).length) w5 ((addL (addL (addL (addL (addL ([] : List Int32) w0) w1) w2) w3) w4).take (w5).toInt.toNat) T61.heap R61.2.1 R61.1 (rept_read R61)) e73 rfl (by rw [hml]; rfl) pd_8 rfl (hb hby at_406) (Nat.le_of_ble_eq_true rfl) (Nat.le_of_ble_eq_true rfl) (Nat.le_of_ble_eq_true rfl) (Nat.le_of_ble_eq_true rfl) ?_
  intro T75 X75 e75
  have B76 : (if (if w4 ∈ (addL (addL (addL (addL ([] : List Int32) w0) w1) w2) w3) then 0 else 1 : Int32) = (0 : Int32) then (1 : Int32) else (if (if w4 ∈ ((addL (addL (addL (addL (addL ([] : List Int32) w0) w1) w2) w3) w4).take (w5).toInt.toNat) then 1 else 0 : Int32) = (if (Int32.ofNat (addL (addL (addL (addL ([] : List Int32) w0) w1) w2) w3).length) < w5 then 1 else 0 : Int32) then (1 : Int32) else (0 : Int32))) = (1 : Int32) := ok_one (fun q => ok_mem (es := (addL (addL (addL (addL ([] : List Int32) w0) w1) w2) w3)) (Nat.le_trans lq4 (by decide)) G5 pf5 q nn5)
  have C76 : ¬ (if (if w4 ∈ (addL (addL (addL (addL ([] : List Int32) w0) w1) w2) w3) then 0 else 1 : Int32) = (0 : Int32) then (1 : Int32) else (if (if w4 ∈ ((addL (addL (addL (addL (addL ([] : List Int32) w0) w1) w2) w3) w4).take (w5).toInt.toNat) then 1 else 0 : Int32) = (if (Int32.ofNat (addL (addL (addL (addL ([] : List Int32) w0) w1) w2) w3).length) < w5 then 1 else 0 : Int32) then (1 : Int32) else (0 : Int32))) = (0 : Int32) := by rw [B76]; decide
  show Go p e below _ T75 (mkF m 409 #[.val (.int x0), .val (.int x1), .val (.int x2), .val (.int x3), .val (.int x4), .val (.int x5), .val (.int w0), .val (.int w1), .val (.int w2), .val (.int w3), .val (.int w4), .val (.int w5), .val (.ref b1), .val (.int (1 : Int32)), .val (.int (if w1 ∈ (addL ([] : List Int32) w0) then 0 else 1 : Int32)), .val (.int (if w2 ∈ (addL (addL ([] : List Int32) w0) w1) then 0 else 1 : Int32)), .val (.int (if w3 ∈ (addL (addL (addL ([] : List Int32) w0) w1) w2) then 0 else 1 : Int32)), .val (.int (if w4 ∈ (addL (addL (addL (addL ([] : List Int32) w0) w1) w2) w3) then 0 else 1 : Int32)), .val (.int (1 : Int32)), .val (.int (if w1 ∈ (addL ([] : List Int32) w0) then 0 else 1 : Int32)), .val (.int (if w2 ∈ (addL (addL ([] : List Int32) w0) w1) then 0 else 1 : Int32)), .val (.int (if w3 ∈ (addL (addL (addL ([] : List Int32) w0) w1) w2) then 0 else 1 : Int32)), .val (.int (if w4 ∈ (addL (addL (addL (addL ([] : List Int32) w0) w1) w2) w3) then 0 else 1 : Int32)), .val (.int (0 : Int32)), .val (.int (1 : Int32)), .val (.int (Int32.ofNat (addL (addL ([] : List Int32) w0) w1).length)), .val (.int (Int32.ofNat (addL (addL (addL ([] : List Int32) w0) w1) w2).length)), .val (.int (Int32.ofNat (addL (addL (addL (addL ([] : List Int32) w0) w1) w2) w3).length)), .val (.int (Int32.ofNat (addL (addL (addL (addL (addL ([] : List Int32) w0) w1) w2) w3) w4).length))] [(.int (if (if w4 ∈ (addL (addL (addL (addL ([] : List Int32) w0) w1) w2) w3) then 0 else 1 : Int32) = (0 : Int32) then (1 : Int32) else (if (if w4 ∈ ((addL (addL (addL (addL (addL ([] : List Int32) w0) w1) w2) w3) w4).take (w5).toInt.toNat) then 1 else 0 : Int32) = (if (Int32.ofNat (addL (addL (addL (addL ([] : List Int32) w0) w1) w2) w3).length) < w5 then 1 else 0 : Int32) then (1 : Int32) else (0 : Int32))))])
  refine Go.ifNo X75 hx (hb hby at_409) rfl ((if0 _ _).trans (feq C76).1) ?_
  refine Go.iconst X75 hx (hb hby at_412) rfl (1 : Int32) rfl ?_
  refine Go.goto X75 hx (hb hby at_413) rfl 417 (by decide) (by decide) ?_
  exact Go.retZ X75 hx (z' := (1 : Int32)) hret hlk (hb hby at_417) rfl (by decide) ⟨by first | rfl | simp [], M62⟩ (Nat.le_of_ble_eq_true rfl) (Nat.le_of_ble_eq_true rfl)
set_option maxRecDepth 65536 in
set_option maxHeartbeats 40000000 in
theorem comes_1 {Post : Tables → Env → Array Value → State → Outcome → State → Prop} (hpost : ∀ tb e args s v u, (limb_1_1.after args s (.returned v) u = true ∧ limb_1_2.after args s (.returned v) u = true ∧ True) → FrameEnd s (.returned v) u (Jvm.fieldLocs frame_1_writes args s ++ Jvm.arrayLocs frame_1_arrays args s ++ Jvm.staticLocs frame_1_statics s) 24 192 → Post tb e args s (.returned v) u) :
    ArmFor flags0 classFile x code maxLocals ret World_1 tables_1 room_1 Calls_1 rest_1 Pre_1 Post := by
  intro l hfl _ _ p e ha hc hk s m args below hf hA hF happ hP
  obtain ⟨hcalls, hrest, hpre⟩ := hP
  obtain ⟨-, -, -, hnamed, -, -, -, hat⟩ := (Spec.applies_iff hf).mp happ
  obtain ⟨hg, hn⟩ := and_e (Cond.before_iff.mp (show (Jvm.Cond.and given_1 narrow_1).before args s = true from hpre))
  obtain ⟨gi0, gi1⟩ := and_e hg
  obtain ⟨gi2, gi3⟩ := and_e gi1
  obtain ⟨gi4, gi5⟩ := and_e gi3
  obtain ⟨gi6, gi7⟩ := and_e gi5
  obtain ⟨gi8, gi9⟩ := and_e gi7
  obtain ⟨gi10, gi11⟩ := and_e gi9
  obtain ⟨w0, w1, w2, w3, w4, w5, rfl⟩ : ∃ w0 w1 w2 w3 w4 w5 : Value, args = #[w0, w1, w2, w3, w4, w5] := by
    have hs : args.size = 6 := by simpa [Cond.value, given_1] using gi0
    obtain ⟨L⟩ := args
    match L, hs with
    | [w0, w1, w2, w3, w4, w5], _ => exact ⟨w0, w1, w2, w3, w4, w5, rfl⟩
  have hw := fun d (hd : d ∈ tables_1) => atoms_spec (ws := Jvm.Cond.code x code maxLocals ret :: tables_1) hat d (List.mem_cons_of_mem _ hd)
  have wd : ∀ {d : Jvm.Cond} (i : Nat), tables_1[i]? = some d → d.before _ s = true := fun i q => hw _ (List.mem_of_getElem? q)
  have hfit : Fit s := fun {y c} hc i hi => by
    obtain ⟨ha, rfl⟩ := Array.getElem?_eq_some_iff.mp hc
    have q := List.all_eq_true.mp ((Array.all_eq_true_iff_forall_mem.mp hF) _ (Array.getElem_mem ha)) i (List.mem_range.mpr hi)
    simpa [Array.getElem?_eq_getElem hi] using q
  obtain ⟨i0, ei0⟩ := is_v gi2
  obtain rfl : w0 = (.int i0) := Option.some.inj ei0
  obtain ⟨i1, ei1⟩ := is_v gi4
  obtain rfl : w1 = (.int i1) := Option.some.inj ei1
  obtain ⟨i2, ei2⟩ := is_v gi6
  obtain rfl : w2 = (.int i2) := Option.some.inj ei2
  obtain ⟨i3, ei3⟩ := is_v gi8
  obtain rfl : w3 = (.int i3) := Option.some.inj ei3
  obtain ⟨i4, ei4⟩ := is_v gi10
  obtain rfl : w4 = (.int i4) := Option.some.inj ei4
  obtain ⟨i5, ei5⟩ := is_v gi11
  obtain rfl : w5 = (.int i5) := Option.some.inj ei5
  obtain ⟨g1, g2⟩ := and_e hn
  obtain ⟨a_NONE, ev_NONE⟩ := arr_v g1
  have S_NONE : Sta s s.heap "com/example/overrule/overrule/engine/IntSet" "NONE" "[I" (.ref a_NONE) := Sta.start ev_NONE (Or.inr ⟨(wd 3 rfl), (wd 11 rfl)⟩)
  obtain ⟨cl_NONE, Ar_NONE⟩ := Arr.start ev_NONE g1
  have L_NONE := own_eqv g2 (v := (.int (0 : Int32))) rfl
  have V_NONE : Arv s s.heap a_NONE cl_NONE.cls .int (0 : Int32) [] (.int (0 : Int32)) := Arv.start hfit Ar_NONE (own_len Ar_NONE ev_NONE L_NONE).1 (own_len Ar_NONE ev_NONE L_NONE).2 (by decide) rfl trivial
  obtain ⟨n, o, h1, h2, h3, _, L, rfl, ⟨rfl, N⟩, hq⟩ := rm0 l s _ hw i0 i1 i2 i3 i4 i5 a_NONE cl_NONE.cls ⟨S_NONE, V_NONE⟩ tables_1 p e ha hc hk s m _ below hf ((Spec.applies_iff_loose hf).mp happ).1 ⟨rfl, State.Warmed39.refl s, rfl⟩ trivial
  refine ⟨n, _, h1, h2, h3, hpost _ _ _ _ _ _ ⟨Cond.after_iff.mpr rfl, Cond.after_iff.mpr (eq_i res_at (Term.int_eval (1)) rfl), trivial⟩ ⟨hq.1, hq.2.1, (hq.2.2.sift fun y hy => Or.inr (N y hy)).mono (by decide) (by decide)⟩⟩
theorem main_1_1 : Claimed_1_1 := comes_1 fun _ _ _ _ _ _ h hF => ⟨h.1, hF⟩
theorem main_1_2 : Claimed_1_2 := comes_1 fun _ _ _ _ _ _ h hF => ⟨h.2.1, hF⟩
end Jvm.Pilot.@@N@@
namespace Jvm.Pilot.@@N@@
open Jvm Jvm.ClassFile Sem Op Lib Jvm.Free Jvm.Stand Jvm.Pilot.@@N@@.Jvm.D
/-! MADE BY PROGRAM (witnessworld.py) out of the Statement's table words and the real class files: 12 classes; the members and pool entries that the words name. The judged class is class 1, her method 1. -/
namespace start1
open Jvm.ClassFile
def u (s : String) : CpInfo := .utf8 (stringToUtf16 s)
/-- a pool by its gaps: so many unusable entries, then the entry; so many at the end -/
def gap : Nat → List CpInfo → List CpInfo
  | 0, r => r
  | n + 1, r => .unusable :: gap n r
def poolList (es : List (Nat × CpInfo)) (last : Nat) : List CpInfo := es.foldr (fun e r => gap e.1 (e.2 :: r)) (gap last [])
def pool (es : List (Nat × CpInfo)) (last : Nat) : Array CpInfo := ⟨poolList es last⟩
def fileOf (pool : Array CpInfo) (this : Nat) (attrs : Array Attribute := #[]) (ms : Array MethodInfo := #[]) (fl : Nat := 33) (sup : Nat := 0) (ifs : Array Nat := #[]) (fds : Array FieldInfo := #[]) : ClassFile where
  minorVersion := 0
  majorVersion := 65
  constantPool := pool
  accessFlags := fl
  thisClass := this
  superClass := sup
  interfaces := ifs
  fields := fds
  methods := ms
  attributes := attrs
def plain (name : String) (sup : Option ClassId) : Class where
  name := name
  kind := .ordinary
  loader := none
  accessFlags := 33
  super := sup
  interfaces := #[]
  cf := none
  fields := #[]
  methods := #[]
  instanceTypes := #[]
  staticTypes := #[]
  resolved := #[]
  callSites := []
  init := .initialized
  statics := none
  mirror := none

def pool0 : Array CpInfo := pool [(5, u "<init>"), (0, u "()V"), (1, .class_ 10), (1, u "java/lang/Object")] 113

def k0c0 : Code := { maxStack := 0, maxLocals := 1, code := object_method_1_code, exceptionTable := #[], attributes := #[] }
def k0m0 : Method := { name := "<init>", desc := "()V", sig := { parameters := [], returnType := none }, accessFlags := 1, code := some k0c0 }
/-- java/lang/Object -/
def k0 : Class := { plain "java/lang/Object" none with
  accessFlags := 33
  interfaces := #[]
  cf := some (fileOf pool0 8 #[] #[{ accessFlags := 1, nameIndex := 5, descriptorIndex := 6, attributes := #[] }] 33 0 #[] #[])
  fields := #[]
  methods := #[k0m0]
  instanceTypes := #[]
  staticTypes := #[]
  resolved := Array.replicate 124 none
  statics := none }

def pool1 : Array CpInfo := pool [(2, .class_ 4), (0, .nameAndType 5 6), (0, u "java/lang/Object"), (0, u "<init>"), (0, u "()V"), (0, .integer 2147483647), (0, .class_ 9), (0, u "com/example/overrule/overrule/engine/IntSet"), (0, .methodref 8 3), (0, .methodref 8 12), (0, .nameAndType 13 14), (0, u "add"), (0, u "(I)Z"), (0, .methodref 8 16), (0, .nameAndType 17 18), (0, u "truncate"), (0, u "(I)V"), (0, .methodref 8 20), (0, .nameAndType 21 22), (0, u "size"), (0, u "()I"), (0, .methodref 24 25), (0, .class_ 26), (0, .nameAndType 27 28), (0, u "java/lang/Math"), (0, u "min"), (0, u "(II)I"), (0, .methodref 30 31), (0, .class_ 32), (0, .nameAndType 33 34), (0, u "com/example/overrule/overrule/engine/IntSetTruncatePinLaw"), (0, u "ok"), (0, u "(Lcom/example/overrule/overrule/engine/IntSet;ZIII)Z"), (0, .methodref 8 36), (0, .nameAndType 37 14), (0, u "contains"), (2, u "law"), (0, u "(IIIIII)Z")] 3

def k1m0 : Method := { name := "<init>", desc := "()V", sig := { parameters := [], returnType := none }, accessFlags := 1, code := none }
def k1c1 : Code := { maxStack := 5, maxLocals := 29, code := code, exceptionTable := #[], attributes := #[] }
def k1m1 : Method := { name := "law", desc := "(IIIIII)Z", sig := { parameters := [.int, .int, .int, .int, .int, .int], returnType := some .boolean }, accessFlags := 9, code := some k1c1 }
def k1c2 : Code := { maxStack := 3, maxLocals := 5, code := method_3_code, exceptionTable := #[], attributes := #[] }
def k1m2 : Method := { name := "ok", desc := "(Lcom/example/overrule/overrule/engine/IntSet;ZIII)Z", sig := { parameters := [(.object "com/example/overrule/overrule/engine/IntSet"), .boolean, .int, .int, .int], returnType := some .boolean }, accessFlags := 10, code := some k1c2 }
/-- com/example/overrule/overrule/engine/IntSetTruncatePinLaw -/
def k1 : Class := { plain "com/example/overrule/overrule/engine/IntSetTruncatePinLaw" (some 0) with
  accessFlags := 49
  interfaces := #[]
  cf := some (fileOf pool1 30 #[] #[{ accessFlags := 1, nameIndex := 5, descriptorIndex := 6, attributes := #[] }, { accessFlags := 9, nameIndex := 40, descriptorIndex := 41, attributes := #[] }, { accessFlags := 10, nameIndex := 33, descriptorIndex := 34, attributes := #[] }] 49 2 #[] #[])
  fields := #[]
  methods := #[k1m0, k1m1, k1m2]
  instanceTypes := #[]
  staticTypes := #[]
  resolved := Array.replicate 45 none
  statics := none }

def pool2 : Array CpInfo := pool [(1, .methodref 2 3), (0, .class_ 4), (0, .nameAndType 5 6), (0, u "java/lang/Object"), (0, u "<init>"), (0, u "()V"), (0, .fieldref 8 9), (0, .class_ 10), (0, .nameAndType 11 12), (0, u "com/example/overrule/overrule/engine/IntSet"), (0, u "NONE"), (0, u "[I"), (0, .fieldref 8 14), (0, .nameAndType 15 12), (0, u "elements"), (0, .fieldref 8 17), (0, .nameAndType 18 12), (0, u "slots"), (0, .methodref 8 20), (0, .nameAndType 21 22), (0, u "freeSlots"), (0, u "(I)[I"), (0, .methodref 8 24), (0, .nameAndType 25 26), (0, u "slot"), (0, u "(II)I"), (0, .fieldref 8 28), (0, .nameAndType 29 30), (0, u "size"), (0, u "I"), (0, .methodref 32 33), (0, .class_ 34), (0, .nameAndType 35 36), (0, u "java/util/Arrays"), (0, u "copyOf"), (0, u "([II)[I"), (0, .methodref 8 38), (0, .nameAndType 39 40), (0, u "rehash"), (0, u "(I)V"), (2, u "contains"), (0, u "(I)Z"), (0, .integer 2654435769), (0, .methodref 32 47), (0, .nameAndType 48 49), (0, u "fill"), (0, u "([II)V"), (0, u "FREE"), (4, u "add"), (4, u "truncate"), (0, u "()I")] 7

def k2c0 : Code := { maxStack := 2, maxLocals := 1, code := prog_46_method_1_code, exceptionTable := #[], attributes := #[] }
def k2m0 : Method := { name := "<init>", desc := "()V", sig := { parameters := [], returnType := none }, accessFlags := 0, code := some k2c0 }
def k2c1 : Code := { maxStack := 5, maxLocals := 4, code := prog_46_method_2_code, exceptionTable := #[], attributes := #[] }
def k2m1 : Method := { name := "add", desc := "(I)Z", sig := { parameters := [.int], returnType := some .boolean }, accessFlags := 0, code := some k2c1 }
def k2c2 : Code := { maxStack := 2, maxLocals := 4, code := prog_46_method_3_code, exceptionTable := #[], attributes := #[] }
def k2m2 : Method := { name := "contains", desc := "(I)Z", sig := { parameters := [.int], returnType := some .boolean }, accessFlags := 0, code := some k2c2 }
def k2c3 : Code := { maxStack := 4, maxLocals := 5, code := prog_46_method_5_code, exceptionTable := #[], attributes := #[] }
def k2m3 : Method := { name := "truncate", desc := "(I)V", sig := { parameters := [.int], returnType := none }, accessFlags := 0, code := some k2c3 }
def k2c4 : Code := { maxStack := 1, maxLocals := 1, code := prog_46_method_6_code, exceptionTable := #[], attributes := #[] }
def k2m4 : Method := { name := "size", desc := "()I", sig := { parameters := [], returnType := some .int }, accessFlags := 0, code := some k2c4 }
def k2c5 : Code := { maxStack := 4, maxLocals := 5, code := prog_46_method_9_code, exceptionTable := #[], attributes := #[] }
def k2m5 : Method := { name := "rehash", desc := "(I)V", sig := { parameters := [.int], returnType := none }, accessFlags := 2, code := some k2c5 }
def k2c6 : Code := { maxStack := 3, maxLocals := 3, code := prog_46_method_10_code, exceptionTable := #[], attributes := #[] }
def k2m6 : Method := { name := "slot", desc := "(II)I", sig := { parameters := [.int, .int], returnType := some .int }, accessFlags := 10, code := some k2c6 }
def k2c7 : Code := { maxStack := 2, maxLocals := 2, code := prog_46_method_11_code, exceptionTable := #[], attributes := #[] }
def k2m7 : Method := { name := "freeSlots", desc := "(I)[I", sig := { parameters := [.int], returnType := some (.array .int) }, accessFlags := 10, code := some k2c7 }
/-- com/example/overrule/overrule/engine/IntSet -/
def k2 : Class := { plain "com/example/overrule/overrule/engine/IntSet" (some 0) with
  accessFlags := 48
  interfaces := #[]
  cf := some (fileOf pool2 8 #[] #[{ accessFlags := 0, nameIndex := 5, descriptorIndex := 6, attributes := #[] }, { accessFlags := 0, nameIndex := 55, descriptorIndex := 44, attributes := #[] }, { accessFlags := 0, nameIndex := 43, descriptorIndex := 44, attributes := #[] }, { accessFlags := 0, nameIndex := 60, descriptorIndex := 40, attributes := #[] }, { accessFlags := 0, nameIndex := 29, descriptorIndex := 61, attributes := #[] }, { accessFlags := 2, nameIndex := 39, descriptorIndex := 40, attributes := #[] }, { accessFlags := 10, nameIndex := 25, descriptorIndex := 26, attributes := #[] }, { accessFlags := 10, nameIndex := 21, descriptorIndex := 22, attributes := #[] }] 48 2 #[] #[{ accessFlags := 26, nameIndex := 50, descriptorIndex := 30, attributes := #[] }, { accessFlags := 26, nameIndex := 11, descriptorIndex := 12, attributes := #[] }, { accessFlags := 2, nameIndex := 15, descriptorIndex := 12, attributes := #[] }, { accessFlags := 2, nameIndex := 29, descriptorIndex := 30, attributes := #[] }, { accessFlags := 2, nameIndex := 18, descriptorIndex := 12, attributes := #[] }])
  fields := #[{ name := "FREE", type := .int, accessFlags := 26, slot := 0, constantValue := 0 }, { name := "NONE", type := (.array .int), accessFlags := 26, slot := 1, constantValue := 0 }, { name := "elements", type := (.array .int), accessFlags := 2, slot := 0, constantValue := 0 }, { name := "size", type := .int, accessFlags := 2, slot := 1, constantValue := 0 }, { name := "slots", type := (.array .int), accessFlags := 2, slot := 2, constantValue := 0 }]
  methods := #[k2m0, k2m1, k2m2, k2m3, k2m4, k2m5, k2m6, k2m7]
  instanceTypes := #[(.array .int), .int, (.array .int)]
  staticTypes := #[.int, (.array .int)]
  resolved := Array.replicate 69 none
  statics := some 0 }

def pool3 : Array CpInfo := pool [(2, .class_ 4), (1, u "java/lang/Object"), (0, u "<init>"), (0, u "()V"), (7, .class_ 16), (1, u "java/util/Arrays"), (57, .class_ 76), (1, u "java/util/Arrays$NaturalOrder"), (36, .class_ 115), (1, u "java/util/Arrays$LegacyMergeSort"), (1, u "Z"), (32, .methodref 151 152), (0, .class_ 153), (0, .nameAndType 154 155), (0, u "java/lang/System"), (0, u "arraycopy"), (0, u "(Ljava/lang/Object;ILjava/lang/Object;II)V"), (146, u "copyOf"), (1, .methodref 305 306), (0, .class_ 307), (0, .nameAndType 308 309), (0, u "java/lang/Math"), (0, u "min"), (0, u "(II)I"), (65, .class_ 376), (0, u "java/util/Arrays$ArrayList"), (68, u "$assertionsDisabled"), (269, u "MIN_ARRAY_SORT_GRAN"), (0, u "I"), (2, u "INSERTIONSORT_THRESHOLD"), (120, u "fill"), (4, u "([II)V"), (25, u "([II)[I"), (103, .class_ 976), (0, u "java/util/Arrays$ArrayItr")] 52

def k3m0 : Method := { name := "<init>", desc := "()V", sig := { parameters := [], returnType := none }, accessFlags := 2, code := none }
def k3c1 : Code := { maxStack := 3, maxLocals := 4, code := jdk_65_method_103_code, exceptionTable := #[], attributes := #[] }
def k3m1 : Method := { name := "fill", desc := "([II)V", sig := { parameters := [(.array .int), .int], returnType := none }, accessFlags := 9, code := some k3c1 }
def k3c2 : Code := { maxStack := 6, maxLocals := 3, code := jdk_65_method_123_code, exceptionTable := #[], attributes := #[] }
def k3m2 : Method := { name := "copyOf", desc := "([II)[I", sig := { parameters := [(.array .int), .int], returnType := some (.array .int) }, accessFlags := 9, code := some k3c2 }
/-- java/util/Arrays -/
def k3 : Class := { plain "java/util/Arrays" (some 0) with
  accessFlags := 49
  interfaces := #[]
  cf := some (fileOf pool3 14 #[.nestMembers #[975, 375, 113, 74]] #[{ accessFlags := 2, nameIndex := 5, descriptorIndex := 6, attributes := #[] }, { accessFlags := 9, nameIndex := 840, descriptorIndex := 845, attributes := #[] }, { accessFlags := 9, nameIndex := 302, descriptorIndex := 871, attributes := #[] }] 49 2 #[] #[{ accessFlags := 26, nameIndex := 715, descriptorIndex := 716, attributes := #[] }, { accessFlags := 26, nameIndex := 719, descriptorIndex := 716, attributes := #[] }, { accessFlags := 4120, nameIndex := 445, descriptorIndex := 117, attributes := #[] }])
  fields := #[{ name := "MIN_ARRAY_SORT_GRAN", type := .int, accessFlags := 26, slot := 0, constantValue := 0 }, { name := "INSERTIONSORT_THRESHOLD", type := .int, accessFlags := 26, slot := 1, constantValue := 0 }, { name := "$assertionsDisabled", type := .boolean, accessFlags := 4120, slot := 2, constantValue := 0 }]
  methods := #[k3m0, k3m1, k3m2]
  instanceTypes := #[]
  staticTypes := #[.int, .int, .boolean]
  resolved := Array.replicate 1029 none
  statics := none }

def pool4 : Array CpInfo := pool [(1, .class_ 2), (0, u "java/lang/Math"), (1, .class_ 6), (1, u "java/lang/Object"), (0, u "<init>"), (0, u "()V"), (89, .class_ 100), (1, u "java/lang/Math$RandomNumberGeneratorHolder"), (71, u "negativeZeroFloatBits"), (0, u "J"), (2, u "negativeZeroDoubleBits"), (24, u "min"), (43, u "$assertionsDisabled"), (0, u "Z"), (88, u "(II)I"), (2, u "twoToTheDoubleScaleDown"), (0, u "D"), (4, u "twoToTheDoubleScaleUp"), (9, u "E"), (3, u "PI"), (2, u "TAU"), (2, u "DEGREES_TO_RADIANS"), (0, u "RADIANS_TO_DEGREES")] 94

def k4m0 : Method := { name := "<init>", desc := "()V", sig := { parameters := [], returnType := none }, accessFlags := 2, code := none }
def k4c1 : Code := { maxStack := 2, maxLocals := 2, code := jdk_29_method_69_code, exceptionTable := #[], attributes := #[] }
def k4m1 : Method := { name := "min", desc := "(II)I", sig := { parameters := [.int, .int], returnType := some .int }, accessFlags := 9, code := some k4c1 }
/-- java/lang/Math -/
def k4 : Class := { plain "java/lang/Math" (some 0) with
  accessFlags := 49
  interfaces := #[]
  cf := some (fileOf pool4 1 #[.nestMembers #[98]] #[{ accessFlags := 2, nameIndex := 7, descriptorIndex := 8, attributes := #[] }, { accessFlags := 9, nameIndex := 201, descriptorIndex := 335, attributes := #[] }] 49 4 #[] #[{ accessFlags := 25, nameIndex := 354, descriptorIndex := 339, attributes := #[] }, { accessFlags := 25, nameIndex := 358, descriptorIndex := 339, attributes := #[] }, { accessFlags := 25, nameIndex := 361, descriptorIndex := 339, attributes := #[] }, { accessFlags := 26, nameIndex := 364, descriptorIndex := 339, attributes := #[] }, { accessFlags := 26, nameIndex := 365, descriptorIndex := 339, attributes := #[] }, { accessFlags := 26, nameIndex := 172, descriptorIndex := 173, attributes := #[] }, { accessFlags := 26, nameIndex := 176, descriptorIndex := 173, attributes := #[] }, { accessFlags := 8, nameIndex := 344, descriptorIndex := 339, attributes := #[] }, { accessFlags := 8, nameIndex := 338, descriptorIndex := 339, attributes := #[] }, { accessFlags := 4120, nameIndex := 245, descriptorIndex := 246, attributes := #[] }])
  fields := #[{ name := "E", type := .double, accessFlags := 25, slot := 0, constantValue := 0 }, { name := "PI", type := .double, accessFlags := 25, slot := 1, constantValue := 0 }, { name := "TAU", type := .double, accessFlags := 25, slot := 2, constantValue := 0 }, { name := "DEGREES_TO_RADIANS", type := .double, accessFlags := 26, slot := 3, constantValue := 0 }, { name := "RADIANS_TO_DEGREES", type := .double, accessFlags := 26, slot := 4, constantValue := 0 }, { name := "negativeZeroFloatBits", type := .long, accessFlags := 26, slot := 5, constantValue := 0 }, { name := "negativeZeroDoubleBits", type := .long, accessFlags := 26, slot := 6, constantValue := 0 }, { name := "twoToTheDoubleScaleUp", type := .double, accessFlags := 8, slot := 7, constantValue := 0 }, { name := "twoToTheDoubleScaleDown", type := .double, accessFlags := 8, slot := 8, constantValue := 0 }, { name := "$assertionsDisabled", type := .boolean, accessFlags := 4120, slot := 9, constantValue := 0 }]
  methods := #[k4m0, k4m1]
  instanceTypes := #[]
  staticTypes := #[.double, .double, .double, .double, .double, .long, .long, .double, .double, .boolean]
  resolved := Array.replicate 460 none
  statics := none }

def pool5 : Array CpInfo := pool [(2, .class_ 4), (1, u "java/lang/Object"), (0, u "<init>"), (0, u "()V"), (1, .class_ 10), (1, u "java/lang/System"), (0, u "allowSecurityManager"), (0, u "I"), (16, u "cons"), (0, u "Ljava/io/Console;"), (77, .class_ 110), (1, u "java/lang/System$CallersHolder"), (43, u "initialErrStream"), (0, u "Ljava/io/PrintStream;"), (19, u "security"), (0, u "Ljava/lang/SecurityManager;"), (31, .class_ 209), (0, u "java/lang/System$1"), (7, u "props"), (0, u "Ljava/util/Properties;"), (2, u "lineSeparator"), (0, u "Ljava/lang/String;"), (96, .class_ 321), (1, u "java/lang/System$LoggerFinder"), (5, .class_ 328), (0, u "java/lang/System$Logger"), (67, u "err"), (2, u "out"), (91, u "notSupportedJnuEncoding"), (15, u "in"), (17, u "initialIn"), (0, u "Ljava/io/InputStream;"), (35, u "bootLayer"), (0, u "Ljava/lang/ModuleLayer;"), (99, .class_ 664), (0, u "java/lang/System$2"), (9, u "NEVER"), (2, u "MAYBE"), (49, u "arraycopy"), (0, u "(Ljava/lang/Object;ILjava/lang/Object;II)V"), (72, .class_ 802), (0, u "java/lang/System$Logger$Level")] 31

def k5m0 : Method := { name := "<init>", desc := "()V", sig := { parameters := [], returnType := none }, accessFlags := 2, code := none }
def k5m1 : Method := { name := "arraycopy", desc := "(Ljava/lang/Object;ILjava/lang/Object;II)V", sig := { parameters := [(.object "java/lang/Object"), .int, (.object "java/lang/Object"), .int, .int], returnType := none }, accessFlags := 265, code := none }
/-- java/lang/System -/
def k5 : Class := { plain "java/lang/System" (some 0) with
  accessFlags := 49
  interfaces := #[]
  cf := some (fileOf pool5 8 #[.nestMembers #[319, 327, 801, 108, 663, 208]] #[{ accessFlags := 2, nameIndex := 5, descriptorIndex := 6, attributes := #[] }, { accessFlags := 265, nameIndex := 727, descriptorIndex := 728, attributes := #[] }] 49 2 #[] #[{ accessFlags := 25, nameIndex := 507, descriptorIndex := 526, attributes := #[] }, { accessFlags := 25, nameIndex := 399, descriptorIndex := 155, attributes := #[] }, { accessFlags := 25, nameIndex := 396, descriptorIndex := 155, attributes := #[] }, { accessFlags := 10, nameIndex := 525, descriptorIndex := 526, attributes := #[] }, { accessFlags := 26, nameIndex := 674, descriptorIndex := 12, attributes := #[] }, { accessFlags := 26, nameIndex := 677, descriptorIndex := 12, attributes := #[] }, { accessFlags := 10, nameIndex := 11, descriptorIndex := 12, attributes := #[] }, { accessFlags := 74, nameIndex := 175, descriptorIndex := 176, attributes := #[] }, { accessFlags := 10, nameIndex := 491, descriptorIndex := 222, attributes := #[] }, { accessFlags := 74, nameIndex := 29, descriptorIndex := 30, attributes := #[] }, { accessFlags := 74, nameIndex := 154, descriptorIndex := 155, attributes := #[] }, { accessFlags := 10, nameIndex := 217, descriptorIndex := 218, attributes := #[] }, { accessFlags := 10, nameIndex := 221, descriptorIndex := 222, attributes := #[] }, { accessFlags := 8, nameIndex := 562, descriptorIndex := 563, attributes := #[] }])
  fields := #[{ name := "in", type := (.object "java/io/InputStream"), accessFlags := 25, slot := 0, constantValue := 0 }, { name := "out", type := (.object "java/io/PrintStream"), accessFlags := 25, slot := 1, constantValue := 0 }, { name := "err", type := (.object "java/io/PrintStream"), accessFlags := 25, slot := 2, constantValue := 0 }, { name := "initialIn", type := (.object "java/io/InputStream"), accessFlags := 10, slot := 3, constantValue := 0 }, { name := "NEVER", type := .int, accessFlags := 26, slot := 4, constantValue := 0 }, { name := "MAYBE", type := .int, accessFlags := 26, slot := 5, constantValue := 0 }, { name := "allowSecurityManager", type := .int, accessFlags := 10, slot := 6, constantValue := 0 }, { name := "security", type := (.object "java/lang/SecurityManager"), accessFlags := 74, slot := 7, constantValue := 0 }, { name := "notSupportedJnuEncoding", type := (.object "java/lang/String"), accessFlags := 10, slot := 8, constantValue := 0 }, { name := "cons", type := (.object "java/io/Console"), accessFlags := 74, slot := 9, constantValue := 0 }, { name := "initialErrStream", type := (.object "java/io/PrintStream"), accessFlags := 74, slot := 10, constantValue := 0 }, { name := "props", type := (.object "java/util/Properties"), accessFlags := 10, slot := 11, constantValue := 0 }, { name := "lineSeparator", type := (.object "java/lang/String"), accessFlags := 10, slot := 12, constantValue := 0 }, { name := "bootLayer", type := (.object "java/lang/ModuleLayer"), accessFlags := 8, slot := 13, constantValue := 0 }]
  methods := #[k5m0, k5m1]
  instanceTypes := #[]
  staticTypes := #[(.object "java/io/InputStream"), (.object "java/io/PrintStream"), (.object "java/io/PrintStream"), (.object "java/io/InputStream"), .int, .int, .int, (.object "java/lang/SecurityManager"), (.object "java/lang/String"), (.object "java/io/Console"), (.object "java/io/PrintStream"), (.object "java/util/Properties"), (.object "java/lang/String"), (.object "java/lang/ModuleLayer")]
  resolved := Array.replicate 834 none
  statics := none }

def pool6 : Array CpInfo := pool [(1, u "java/lang/Cloneable"), (0, .class_ 1), (0, u "java/lang/Object"), (0, .class_ 3)] 3

/-- java/lang/Cloneable -/
def k6 : Class := { plain "java/lang/Cloneable" (some 0) with
  accessFlags := 1537
  interfaces := #[]
  cf := some (fileOf pool6 2 #[] #[] 1537 4 #[] #[])
  fields := #[]
  methods := #[]
  instanceTypes := #[]
  staticTypes := #[]
  resolved := Array.replicate 8 none
  statics := none }

def pool7 : Array CpInfo := pool [(1, u "java/io/Serializable"), (0, .class_ 1), (0, u "java/lang/Object"), (0, .class_ 3)] 3

/-- java/io/Serializable -/
def k7 : Class := { plain "java/io/Serializable" (some 0) with
  accessFlags := 1537
  interfaces := #[]
  cf := some (fileOf pool7 2 #[] #[] 1537 4 #[] #[])
  fields := #[]
  methods := #[]
  instanceTypes := #[]
  staticTypes := #[]
  resolved := Array.replicate 8 none
  statics := none }

/-- the primitive byte -/
def k8 : Class := { plain "byte" none with kind := .primitive 'B', accessFlags := 0x411 }
/-- [B -/
def k9 : Class := { plain "[B" (some 0) with kind := .array 8 .byte, interfaces := #[6, 7], accessFlags := 1041 }

/-- the primitive int -/
def k10 : Class := { plain "int" none with kind := .primitive 'I', accessFlags := 0x411 }
/-- [I -/
def k11 : Class := { plain "[I" (some 0) with kind := .array 10 .int, interfaces := #[6, 7], accessFlags := 1041 }

def heap : Heap := #[{ cls := 2, slots := #[.int 0, .ref 1], vm := .statics 2 },
  { cls := 11, slots := #[], vm := .none }]
def classes : Array Class := #[k0, k1, k2, k3, k4, k5, k6, k7, k8, k9, k10, k11]
def interned : List (Array UInt16 × Addr) := []
def slotsUsed : Nat := 2
def theMethod : MethodId := ⟨1, 1⟩
def args0 : Array Value := #[.int 5, .int 6, .int 7, .int 8, .int 9, .int 3]
def aboutOver (below : List Frame) : State where
  vm := { classes := classes, interned := interned.toArray }
  heap := heap
  slotsUsed := slotsUsed
  threads := #[{ frames := .invoking theMethod args0 :: below }]
def below0 : List Frame := [.native { method := ⟨0, 0⟩, args := #[] }]
def about1 : State := aboutOver below0
def p0 : Program := .bare "" "" ""
def e0 : Env := launch0.env 0 0 0
theorem w_frames : about1.frames = Frame.invoking theMethod args0 :: below0 := rfl
set_option maxRecDepth 65536 in
theorem w_args : argsFit about1.vm theMethod args0 = true := by decide +kernel
set_option maxRecDepth 65536 in
theorem w_heap : heapFits about1 = true := by decide +kernel
set_option maxRecDepth 65536 in
theorem w_runnable : about1.curStatus? = some .runnable := by decide +kernel
set_option maxRecDepth 65536 in
theorem w_alone : about1.alone = true := by decide +kernel
set_option maxRecDepth 65536 in
theorem w_named : about1.methodNamed? x = some theMethod := by decide +kernel
set_option maxRecDepth 65536 in
theorem w_hears : about1.hears theMethod below0 = true := by decide +kernel
set_option maxRecDepth 65536 in
theorem w_ripe : about1.ripe theMethod args0 below0 = true := by decide +kernel
theorem w_running : about1.status = .running := rfl
set_option maxRecDepth 65536 in
theorem w_room : about1.hasRoom e0.platform room_1 = true :=
  launch0.hasRoom_least _ room_1 (by decide +kernel) (by decide +kernel) (by decide +kernel) (by decide +kernel) (by decide +kernel) (by decide +kernel)
theorem allAtoms_all (ts : List Jvm.Cond) (a : Array Jvm.Value) (st : Jvm.State) : (allAtoms ts).before a st = ts.all (fun c => c.before a st) := by
  induction ts with
  | nil => rfl
  | cons c t ih =>
    show (Jvm.Cond.and c (allAtoms t)).before a st = _
    rw [Jvm.Cond.before_and, ih, List.all_cons]
def words1 : List Jvm.Cond := Jvm.Cond.code x code maxLocals ret :: tables_1
/-- a 'code' word, met by the world's own term for the bytes: nothing is compared byte by byte -/
theorem code_word {y : MethodName} {bytes : ByteArray} {mx : Nat} {rt : Option FieldType} {a : Array Value} {s : State} {m : MethodId} {meth : Method} {c : Code} (h1 : s.methodNamed? y = some m) (h2 : s.vm.method? m = some meth) (h3 : meth.code = some c) (h4 : c.code = bytes)
    (h5 : (c.maxLocals == mx && c.exceptionTable.isEmpty && decide (c.maxStack ≤ mostOperands) && decide (meth.sig.returnType = rt) && !meth.locks && decide (parseMethodDescriptor y.desc = some meth.sig)) = true) : (Jvm.Cond.code y bytes mx rt).before a s = true := by
  simp only [Bool.and_eq_true, beq_iff_eq, Bool.not_eq_true', decide_eq_true_eq] at h5
  obtain ⟨⟨⟨⟨⟨g1, g2⟩, g3⟩, g4⟩, g5⟩, g6⟩ := h5
  simp [Cond.before, Cond.holds, Cond.value, h1, h2, h3, h4, g1, g2, g3, g4, g5, g6]
def isCode : Jvm.Cond → Bool
  | .code _ _ _ _ => true
  | _ => false
theorem all_split {L : List Jvm.Cond} {P : Jvm.Cond → Bool} (h1 : L.all (fun c => isCode c || P c) = true) (h2 : ∀ c ∈ L.filter isCode, P c = true) : L.all P = true := by
  refine List.all_eq_true.mpr fun c hc => ?_
  have h := List.all_eq_true.mp h1 c hc
  rcases Bool.eq_false_or_eq_true (isCode c) with hi | hi
  · exact h2 c (List.mem_filter.mpr ⟨hc, hi⟩)
  · simpa [hi] using h
set_option maxRecDepth 65536 in
theorem w_c0 : (Jvm.Cond.code x code maxLocals ret).before args0 about1 = true := code_word (m := ⟨1, 1⟩) (meth := k1m1) (c := k1c1) (by decide +kernel) rfl rfl rfl (by decide +kernel)
set_option maxRecDepth 65536 in
theorem w_c1 : (Jvm.Cond.code ({ cls := "com/example/overrule/overrule/engine/IntSet", name := "<init>", desc := "()V" } : Jvm.MethodName) prog_46_method_1_code (1 : Nat) (Option.none : Option Jvm.ClassFile.FieldType)).before args0 about1 = true := code_word (m := ⟨2, 0⟩) (meth := k2m0) (c := k2c0) (by decide +kernel) rfl rfl rfl (by decide +kernel)
set_option maxRecDepth 65536 in
theorem w_c2 : (Jvm.Cond.code ({ cls := "java/lang/Object", name := "<init>", desc := "()V" } : Jvm.MethodName) object_method_1_code (1 : Nat) (Option.none : Option Jvm.ClassFile.FieldType)).before args0 about1 = true := code_word (m := ⟨0, 0⟩) (meth := k0m0) (c := k0c0) (by decide +kernel) rfl rfl rfl (by decide +kernel)
set_option maxRecDepth 65536 in
theorem w_c3 : (Jvm.Cond.code ({ cls := "com/example/overrule/overrule/engine/IntSet", name := "add", desc := "(I)Z" } : Jvm.MethodName) prog_46_method_2_code (4 : Nat) (Option.some Jvm.ClassFile.FieldType.boolean)).before args0 about1 = true := code_word (m := ⟨2, 1⟩) (meth := k2m1) (c := k2c1) (by decide +kernel) rfl rfl rfl (by decide +kernel)
set_option maxRecDepth 65536 in
theorem w_c4 : (Jvm.Cond.code ({ cls := "com/example/overrule/overrule/engine/IntSet", name := "freeSlots", desc := "(I)[I" } : Jvm.MethodName) prog_46_method_11_code (2 : Nat) (Option.some (Jvm.ClassFile.FieldType.array Jvm.ClassFile.FieldType.int))).before args0 about1 = true := code_word (m := ⟨2, 7⟩) (meth := k2m7) (c := k2c7) (by decide +kernel) rfl rfl rfl (by decide +kernel)
set_option maxRecDepth 65536 in
theorem w_c5 : (Jvm.Cond.code ({ cls := "java/util/Arrays", name := "fill", desc := "([II)V" } : Jvm.MethodName) jdk_65_method_103_code (4 : Nat) (Option.none : Option Jvm.ClassFile.FieldType)).before args0 about1 = true := code_word (m := ⟨3, 1⟩) (meth := k3m1) (c := k3c1) (by decide +kernel) rfl rfl rfl (by decide +kernel)
set_option maxRecDepth 65536 in
theorem w_c6 : (Jvm.Cond.code ({ cls := "com/example/overrule/overrule/engine/IntSet", name := "slot", desc := "(II)I" } : Jvm.MethodName) prog_46_method_10_code (3 : Nat) (Option.some Jvm.ClassFile.FieldType.int)).before args0 about1 = true := code_word (m := ⟨2, 6⟩) (meth := k2m6) (c := k2c6) (by decide +kernel) rfl rfl rfl (by decide +kernel)
set_option maxRecDepth 65536 in
theorem w_c7 : (Jvm.Cond.code ({ cls := "com/example/overrule/overrule/engine/IntSet", name := "truncate", desc := "(I)V" } : Jvm.MethodName) prog_46_method_5_code (5 : Nat) (Option.none : Option Jvm.ClassFile.FieldType)).before args0 about1 = true := code_word (m := ⟨2, 3⟩) (meth := k2m3) (c := k2c3) (by decide +kernel) rfl rfl rfl (by decide +kernel)
set_option maxRecDepth 65536 in
theorem w_c8 : (Jvm.Cond.code ({ cls := "com/example/overrule/overrule/engine/IntSet", name := "size", desc := "()I" } : Jvm.MethodName) prog_46_method_6_code (1 : Nat) (Option.some Jvm.ClassFile.FieldType.int)).before args0 about1 = true := code_word (m := ⟨2, 4⟩) (meth := k2m4) (c := k2c4) (by decide +kernel) rfl rfl rfl (by decide +kernel)
set_option maxRecDepth 65536 in
theorem w_c9 : (Jvm.Cond.code ({ cls := "java/lang/Math", name := "min", desc := "(II)I" } : Jvm.MethodName) jdk_29_method_69_code (2 : Nat) (Option.some Jvm.ClassFile.FieldType.int)).before args0 about1 = true := code_word (m := ⟨4, 1⟩) (meth := k4m1) (c := k4c1) (by decide +kernel) rfl rfl rfl (by decide +kernel)
set_option maxRecDepth 65536 in
theorem w_c10 : (Jvm.Cond.code ({ cls := "com/example/overrule/overrule/engine/IntSetTruncatePinLaw", name := "ok", desc := "(Lcom/example/overrule/overrule/engine/IntSet;ZIII)Z" } : Jvm.MethodName) method_3_code (5 : Nat) (Option.some Jvm.ClassFile.FieldType.boolean)).before args0 about1 = true := code_word (m := ⟨1, 2⟩) (meth := k1m2) (c := k1c2) (by decide +kernel) rfl rfl rfl (by decide +kernel)
set_option maxRecDepth 65536 in
theorem w_c11 : (Jvm.Cond.code ({ cls := "com/example/overrule/overrule/engine/IntSet", name := "contains", desc := "(I)Z" } : Jvm.MethodName) prog_46_method_3_code (4 : Nat) (Option.some Jvm.ClassFile.FieldType.boolean)).before args0 about1 = true := code_word (m := ⟨2, 2⟩) (meth := k2m2) (c := k2c2) (by decide +kernel) rfl rfl rfl (by decide +kernel)
set_option maxRecDepth 65536 in
theorem w_c12 : (Jvm.Cond.code ({ cls := "java/util/Arrays", name := "copyOf", desc := "([II)[I" } : Jvm.MethodName) jdk_65_method_123_code (3 : Nat) (Option.some (Jvm.ClassFile.FieldType.array Jvm.ClassFile.FieldType.int))).before args0 about1 = true := code_word (m := ⟨3, 2⟩) (meth := k3m2) (c := k3c2) (by decide +kernel) rfl rfl rfl (by decide +kernel)
set_option maxRecDepth 65536 in
theorem w_c13 : (Jvm.Cond.code ({ cls := "com/example/overrule/overrule/engine/IntSet", name := "rehash", desc := "(I)V" } : Jvm.MethodName) prog_46_method_9_code (5 : Nat) (Option.none : Option Jvm.ClassFile.FieldType)).before args0 about1 = true := code_word (m := ⟨2, 5⟩) (meth := k2m5) (c := k2c5) (by decide +kernel) rfl rfl rfl (by decide +kernel)
def codes1 : List Jvm.Cond := [Jvm.Cond.code x code maxLocals ret, Jvm.Cond.code ({ cls := "com/example/overrule/overrule/engine/IntSet", name := "<init>", desc := "()V" } : Jvm.MethodName) prog_46_method_1_code (1 : Nat) (Option.none : Option Jvm.ClassFile.FieldType), Jvm.Cond.code ({ cls := "java/lang/Object", name := "<init>", desc := "()V" } : Jvm.MethodName) object_method_1_code (1 : Nat) (Option.none : Option Jvm.ClassFile.FieldType), Jvm.Cond.code ({ cls := "com/example/overrule/overrule/engine/IntSet", name := "add", desc := "(I)Z" } : Jvm.MethodName) prog_46_method_2_code (4 : Nat) (Option.some Jvm.ClassFile.FieldType.boolean), Jvm.Cond.code ({ cls := "com/example/overrule/overrule/engine/IntSet", name := "freeSlots", desc := "(I)[I" } : Jvm.MethodName) prog_46_method_11_code (2 : Nat) (Option.some (Jvm.ClassFile.FieldType.array Jvm.ClassFile.FieldType.int)), Jvm.Cond.code ({ cls := "java/util/Arrays", name := "fill", desc := "([II)V" } : Jvm.MethodName) jdk_65_method_103_code (4 : Nat) (Option.none : Option Jvm.ClassFile.FieldType), Jvm.Cond.code ({ cls := "com/example/overrule/overrule/engine/IntSet", name := "slot", desc := "(II)I" } : Jvm.MethodName) prog_46_method_10_code (3 : Nat) (Option.some Jvm.ClassFile.FieldType.int), Jvm.Cond.code ({ cls := "com/example/overrule/overrule/engine/IntSet", name := "truncate", desc := "(I)V" } : Jvm.MethodName) prog_46_method_5_code (5 : Nat) (Option.none : Option Jvm.ClassFile.FieldType), Jvm.Cond.code ({ cls := "com/example/overrule/overrule/engine/IntSet", name := "size", desc := "()I" } : Jvm.MethodName) prog_46_method_6_code (1 : Nat) (Option.some Jvm.ClassFile.FieldType.int), Jvm.Cond.code ({ cls := "java/lang/Math", name := "min", desc := "(II)I" } : Jvm.MethodName) jdk_29_method_69_code (2 : Nat) (Option.some Jvm.ClassFile.FieldType.int), Jvm.Cond.code ({ cls := "com/example/overrule/overrule/engine/IntSetTruncatePinLaw", name := "ok", desc := "(Lcom/example/overrule/overrule/engine/IntSet;ZIII)Z" } : Jvm.MethodName) method_3_code (5 : Nat) (Option.some Jvm.ClassFile.FieldType.boolean), Jvm.Cond.code ({ cls := "com/example/overrule/overrule/engine/IntSet", name := "contains", desc := "(I)Z" } : Jvm.MethodName) prog_46_method_3_code (4 : Nat) (Option.some Jvm.ClassFile.FieldType.boolean), Jvm.Cond.code ({ cls := "java/util/Arrays", name := "copyOf", desc := "([II)[I" } : Jvm.MethodName) jdk_65_method_123_code (3 : Nat) (Option.some (Jvm.ClassFile.FieldType.array Jvm.ClassFile.FieldType.int)), Jvm.Cond.code ({ cls := "com/example/overrule/overrule/engine/IntSet", name := "rehash", desc := "(I)V" } : Jvm.MethodName) prog_46_method_9_code (5 : Nat) (Option.none : Option Jvm.ClassFile.FieldType)]
set_option maxRecDepth 65536 in
theorem codes_eq : words1.filter isCode = codes1 := rfl
theorem w_codes : ∀ c ∈ words1.filter isCode, c.before args0 about1 = true := by
  rw [codes_eq]
  intro c hc
  simp only [codes1, List.mem_cons, List.not_mem_nil, or_false] at hc
  rcases hc with rfl | rfl | rfl | rfl | rfl | rfl | rfl | rfl | rfl | rfl | rfl | rfl | rfl | rfl
  · exact w_c0
  · exact w_c1
  · exact w_c2
  · exact w_c3
  · exact w_c4
  · exact w_c5
  · exact w_c6
  · exact w_c7
  · exact w_c8
  · exact w_c9
  · exact w_c10
  · exact w_c11
  · exact w_c12
  · exact w_c13
set_option maxRecDepth 65536 in
theorem w_t1 : (words1.take 24).all (fun c => isCode c || c.before args0 about1) = true := by decide +kernel
set_option maxRecDepth 65536 in
theorem w_t2 : ((words1.drop 24).take 24).all (fun c => isCode c || c.before args0 about1) = true := by decide +kernel
set_option maxRecDepth 65536 in
theorem w_t3 : ((words1.drop 24).drop 24).all (fun c => isCode c || c.before args0 about1) = true := by decide +kernel
theorem w_tables : (allAtoms (Jvm.Cond.code x code maxLocals ret :: tables_1)).before args0 about1 = true := by
  rw [allAtoms_all]
  show words1.all (fun c => c.before args0 about1) = true
  refine all_split ?_ w_codes
  rw [← List.take_append_drop 24 words1, List.all_append, w_t1, ← List.take_append_drop 24 (words1.drop 24), List.all_append, w_t2, w_t3]
  rfl
set_option maxRecDepth 65536 in
theorem w_case : (Jvm.Cond.and given_1 narrow_1).before args0 about1 = true := by decide +kernel
theorem w_applies : (headSpec (Jvm.Cond.code x code maxLocals ret :: tables_1) room_1).applies x e0.platform about1 = true :=
  (Spec.applies_iff w_frames).mpr ⟨w_running, w_runnable, w_alone, w_named, w_hears, w_ripe, w_room, w_tables⟩
theorem atStart : AtStart classFile x code maxLocals ret World_1 tables_1 room_1 Calls_1 rest_1 Pre_1 launch0 p0 e0 about1 theMethod args0 below0 :=
  ⟨lists_1, trivial, launch0.admits_env _ _ _, launch0.least_env, fairChoices_fair.cas, fairChoices_fair.clock, w_frames, w_args, w_heap, w_applies, trivial, trivial, w_case⟩
end start1
theorem witness_1 : WitnessClaimed_1 := ⟨start1.p0, start1.e0, start1.about1, start1.theMethod, start1.args0, start1.below0, start1.atStart⟩
end Jvm.Pilot.@@N@@
