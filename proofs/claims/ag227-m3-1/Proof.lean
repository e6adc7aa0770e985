import JvmDerived
import JvmDerived.Pilot.@@N@@Statement
import JvmDerived.Pilot.@@N@@Code
set_option linter.unusedVariables false
set_option linter.unusedSimpArgs false
@@BLOCK:NumsL.lean.txt@@
namespace Jvm.Pilot.@@N@@
open Jvm Jvm.ClassFile Sem Op Lib Jvm.Free Jvm.Stand Jvm.LawKit Jvm.RoadKit Bundle Jvm.Pilot.@@N@@.Jvm.D
/-! OWN: the walks' own small calculus: 'Go' says that the run, standing in T with the top frame g, comes to an end that answers; every step carries a Go at the next place back to a Go at this one, so that a walk may fork and join. -/
section Own
variable {p : Program} {l : Launch} {e : Env} {R : Room} {s Z : State} {m : MethodId} {args a0 : Array Value} {below : List Frame} {meth : Method} {c : Code} {T : State} {locs : List Loc} {cells slots : Nat} {h : Heap} {P : Outcome → State → Prop}
/-- what a body must come to -/
def OwnEnd (Q : Option Value → Heap → List Loc → Prop) (s : State) (k n : Nat) (o : Outcome) (t : State) : Prop := ∃ v L, o = .returned v ∧ Q v t.heap L ∧ FrameEnd s o t L k n
def Go (p : Program) (e : Env) (below : List Frame) (P : Outcome → State → Prop) (T : State) (g : JFrame) : Prop := ∃ t o, Steps p.tables e below (T.setTop g) t ∧ t.status = .running ∧ Ended t below o ∧ P o t
theorem Go.of {T' : State} {g g' : JFrame} (k : ∀ t, Steps p.tables e below (T'.setTop g') t → Steps p.tables e below (T.setTop g) t) (K : Go p e below P T' g') : Go p e below P T g := by
  obtain ⟨t, o, h1, h2⟩ := K
  exact ⟨t, o, k t h1, h2⟩
theorem Go.joinI {g : JFrame} (X : Stand p l e R s m args below meth c T locs cells slots) (eT : T.heap = h) (v0 : Int32) (g1 : Int32 → JFrame) (K : (∀ (T' : State) (v : Int32), v = v0 → Stand p l e R s m args below meth c T' locs cells slots → T'.heap = h → Go p e below P T' (g1 v)) → Go p e below P T g)
    (J : ∀ T', Stand p l e R s m args below meth c T' locs cells slots → T'.heap = h → Go p e below P T' (g1 v0)) : Go p e below P T g := K fun T' v q X' e' => q ▸ J T' X' e'
theorem Go.joinJ {g : JFrame} (X : Stand p l e R s m args below meth c T locs cells slots) (eT : T.heap = h) (v0 : Int64) (g1 : Int64 → JFrame) (K : (∀ (T' : State) (v : Int64), v = v0 → Stand p l e R s m args below meth c T' locs cells slots → T'.heap = h → Go p e below P T' (g1 v)) → Go p e below P T g)
    (J : ∀ T', Stand p l e R s m args below meth c T' locs cells slots → T'.heap = h → Go p e below P T' (g1 v0)) : Go p e below P T g := K fun T' v q X' e' => q ▸ J T' X' e'
theorem Go.joinR {g : JFrame} (X : Stand p l e R s m args below meth c T locs cells slots) (eT : T.heap = h) (v0 : Addr) (g1 : Addr → JFrame) (K : (∀ (T' : State) (v : Addr), v = v0 → Stand p l e R s m args below meth c T' locs cells slots → T'.heap = h → Go p e below P T' (g1 v)) → Go p e below P T g)
    (J : ∀ T', Stand p l e R s m args below meth c T' locs cells slots → T'.heap = h → Go p e below P T' (g1 v0)) : Go p e below P T g := K fun T' v q X' e' => q ▸ J T' X' e'
theorem Go.cast {g g' : JFrame} (q : g = g') (K : Go p e below P T g') : Go p e below P T g := q ▸ K
theorem Go.leave (X : Stand p l e R s m args below meth c T locs cells slots) {g : JFrame} {v : Option Value} (hv : meth.sig.returnType = none → v = none) (hlk : meth.locks = false) {Q : Option Value → Heap → List Loc → Prop} {k n : Nat} (hc : cells ≤ k) (hs : slots ≤ n) (hQ : Q v T.heap locs)
    (st : ∀ fs, (∀ (f : JFrame) (acts : List Action), f.method = m → f.locked = none → f.entered = [] → (doReturn e (T.setTop f) acts v).1 = T.setFrames fs) → Steps p.tables e below (T.setTop g) (T.setFrames fs)) : Go p e below (OwnEnd Q s k n) T g := by
  obtain ⟨fs, hr, hrun, hended, hW, hsame⟩ := X.leave hv hlk
  exact ⟨_, _, st fs hr, hrun, hended, _, _, rfl, hQ, ⟨_, rfl⟩, hW, hsame.mono hc hs⟩
theorem Go.retZ (X : Stand p l e R s m args below meth c T locs cells slots) (hx : p.tables.exec = Jvm.exec) {pc pc0 : Nat} {Ls : Array Slot} {z z' : Int32} {rest : List Value} (hret : meth.sig.returnType = some .boolean) (hlk : meth.locks = false) (hd : decode c.code pc0 = .ok (.ireturn, 1)) (hpc : pc = pc0) {Q : Option Value → Heap → List Loc → Prop} {k n : Nat}
    (hz : z &&& 1 = z') (hQ : Q (some (.int z')) T.heap locs) (hc : cells ≤ k) (hs : slots ≤ n) : Go p e below (OwnEnd Q s k n) T (mkF m pc Ls (.int z :: rest)) := by
  subst hz hpc
  exact Go.leave X (v := some (.int (nar .boolean z))) (fun q => by rw [hret] at q; cases q) hlk hc hs hQ fun fs hr => retN X hx (t := .boolean) hret (by simp) hd hr
theorem Go.retW (X : Stand p l e R s m args below meth c T locs cells slots) (hx : p.tables.exec = Jvm.exec) {pc pc0 : Nat} {Ls : Array Slot} {w : Value} {t : FieldType} {i : Instr} {rest : List Value} (hret : meth.sig.returnType = some t) (hlk : meth.locks = false) (hn : narrow t w = w)
    (hi : (i = .ireturn ∧ (t = .int ∨ t = .boolean ∨ t = .byte ∨ t = .char ∨ t = .short) ∧ ∃ z, w = .int z) ∨ (i = .lreturn ∧ t = .long ∧ ∃ z, w = .long z) ∨ (i = .dreturn ∧ t = .double ∧ ∃ z, w = .double z) ∨ (i = .freturn ∧ t = .float ∧ ∃ z, w = .float z) ∨ (i = .areturn ∧ t.isReference = true ∧ w.isRef = true))
    (hd : decode c.code pc0 = .ok (i, 1)) (hpc : pc = pc0) {Q : Option Value → Heap → List Loc → Prop} {k n : Nat} (hQ : Q (some w) T.heap locs) (hc : cells ≤ k) (hs : slots ≤ n) : Go p e below (OwnEnd Q s k n) T (mkF m pc Ls (w :: rest)) := by
  subst hpc
  exact Go.leave X (v := some w) (fun q => by rw [hret] at q; cases q) hlk hc hs hQ fun fs hr => retOut X hx hret hn hi hd hr
theorem Go.retI (X : Stand p l e R s m args below meth c T locs cells slots) (hx : p.tables.exec = Jvm.exec) {pc pc0 : Nat} {Ls : Array Slot} {z : Int32} {rest : List Value} (hret : meth.sig.returnType = some .int) (hlk : meth.locks = false) (hd : decode c.code pc0 = .ok (.ireturn, 1)) (hpc : pc = pc0) {Q : Option Value → Heap → List Loc → Prop} {k n : Nat}
    (hQ : Q (some (.int z)) T.heap locs) (hc : cells ≤ k) (hs : slots ≤ n) : Go p e below (OwnEnd Q s k n) T (mkF m pc Ls (.int z :: rest)) := Go.retW X hx hret hlk rfl (Or.inl ⟨rfl, Or.inl rfl, _, rfl⟩) hd hpc hQ hc hs
theorem Go.retJ (X : Stand p l e R s m args below meth c T locs cells slots) (hx : p.tables.exec = Jvm.exec) {pc pc0 : Nat} {Ls : Array Slot} {z : Int64} {rest : List Value} (hret : meth.sig.returnType = some .long) (hlk : meth.locks = false) (hd : decode c.code pc0 = .ok (.lreturn, 1)) (hpc : pc = pc0) {Q : Option Value → Heap → List Loc → Prop} {k n : Nat}
    (hQ : Q (some (.long z)) T.heap locs) (hc : cells ≤ k) (hs : slots ≤ n) : Go p e below (OwnEnd Q s k n) T (mkF m pc Ls (.long z :: rest)) := Go.retW X hx hret hlk rfl (Or.inr (Or.inl ⟨rfl, rfl, _, rfl⟩)) hd hpc hQ hc hs
theorem Go.retA (X : Stand p l e R s m args below meth c T locs cells slots) (hx : p.tables.exec = Jvm.exec) {pc pc0 : Nat} {Ls : Array Slot} {w : Value} {t : FieldType} {rest : List Value} (hret : meth.sig.returnType = some t) (hlk : meth.locks = false) (ht : t.isReference = true) (hw : w.isRef = true) (hd : decode c.code pc0 = .ok (.areturn, 1)) (hpc : pc = pc0) {Q : Option Value → Heap → List Loc → Prop} {k n : Nat}
    (hQ : Q (some w) T.heap locs) (hc : cells ≤ k) (hs : slots ≤ n) : Go p e below (OwnEnd Q s k n) T (mkF m pc Ls (w :: rest)) := by
  refine Go.retW X hx hret hlk ?_ (Or.inr (Or.inr (Or.inr (Or.inr ⟨rfl, ht, hw⟩)))) hd hpc hQ hc hs
  rcases ref_cases hw with rfl | ⟨a, rfl⟩ <;> cases t <;> first | rfl | (simp [FieldType.isReference] at ht)
theorem Go.retV (X : Stand p l e R s m args below meth c T locs cells slots) (hx : p.tables.exec = Jvm.exec) {pc pc0 : Nat} {Ls : Array Slot} (hret : meth.sig.returnType = none) (hlk : meth.locks = false) (hd : decode c.code pc0 = .ok (.return_, 1)) (hpc : pc = pc0) {Q : Option Value → Heap → List Loc → Prop} {k n : Nat}
    (hQ : Q none T.heap locs) (hc : cells ≤ k) (hs : slots ≤ n) : Go p e below (OwnEnd Q s k n) T (mkF m pc Ls []) := by
  subst hpc
  exact Go.leave X (v := none) (fun _ => rfl) hlk hc hs hQ fun fs hr => X.returnOut hx hret hd hr
/-- a contract of a body: called on these arguments and this heap -/
def Ctr (l : Launch) (Z : State) (y : MethodName) (code : ByteArray) (mx : Nat) (ret : Option FieldType) (Rm : Room) (as' : Array Value) (h : Heap) (Q : Option Value → Heap → List Loc → Prop) : Prop :=
  ∀ ws : List Cond, MetFree l y (head1 (Cond.code y code mx ret :: ws) Rm) (fun a U => a = as' ∧ Z.Warmed39 U.vm ∧ U.heap = h) (fun _ _ _ _ _ => True) (fun _ U o U' => OwnEnd Q U Rm.cells Rm.slots o U')
theorem Ctr.of {y : MethodName} {code : ByteArray} {mx : Nat} {ret : Option FieldType} {Rm : Room} {as' : Array Value} {Q : Option Value → Heap → List Loc → Prop} (hp : plainFor y = true)
    (body : ∀ (p : Program) (e : Env) (s : State) (m : MethodId) (below : List Frame) (meth : Method) (c : Code) (s₁ : State), p.tables.exec = Jvm.exec → c.code = code → c.maxLocals = mx → s.vm.findClass y.cls = some m.cls → meth.name = y.name → meth.sig.returnType = ret → meth.locks = false → Z.Warmed39 s.vm →
      Stand p l e Rm s m as' below meth c s₁ [] 0 0 → s₁.heap = h → Go p e below (OwnEnd Q s Rm.cells Rm.slots) s₁ (entryFrame m as' mx)) : Ctr l Z y code mx ret Rm as' h Q := by
  intro ws
  refine MetFree.of_bodySF hp hisR ?_
  intro p e s m args below meth c s₁ Bd hml hP hK
  obtain ⟨rfl, hZ, hh⟩ := hP
  exact body p e s m below meth c s₁ Bd.exec Bd.bytes hml (findClass_of_methodNamed Bd.named) (name_of_methodNamed Bd.named Bd.method).1 Bd.returns Bd.notSynchronized hZ (Stand.of_body Bd) (by rw [← hh, Bd.state]; rfl)
/-- a body that returns V, writes nothing and makes nothing -/
def Pur (l : Launch) (Z : State) (y : MethodName) (code : ByteArray) (mx : Nat) (ret : Option FieldType) (fr lo : Nat) (as' : Array Value) (h : Heap) (V : Option Value) : Prop :=
  Ctr l Z y code mx ret ({ frames := fr, cells := 0, slots := 0, locals := lo } : Room) as' h fun v h' L => v = V ∧ L = [] ∧ h' = h
theorem Go.callS (X : Stand p l e R s m args below meth c T locs cells slots) (hx : p.tables.exec = Jvm.exec) (hZ : Z.Warmed39 s.vm) {own : String} {index : Nat} {y : MethodName} {bytes : ByteArray} {maxL : Nat} {ret : Option FieldType} (hown : s.vm.findClass own = some m.cls)
    (w1 : (Cond.methodLink own index y).before a0 Z = true) (w2 : (Cond.static y).before a0 Z = true) (w3 : (Cond.initialized y.cls).before a0 Z = true) (w4 : (Cond.code y bytes maxL ret).before a0 Z = true) (hy : y.cls ≠ "java/lang/invoke/MethodHandle" ∧ y.cls ≠ "java/lang/invoke/VarHandle")
    {Rm : Room} {Q : Option Value → Heap → List Loc → Prop} (argsL rest : List Value) (C : Ctr l Z y bytes maxL ret Rm argsL.toArray h Q) (eT : T.heap = h) {pc : Nat} {Ls : Array Slot} {st : List Value} (hst : st = argsL.reverse ++ rest) (hsz : Ls.size = c.maxLocals) {ps : List FieldType} {r : Option FieldType} (hpd : parseMethodDescriptor y.desc = some ⟨ps, r⟩) (hln : argsL.length = ps.length)
    (hd : decode c.code pc = .ok (.invokestatic index, 3)) (hfr : Rm.frames + 1 ≤ R.frames) (hlo : (rest.map fun v => v.category).sum + (maxL + 11) + Rm.locals ≤ R.locals) (hc : cells + Rm.cells ≤ R.cells) (hs : slots + Rm.slots ≤ R.slots)
    (K : ∀ v T' L, Stand p l e R s m args below meth c T' (locs ++ L) (cells + Rm.cells) (slots + Rm.slots) → Q v T'.heap L → Go p e below P T' (mkF m (pc + 3) Ls (v.toList ++ rest))) : Go p e below P T (mkF m pc Ls st) := by
  subst hst
  obtain ⟨v, _, ⟨T', L', k', n'⟩, -, X', ⟨L, hQ, l1, l2, l3⟩, st⟩ := Jvm.LawKit.callS X hx (y := y) hown (mvT hZ w1) (mvT hZ w2) (mvT hZ w3) (mvT hZ w4) hy (backOf (W := (rest.map fun v => v.category).sum) (Q := Q) (C []) hZ w4 w3 hfr hlo) (g := mkF m pc Ls (argsL.reverse ++ rest)) rfl hsz (argsL := argsL) (rest := rest) (lenOf hpd hln) rfl (by show 2 * 0 + _ ≤ _; omega) hd (fun _ _ => ⟨rfl, eT, hc, hs⟩)
  dsimp only [Pt.U, Pt.locs, Pt.cells, Pt.slots] at X' l1 l2 l3 st hQ
  subst l1 l2 l3
  exact Go.of st (K v T' L X' hQ)
theorem Go.pureS (X : Stand p l e R s m args below meth c T locs cells slots) (hx : p.tables.exec = Jvm.exec) (hZ : Z.Warmed39 s.vm) {own : String} {index : Nat} {y : MethodName} {bytes : ByteArray} {maxL : Nat} {ret : Option FieldType} (hown : s.vm.findClass own = some m.cls)
    (w1 : (Cond.methodLink own index y).before a0 Z = true) (w2 : (Cond.static y).before a0 Z = true) (w3 : (Cond.initialized y.cls).before a0 Z = true) (w4 : (Cond.code y bytes maxL ret).before a0 Z = true) (hy : y.cls ≠ "java/lang/invoke/MethodHandle" ∧ y.cls ≠ "java/lang/invoke/VarHandle")
    {fr lo : Nat} {V : Option Value} (argsL rest : List Value) (C : Pur l Z y bytes maxL ret fr lo argsL.toArray h V) (eT : T.heap = h) {pc : Nat} {Ls : Array Slot} {st : List Value} (hst : st = argsL.reverse ++ rest) (hsz : Ls.size = c.maxLocals) {ps : List FieldType} {r : Option FieldType} (hpd : parseMethodDescriptor y.desc = some ⟨ps, r⟩) (hln : argsL.length = ps.length)
    (hd : decode c.code pc = .ok (.invokestatic index, 3)) (hfr : fr + 1 ≤ R.frames) (hlo : (rest.map fun v => v.category).sum + (maxL + 11) + lo ≤ R.locals) (hc : cells ≤ R.cells) (hs : slots ≤ R.slots)
    (K : ∀ T', Stand p l e R s m args below meth c T' locs cells slots → T'.heap = h → Go p e below P T' (mkF m (pc + 3) Ls (V.toList ++ rest))) : Go p e below P T (mkF m pc Ls st) := by
  refine Go.callS X hx hZ hown w1 w2 w3 w4 hy argsL rest C eT hst hsz hpd hln hd hfr hlo hc hs ?_
  rintro v T' L X' ⟨rfl, rfl, e'⟩
  rw [List.append_nil] at X'
  exact K T' X' e'
theorem Go.callV (X : Stand p l e R s m args below meth c T locs cells slots) (hx : p.tables.exec = Jvm.exec) (hZ : Z.Warmed39 s.vm) {own C : String} {index : Nat} {y z : MethodName} {bytes : ByteArray} {maxL : Nat} {ret : Option FieldType} (hown : s.vm.findClass own = some m.cls)
    (w1 : (Cond.methodLink own index y).before a0 Z = true) (w2 : (Cond.declares y).before a0 Z = true) (hnf : NotFace s y) (w3 : (Cond.selects C y z).before a0 Z = true) (w4 : (Cond.instanceMethod z).before a0 Z = true) (w5 : (Cond.initialized z.cls).before a0 Z = true) (w6 : (Cond.code z bytes maxL ret).before a0 Z = true) (hy : y.cls ≠ "java/lang/invoke/MethodHandle" ∧ y.cls ≠ "java/lang/invoke/VarHandle")
    {Rm : Room} {Q : Option Value → Heap → List Loc → Prop} {b : Addr} (argsL rest : List Value) (E : Exa Z h b C) (Ct : Ctr l Z z bytes maxL ret Rm (.ref b :: argsL).toArray h Q) (eT : T.heap = h) {pc : Nat} {Ls : Array Slot} {st : List Value} (hst : st = argsL.reverse ++ .ref b :: rest) (hsz : Ls.size = c.maxLocals) {ps : List FieldType} {r : Option FieldType} (hpd : parseMethodDescriptor y.desc = some ⟨ps, r⟩) (hln : argsL.length = ps.length)
    (hd : decode c.code pc = .ok (.invokevirtual index, 3)) (hfr : Rm.frames + 1 ≤ R.frames) (hlo : (rest.map fun v => v.category).sum + (maxL + 11) + Rm.locals ≤ R.locals) (hc : cells + Rm.cells ≤ R.cells) (hs : slots + Rm.slots ≤ R.slots)
    (K : ∀ v T' L, Stand p l e R s m args below meth c T' (locs ++ L) (cells + Rm.cells) (slots + Rm.slots) → Q v T'.heap L → Go p e below P T' (mkF m (pc + 3) Ls (v.toList ++ rest))) : Go p e below P T (mkF m pc Ls st) := by
  subst hst
  obtain ⟨cq, kq, q1, q2, q3⟩ := isOf hZ eT E
  obtain ⟨v, _, ⟨T', L', k', n'⟩, -, X', ⟨L, hQ, l1, l2, l3⟩, st⟩ := X.virtualBack hx (y := y) (z := z) hown (mvT hZ w1) (mvT hZ w2) hnf (mvT hZ w3) (mvT hZ w4) hy (backOf (W := (rest.map fun v => v.category).sum) (Q := Q) (Ct []) hZ w6 w5 hfr hlo) q1 q3 (g := mkF m pc Ls (argsL.reverse ++ .ref b :: rest)) rfl hsz (Steps.refl _) (argsL := argsL) (rest := rest) (lenOf hpd hln) rfl (by show 2 * 0 + _ ≤ _; omega) hd (fun _ _ => ⟨rfl, eT, hc, hs⟩)
  dsimp only [Pt.U, Pt.locs, Pt.cells, Pt.slots] at X' l1 l2 l3 st hQ
  subst l1 l2 l3
  exact Go.of (fun _ k => st.trans k) (K v T' L X' hQ)
theorem Go.pureV (X : Stand p l e R s m args below meth c T locs cells slots) (hx : p.tables.exec = Jvm.exec) (hZ : Z.Warmed39 s.vm) {own C : String} {index : Nat} {y z : MethodName} {bytes : ByteArray} {maxL : Nat} {ret : Option FieldType} (hown : s.vm.findClass own = some m.cls)
    (w1 : (Cond.methodLink own index y).before a0 Z = true) (w2 : (Cond.declares y).before a0 Z = true) (hnf : NotFace s y) (w3 : (Cond.selects C y z).before a0 Z = true) (w4 : (Cond.instanceMethod z).before a0 Z = true) (w5 : (Cond.initialized z.cls).before a0 Z = true) (w6 : (Cond.code z bytes maxL ret).before a0 Z = true) (hy : y.cls ≠ "java/lang/invoke/MethodHandle" ∧ y.cls ≠ "java/lang/invoke/VarHandle")
    {fr lo : Nat} {V : Option Value} {b : Addr} (argsL rest : List Value) (E : Exa Z h b C) (Ct : Pur l Z z bytes maxL ret fr lo (.ref b :: argsL).toArray h V) (eT : T.heap = h) {pc : Nat} {Ls : Array Slot} {st : List Value} (hst : st = argsL.reverse ++ .ref b :: rest) (hsz : Ls.size = c.maxLocals) {ps : List FieldType} {r : Option FieldType} (hpd : parseMethodDescriptor y.desc = some ⟨ps, r⟩) (hln : argsL.length = ps.length)
    (hd : decode c.code pc = .ok (.invokevirtual index, 3)) (hfr : fr + 1 ≤ R.frames) (hlo : (rest.map fun v => v.category).sum + (maxL + 11) + lo ≤ R.locals) (hc : cells ≤ R.cells) (hs : slots ≤ R.slots)
    (K : ∀ T', Stand p l e R s m args below meth c T' locs cells slots → T'.heap = h → Go p e below P T' (mkF m (pc + 3) Ls (V.toList ++ rest))) : Go p e below P T (mkF m pc Ls st) := by
  refine Go.callV X hx hZ hown w1 w2 hnf w3 w4 w5 w6 hy argsL rest E Ct eT hst hsz hpd hln hd hfr hlo hc hs ?_
  rintro v T' L X' ⟨rfl, rfl, e'⟩
  rw [List.append_nil] at X'
  exact K T' X' e'
theorem Go.callU (X : Stand p l e R s m args below meth c T locs cells slots) (hx : p.tables.exec = Jvm.exec) (hZ : Z.Warmed39 s.vm) {own C ow : String} {index : Nat} {y z : MethodName} {bytes : ByteArray} {maxL : Nat} {ret : Option FieldType} (hown : s.vm.findClass own = some m.cls)
    (w1 : (Cond.methodLink own index y).before a0 Z = true) (w2 : (Cond.sameMethod y.cls ow y.name y.desc).before a0 Z = true) (w2' : (Cond.declares ⟨ow, y.name, y.desc⟩).before a0 Z = true) (w3 : (Cond.selects C y z).before a0 Z = true) (w4 : (Cond.instanceMethod z).before a0 Z = true) (w5 : (Cond.initialized z.cls).before a0 Z = true) (w6 : (Cond.code z bytes maxL ret).before a0 Z = true) (hy : ow ≠ "java/lang/invoke/MethodHandle" ∧ ow ≠ "java/lang/invoke/VarHandle")
    {Rm : Room} {Q : Option Value → Heap → List Loc → Prop} {b : Addr} (argsL rest : List Value) (E : Exa Z h b C) (Ct : Ctr l Z z bytes maxL ret Rm (.ref b :: argsL).toArray h Q) (eT : T.heap = h) {pc : Nat} {Ls : Array Slot} {st : List Value} (hst : st = argsL.reverse ++ .ref b :: rest) (hsz : Ls.size = c.maxLocals) {ps : List FieldType} {r : Option FieldType} (hpd : parseMethodDescriptor y.desc = some ⟨ps, r⟩) (hln : argsL.length = ps.length)
    (hd : decode c.code pc = .ok (.invokevirtual index, 3)) (hfr : Rm.frames + 1 ≤ R.frames) (hlo : (rest.map fun v => v.category).sum + (maxL + 11) + Rm.locals ≤ R.locals) (hc : cells + Rm.cells ≤ R.cells) (hs : slots + Rm.slots ≤ R.slots)
    (K : ∀ v T' L, Stand p l e R s m args below meth c T' (locs ++ L) (cells + Rm.cells) (slots + Rm.slots) → Q v T'.heap L → Go p e below P T' (mkF m (pc + 3) Ls (v.toList ++ rest))) : Go p e below P T (mkF m pc Ls st) := by
  subst hst
  obtain ⟨cq, kq, q1, q2, q3⟩ := isOf hZ eT E
  obtain ⟨v, _, ⟨T', L', k', n'⟩, -, X', ⟨L, hQ, l1, l2, l3⟩, st⟩ := X.virtualBackUp hx (x := y) (y := z) (owner := ow) hown (mvT hZ w1) (mvT hZ w2) (mvT hZ w2') hy (mvT hZ w3) (mvT hZ w4) (backOf (W := (rest.map fun v => v.category).sum) (Q := Q) (Ct []) hZ w6 w5 hfr hlo) q1 q3 (g := mkF m pc Ls (argsL.reverse ++ .ref b :: rest)) rfl hsz (Steps.refl _) (argsL := argsL) (rest := rest) (lenOf hpd hln) rfl (by show 2 * 0 + _ ≤ _; omega) hd (fun _ _ => ⟨rfl, eT, hc, hs⟩)
  dsimp only [Pt.U, Pt.locs, Pt.cells, Pt.slots] at X' l1 l2 l3 st hQ
  subst l1 l2 l3
  exact Go.of (fun _ k => st.trans k) (K v T' L X' hQ)
theorem Go.pureU (X : Stand p l e R s m args below meth c T locs cells slots) (hx : p.tables.exec = Jvm.exec) (hZ : Z.Warmed39 s.vm) {own C ow : String} {index : Nat} {y z : MethodName} {bytes : ByteArray} {maxL : Nat} {ret : Option FieldType} (hown : s.vm.findClass own = some m.cls)
    (w1 : (Cond.methodLink own index y).before a0 Z = true) (w2 : (Cond.sameMethod y.cls ow y.name y.desc).before a0 Z = true) (w2' : (Cond.declares ⟨ow, y.name, y.desc⟩).before a0 Z = true) (w3 : (Cond.selects C y z).before a0 Z = true) (w4 : (Cond.instanceMethod z).before a0 Z = true) (w5 : (Cond.initialized z.cls).before a0 Z = true) (w6 : (Cond.code z bytes maxL ret).before a0 Z = true) (hy : ow ≠ "java/lang/invoke/MethodHandle" ∧ ow ≠ "java/lang/invoke/VarHandle")
    {fr lo : Nat} {V : Option Value} {b : Addr} (argsL rest : List Value) (E : Exa Z h b C) (Ct : Pur l Z z bytes maxL ret fr lo (.ref b :: argsL).toArray h V) (eT : T.heap = h) {pc : Nat} {Ls : Array Slot} {st : List Value} (hst : st = argsL.reverse ++ .ref b :: rest) (hsz : Ls.size = c.maxLocals) {ps : List FieldType} {r : Option FieldType} (hpd : parseMethodDescriptor y.desc = some ⟨ps, r⟩) (hln : argsL.length = ps.length)
    (hd : decode c.code pc = .ok (.invokevirtual index, 3)) (hfr : fr + 1 ≤ R.frames) (hlo : (rest.map fun v => v.category).sum + (maxL + 11) + lo ≤ R.locals) (hc : cells ≤ R.cells) (hs : slots ≤ R.slots)
    (K : ∀ T', Stand p l e R s m args below meth c T' locs cells slots → T'.heap = h → Go p e below P T' (mkF m (pc + 3) Ls (V.toList ++ rest))) : Go p e below P T (mkF m pc Ls st) := by
  refine Go.callU X hx hZ hown w1 w2 w2' w3 w4 w5 w6 hy argsL rest E Ct eT hst hsz hpd hln hd hfr hlo hc hs ?_
  rintro v T' L X' ⟨rfl, rfl, e'⟩
  rw [List.append_nil] at X'
  exact K T' X' e'
theorem Go.callI (X : Stand p l e R s m args below meth c T locs cells slots) (hx : p.tables.exec = Jvm.exec) (hZ : Z.Warmed39 s.vm) {own : String} {index : Nat} {y : MethodName} {bytes : ByteArray} {maxL : Nat} (hyn : y.name = "<init>") (hown : s.vm.findClass own = some m.cls)
    (w1 : (Cond.methodLink own index y).before a0 Z = true) (w2 : (Cond.instanceMethod y).before a0 Z = true) (w3 : (Cond.initialized y.cls).before a0 Z = true) (w4 : (Cond.code y bytes maxL none).before a0 Z = true) (hy : y.cls ≠ "java/lang/invoke/MethodHandle" ∧ y.cls ≠ "java/lang/invoke/VarHandle")
    {Rm : Room} {Q : Option Value → Heap → List Loc → Prop} {b : Addr} (argsL rest : List Value) (C : Ctr l Z y bytes maxL none Rm (.ref b :: argsL).toArray h Q) (eT : T.heap = h) {pc : Nat} {Ls : Array Slot} {st : List Value} (hst : st = argsL.reverse ++ .ref b :: rest) (hsz : Ls.size = c.maxLocals) {ps : List FieldType} {r : Option FieldType} (hpd : parseMethodDescriptor y.desc = some ⟨ps, r⟩) (hln : argsL.length = ps.length)
    (hd : decode c.code pc = .ok (.invokespecial index, 3)) (hfr : Rm.frames + 1 ≤ R.frames) (hlo : (rest.map fun v => v.category).sum + (maxL + 11) + Rm.locals ≤ R.locals) (hc : cells + Rm.cells ≤ R.cells) (hs : slots + Rm.slots ≤ R.slots)
    (K : ∀ v T' L, Stand p l e R s m args below meth c T' (locs ++ L) (cells + Rm.cells) (slots + Rm.slots) → Q v T'.heap L → Go p e below P T' (mkF m (pc + 3) Ls (v.toList ++ rest))) : Go p e below P T (mkF m pc Ls st) := by
  subst hst
  obtain ⟨v, _, ⟨T', L', k', n'⟩, -, X', ⟨L, hQ, l1, l2, l3⟩, st⟩ := X.specialBack hx (y := y) hyn hown (mvT hZ w1) (mvT hZ w2) (mvT hZ w4) hy (backOf (W := (rest.map fun v => v.category).sum) (Q := Q) (C []) hZ w4 w3 hfr hlo) (g := mkF m pc Ls (argsL.reverse ++ .ref b :: rest)) rfl hsz (Steps.refl _) (a := b) (argsL := argsL) (rest := rest) (lenOf hpd hln) rfl (by show 2 * 0 + _ ≤ _; omega) hd (fun _ _ => ⟨rfl, eT, hc, hs⟩)
  dsimp only [Pt.U, Pt.locs, Pt.cells, Pt.slots] at X' l1 l2 l3 st hQ
  subst l1 l2 l3
  exact Go.of (fun _ k => st.trans k) (K v T' L X' hQ)
end Own
theorem own_nf {args : Array Value} {s : State} {C : String} {y y' : MethodName} (hc : y.cls = y'.cls) (hsel : (Cond.selects C y' y').before args s = true) : NotFace s y := fun r0 h0 => by
  obtain ⟨c2, r2, m2, q1, q2, q3, q4, kP, hkP, hkPi⟩ := Cond.selects_spec hsel
  have e1 := findClass_of_methodNamed h0
  have e2 := findClass_of_methodNamed q3
  rw [hc] at e1
  have e3 : r0.cls = m2.cls := Option.some.inj (e1.symm.trans e2)
  exact ⟨kP, e3 ▸ hkP, hkPi⟩
section OwnWords
variable {args : Array Value} {s : State} {a b t i : Term} {v : Value}
theorem own_eqv (g : (Cond.eq a b).value args s none s [] = some true) (hb : b.eval args s none [] s = some v) : a.eval args s none [] s = some v := by
  cases ha : a.eval args s none [] s with
  | none => simp [Cond.value, ha] at g
  | some x => cases x <;> cases v <;> simp [Cond.value, ha, hb] at g ⊢ <;> exact g
theorem own_len {x : Addr} {cl : Cell} {ty : FieldType} {n : Int32} (A : Arr s s.heap x cl ty) (ht : t.eval args s none [] s = some (.ref x)) (g : (Term.length t).eval args s none [] s = some (.int n)) : cl.slots.size < 2 ^ 31 ∧ cl.slots.size.toInt32 = n := by
  have q := A.fin (Vm.Alike.refl _)
  by_cases hl : cl.slots.size < 2 ^ 31
  · refine ⟨hl, ?_⟩
    have e := len_f (args := args) (first := s) (o := none) (idx := []) ht q hl
    exact Value.int.inj (Option.some.inj (e.symm.trans g))
  · simp [Term.eval, ht, q, hl] at g
theorem own_elem {x : Addr} {cl : Cell} {ty : FieldType} {j : Int32} {k : Nat} (A : Arr s s.heap x cl ty) (ht : t.eval args s none [] s = some (.ref x)) (hk : j.toNatClampNeg = k) (g : (Term.elem t (.int j)).eval args s none [] s = some v) : cl.slots[k]? = some v := by
  have e := (elem_in (j := j) (a := .int j) g ht rfl A.1).2
  rw [hk] at e; exact e
end OwnWords
section OwnSteps
variable {p : Program} {l : Launch} {e : Env} {R : Room} {s Z : State} {m : MethodId} {args a0 : Array Value} {below : List Frame} {meth : Method} {c : Code} {T : State} {locs : List Loc} {cells slots : Nat} {h : Heap} {P : Outcome → State → Prop} {pc pc0 : Nat} {Ls : Array Slot} {st : List Value}
theorem Go.iload (X : Stand p l e R s m args below meth c T locs cells slots) (hx : p.tables.exec = Jvm.exec) {k : Nat} {v : Int32} (hd : decode c.code pc0 = .ok (.iload k, 2)) (hpc : pc = pc0) (hl : Ls[k]? = some (.val (.int v))) (K : Go p e below P T (mkF m (pc0 + 2) Ls (.int v :: st))) : Go p e below P T (mkF m pc Ls (st)) := by
  subst hpc
  exact Go.of (fun _ q => XS.iload X.here hx rfl hd hl q) K
theorem Go.iloadN (X : Stand p l e R s m args below meth c T locs cells slots) (hx : p.tables.exec = Jvm.exec) {k : Fin 4} {v : Int32} (hd : decode c.code pc0 = .ok (.iload_n k, 1)) (hpc : pc = pc0) (hl : Ls[k.val]? = some (.val (.int v))) (K : Go p e below P T (mkF m (pc0 + 1) Ls (.int v :: st))) : Go p e below P T (mkF m pc Ls (st)) := by
  subst hpc
  exact Go.of (fun _ q => XS.iloadN X.here hx rfl hd hl q) K
theorem Go.istore (X : Stand p l e R s m args below meth c T locs cells slots) (hx : p.tables.exec = Jvm.exec) {k : Nat} {v : Int32} (hd : decode c.code pc0 = .ok (.istore k, 2)) (hpc : pc = pc0) (l' : Array Slot) (hl : storeLocals Ls k (.int v) = some l') (K : Go p e below P T (mkF m (pc0 + 2) l' (st))) : Go p e below P T (mkF m pc Ls (.int v :: st)) := by
  subst hpc
  exact Go.of (fun _ q => XS.istore X.here hx rfl hd rfl hl q) K
theorem Go.istoreN (X : Stand p l e R s m args below meth c T locs cells slots) (hx : p.tables.exec = Jvm.exec) {k : Fin 4} {v : Int32} (hd : decode c.code pc0 = .ok (.istore_n k, 1)) (hpc : pc = pc0) (l' : Array Slot) (hl : storeLocals Ls k.val (.int v) = some l') (K : Go p e below P T (mkF m (pc0 + 1) l' (st))) : Go p e below P T (mkF m pc Ls (.int v :: st)) := by
  subst hpc
  exact Go.of (fun _ q => XS.istoreN X.here hx rfl hd rfl hl q) K
theorem Go.lload (X : Stand p l e R s m args below meth c T locs cells slots) (hx : p.tables.exec = Jvm.exec) {k : Nat} {v : Int64} (hd : decode c.code pc0 = .ok (.lload k, 2)) (hpc : pc = pc0) (hl : Ls[k]? = some (.val (.long v))) (K : Go p e below P T (mkF m (pc0 + 2) Ls (.long v :: st))) : Go p e below P T (mkF m pc Ls (st)) := by
  subst hpc
  exact Go.of (fun _ q => XS.lload X.here hx rfl hd hl q) K
theorem Go.lloadN (X : Stand p l e R s m args below meth c T locs cells slots) (hx : p.tables.exec = Jvm.exec) {k : Fin 4} {v : Int64} (hd : decode c.code pc0 = .ok (.lload_n k, 1)) (hpc : pc = pc0) (hl : Ls[k.val]? = some (.val (.long v))) (K : Go p e below P T (mkF m (pc0 + 1) Ls (.long v :: st))) : Go p e below P T (mkF m pc Ls (st)) := by
  subst hpc
  exact Go.of (fun _ q => XS.lloadN X.here hx rfl hd hl q) K
theorem Go.lstore (X : Stand p l e R s m args below meth c T locs cells slots) (hx : p.tables.exec = Jvm.exec) {k : Nat} {v : Int64} (hd : decode c.code pc0 = .ok (.lstore k, 2)) (hpc : pc = pc0) (l' : Array Slot) (hl : storeLocals Ls k (.long v) = some l') (K : Go p e below P T (mkF m (pc0 + 2) l' (st))) : Go p e below P T (mkF m pc Ls (.long v :: st)) := by
  subst hpc
  exact Go.of (fun _ q => XS.lstore X.here hx rfl hd rfl hl q) K
theorem Go.lstoreN (X : Stand p l e R s m args below meth c T locs cells slots) (hx : p.tables.exec = Jvm.exec) {k : Fin 4} {v : Int64} (hd : decode c.code pc0 = .ok (.lstore_n k, 1)) (hpc : pc = pc0) (l' : Array Slot) (hl : storeLocals Ls k.val (.long v) = some l') (K : Go p e below P T (mkF m (pc0 + 1) l' (st))) : Go p e below P T (mkF m pc Ls (.long v :: st)) := by
  subst hpc
  exact Go.of (fun _ q => XS.lstoreN X.here hx rfl hd rfl hl q) K
theorem Go.aload (X : Stand p l e R s m args below meth c T locs cells slots) (hx : p.tables.exec = Jvm.exec) {k : Nat} {v : Value} (hd : decode c.code pc0 = .ok (.aload k, 2)) (hpc : pc = pc0) (hl : Ls[k]? = some (.val v)) (hv : v.isRef = true) (K : Go p e below P T (mkF m (pc0 + 2) Ls (v :: st))) : Go p e below P T (mkF m pc Ls (st)) := by
  subst hpc
  exact Go.of (fun _ q => XS.aload X.here hx rfl hd hl hv q) K
theorem Go.aloadN (X : Stand p l e R s m args below meth c T locs cells slots) (hx : p.tables.exec = Jvm.exec) {k : Fin 4} {v : Value} (hd : decode c.code pc0 = .ok (.aload_n k, 1)) (hpc : pc = pc0) (hl : Ls[k.val]? = some (.val v)) (hv : v.isRef = true) (K : Go p e below P T (mkF m (pc0 + 1) Ls (v :: st))) : Go p e below P T (mkF m pc Ls (st)) := by
  subst hpc
  exact Go.of (fun _ q => XS.aloadN X.here hx rfl hd hl hv q) K
theorem Go.astore (X : Stand p l e R s m args below meth c T locs cells slots) (hx : p.tables.exec = Jvm.exec) {k : Nat} {v : Value} (hd : decode c.code pc0 = .ok (.astore k, 2)) (hpc : pc = pc0) (hv : v.isRef = true) (l' : Array Slot) (hl : storeLocals Ls k v = some l') (K : Go p e below P T (mkF m (pc0 + 2) l' (st))) : Go p e below P T (mkF m pc Ls (v :: st)) := by
  subst hpc
  exact Go.of (fun _ q => XS.astore X.here hx rfl hd rfl hv hl q) K
theorem Go.astoreN (X : Stand p l e R s m args below meth c T locs cells slots) (hx : p.tables.exec = Jvm.exec) {k : Fin 4} {v : Value} (hd : decode c.code pc0 = .ok (.astore_n k, 1)) (hpc : pc = pc0) (hv : v.isRef = true) (l' : Array Slot) (hl : storeLocals Ls k.val v = some l') (K : Go p e below P T (mkF m (pc0 + 1) l' (st))) : Go p e below P T (mkF m pc Ls (v :: st)) := by
  subst hpc
  exact Go.of (fun _ q => XS.astoreN X.here hx rfl hd rfl hv hl q) K
theorem Go.iconst (X : Stand p l e R s m args below meth c T locs cells slots) (hx : p.tables.exec = Jvm.exec) {i : Int} (hd : decode c.code pc0 = .ok (.iconst i, 1)) (hpc : pc = pc0) (v : Int32) (hv : Int32.ofInt i = v) (K : Go p e below P T (mkF m (pc0 + 1) Ls (.int v :: st))) : Go p e below P T (mkF m pc Ls (st)) := by
  subst hpc
  subst hv
  exact Go.of (fun _ q => XS.iconst X.here hx rfl hd q) K
theorem Go.bipush (X : Stand p l e R s m args below meth c T locs cells slots) (hx : p.tables.exec = Jvm.exec) {i : Int} (hd : decode c.code pc0 = .ok (.bipush i, 2)) (hpc : pc = pc0) (v : Int32) (hv : (Int8.ofInt i).toInt32 = v) (K : Go p e below P T (mkF m (pc0 + 2) Ls (.int v :: st))) : Go p e below P T (mkF m pc Ls (st)) := by
  subst hpc
  subst hv
  exact Go.of (fun _ q => XS.bipush X.here hx rfl hd q) K
theorem Go.sipush (X : Stand p l e R s m args below meth c T locs cells slots) (hx : p.tables.exec = Jvm.exec) {i : Int} (hd : decode c.code pc0 = .ok (.sipush i, 3)) (hpc : pc = pc0) (v : Int32) (hv : (Int16.ofInt i).toInt32 = v) (K : Go p e below P T (mkF m (pc0 + 3) Ls (.int v :: st))) : Go p e below P T (mkF m pc Ls (st)) := by
  subst hpc
  subst hv
  exact Go.of (fun _ q => XS.sipush X.here hx rfl hd q) K
theorem Go.lconst (X : Stand p l e R s m args below meth c T locs cells slots) (hx : p.tables.exec = Jvm.exec) {k : Fin 2} (hd : decode c.code pc0 = .ok (.lconst k, 1)) (hpc : pc = pc0) (v : Int64) (hv : Int64.ofNat k = v) (K : Go p e below P T (mkF m (pc0 + 1) Ls (.long v :: st))) : Go p e below P T (mkF m pc Ls (st)) := by
  subst hpc
  subst hv
  exact Go.of (fun _ q => XS.lconst X.here hx rfl hd q) K
theorem Go.aconstNull (X : Stand p l e R s m args below meth c T locs cells slots) (hx : p.tables.exec = Jvm.exec)  (hd : decode c.code pc0 = .ok (.aconst_null, 1)) (hpc : pc = pc0)  (K : Go p e below P T (mkF m (pc0 + 1) Ls (.null :: st))) : Go p e below P T (mkF m pc Ls (st)) := by
  subst hpc
  exact Go.of (fun _ q => XS.aconstNull X.here hx rfl hd q) K
theorem Go.iadd (X : Stand p l e R s m args below meth c T locs cells slots) (hx : p.tables.exec = Jvm.exec) {x y : Int32} (hd : decode c.code pc0 = .ok (.iadd, 1)) (hpc : pc = pc0)  (K : Go p e below P T (mkF m (pc0 + 1) Ls (.int (x + y) :: st))) : Go p e below P T (mkF m pc Ls (.int y :: .int x :: st)) := by
  subst hpc
  exact Go.of (fun _ q => XS.iadd X.here hx rfl hd rfl q) K
theorem Go.isub (X : Stand p l e R s m args below meth c T locs cells slots) (hx : p.tables.exec = Jvm.exec) {x y : Int32} (hd : decode c.code pc0 = .ok (.isub, 1)) (hpc : pc = pc0)  (K : Go p e below P T (mkF m (pc0 + 1) Ls (.int (x - y) :: st))) : Go p e below P T (mkF m pc Ls (.int y :: .int x :: st)) := by
  subst hpc
  exact Go.of (fun _ q => XS.isub X.here hx rfl hd rfl q) K
theorem Go.imul (X : Stand p l e R s m args below meth c T locs cells slots) (hx : p.tables.exec = Jvm.exec) {x y : Int32} (hd : decode c.code pc0 = .ok (.imul, 1)) (hpc : pc = pc0)  (K : Go p e below P T (mkF m (pc0 + 1) Ls (.int (x * y) :: st))) : Go p e below P T (mkF m pc Ls (.int y :: .int x :: st)) := by
  subst hpc
  exact Go.of (fun _ q => XS.imul X.here hx rfl hd rfl q) K
theorem Go.iand (X : Stand p l e R s m args below meth c T locs cells slots) (hx : p.tables.exec = Jvm.exec) {x y : Int32} (hd : decode c.code pc0 = .ok (.iand, 1)) (hpc : pc = pc0)  (K : Go p e below P T (mkF m (pc0 + 1) Ls (.int (x &&& y) :: st))) : Go p e below P T (mkF m pc Ls (.int y :: .int x :: st)) := by
  subst hpc
  exact Go.of (fun _ q => XS.iand X.here hx rfl hd rfl q) K
theorem Go.ior (X : Stand p l e R s m args below meth c T locs cells slots) (hx : p.tables.exec = Jvm.exec) {x y : Int32} (hd : decode c.code pc0 = .ok (.ior, 1)) (hpc : pc = pc0)  (K : Go p e below P T (mkF m (pc0 + 1) Ls (.int (x ||| y) :: st))) : Go p e below P T (mkF m pc Ls (.int y :: .int x :: st)) := by
  subst hpc
  exact Go.of (fun _ q => XS.ior X.here hx rfl hd rfl q) K
theorem Go.ixor (X : Stand p l e R s m args below meth c T locs cells slots) (hx : p.tables.exec = Jvm.exec) {x y : Int32} (hd : decode c.code pc0 = .ok (.ixor, 1)) (hpc : pc = pc0)  (K : Go p e below P T (mkF m (pc0 + 1) Ls (.int (x ^^^ y) :: st))) : Go p e below P T (mkF m pc Ls (.int y :: .int x :: st)) := by
  subst hpc
  exact Go.of (fun _ q => XS.ixor X.here hx rfl hd rfl q) K
theorem Go.idiv (X : Stand p l e R s m args below meth c T locs cells slots) (hx : p.tables.exec = Jvm.exec) {x y : Int32} (hd : decode c.code pc0 = .ok (.idiv, 1)) (hpc : pc = pc0) (hy : y ≠ 0) (K : Go p e below P T (mkF m (pc0 + 1) Ls (.int (x / y) :: st))) : Go p e below P T (mkF m pc Ls (.int y :: .int x :: st)) := by
  subst hpc
  exact Go.of (fun _ q => XS.idiv X.here hx rfl hd rfl hy q) K
theorem Go.ineg (X : Stand p l e R s m args below meth c T locs cells slots) (hx : p.tables.exec = Jvm.exec) {x : Int32} (hd : decode c.code pc0 = .ok (.ineg, 1)) (hpc : pc = pc0)  (K : Go p e below P T (mkF m (pc0 + 1) Ls (.int (-x) :: st))) : Go p e below P T (mkF m pc Ls (.int x :: st)) := by
  subst hpc
  exact Go.of (fun _ q => XS.ineg X.here hx rfl hd rfl q) K
theorem Go.ladd (X : Stand p l e R s m args below meth c T locs cells slots) (hx : p.tables.exec = Jvm.exec) {x y : Int64} (hd : decode c.code pc0 = .ok (.ladd, 1)) (hpc : pc = pc0)  (K : Go p e below P T (mkF m (pc0 + 1) Ls (.long (x + y) :: st))) : Go p e below P T (mkF m pc Ls (.long y :: .long x :: st)) := by
  subst hpc
  exact Go.of (fun _ q => XS.ladd X.here hx rfl hd rfl q) K
theorem Go.lsub (X : Stand p l e R s m args below meth c T locs cells slots) (hx : p.tables.exec = Jvm.exec) {x y : Int64} (hd : decode c.code pc0 = .ok (.lsub, 1)) (hpc : pc = pc0)  (K : Go p e below P T (mkF m (pc0 + 1) Ls (.long (x - y) :: st))) : Go p e below P T (mkF m pc Ls (.long y :: .long x :: st)) := by
  subst hpc
  exact Go.of (fun _ q => XS.lsub X.here hx rfl hd rfl q) K
theorem Go.lmul (X : Stand p l e R s m args below meth c T locs cells slots) (hx : p.tables.exec = Jvm.exec) {x y : Int64} (hd : decode c.code pc0 = .ok (.lmul, 1)) (hpc : pc = pc0)  (K : Go p e below P T (mkF m (pc0 + 1) Ls (.long (x * y) :: st))) : Go p e below P T (mkF m pc Ls (.long y :: .long x :: st)) := by
  subst hpc
  exact Go.of (fun _ q => XS.lmul X.here hx rfl hd rfl q) K
theorem Go.land (X : Stand p l e R s m args below meth c T locs cells slots) (hx : p.tables.exec = Jvm.exec) {x y : Int64} (hd : decode c.code pc0 = .ok (.land, 1)) (hpc : pc = pc0)  (K : Go p e below P T (mkF m (pc0 + 1) Ls (.long (x &&& y) :: st))) : Go p e below P T (mkF m pc Ls (.long y :: .long x :: st)) := by
  subst hpc
  exact Go.of (fun _ q => XS.land X.here hx rfl hd rfl q) K
theorem Go.lor (X : Stand p l e R s m args below meth c T locs cells slots) (hx : p.tables.exec = Jvm.exec) {x y : Int64} (hd : decode c.code pc0 = .ok (.lor, 1)) (hpc : pc = pc0)  (K : Go p e below P T (mkF m (pc0 + 1) Ls (.long (x ||| y) :: st))) : Go p e below P T (mkF m pc Ls (.long y :: .long x :: st)) := by
  subst hpc
  exact Go.of (fun _ q => XS.lor X.here hx rfl hd rfl q) K
theorem Go.lxor (X : Stand p l e R s m args below meth c T locs cells slots) (hx : p.tables.exec = Jvm.exec) {x y : Int64} (hd : decode c.code pc0 = .ok (.lxor, 1)) (hpc : pc = pc0)  (K : Go p e below P T (mkF m (pc0 + 1) Ls (.long (x ^^^ y) :: st))) : Go p e below P T (mkF m pc Ls (.long y :: .long x :: st)) := by
  subst hpc
  exact Go.of (fun _ q => XS.lxor X.here hx rfl hd rfl q) K
theorem Go.ldiv (X : Stand p l e R s m args below meth c T locs cells slots) (hx : p.tables.exec = Jvm.exec) {x y : Int64} (hd : decode c.code pc0 = .ok (.ldiv, 1)) (hpc : pc = pc0) (hy : y ≠ 0) (K : Go p e below P T (mkF m (pc0 + 1) Ls (.long (x / y) :: st))) : Go p e below P T (mkF m pc Ls (.long y :: .long x :: st)) := by
  subst hpc
  exact Go.of (fun _ q => XS.ldiv X.here hx rfl hd rfl hy q) K
theorem Go.lneg (X : Stand p l e R s m args below meth c T locs cells slots) (hx : p.tables.exec = Jvm.exec) {x : Int64} (hd : decode c.code pc0 = .ok (.lneg, 1)) (hpc : pc = pc0)  (K : Go p e below P T (mkF m (pc0 + 1) Ls (.long (-x) :: st))) : Go p e below P T (mkF m pc Ls (.long x :: st)) := by
  subst hpc
  exact Go.of (fun _ q => XS.lneg X.here hx rfl hd rfl q) K
theorem Go.irem (X : Stand p l e R s m args below meth c T locs cells slots) (hx : p.tables.exec = Jvm.exec) {x y : Int32} (hd : decode c.code pc0 = .ok (.irem, 1)) (hpc : pc = pc0) (hy : y ≠ 0) (K : Go p e below P T (mkF m (pc0 + 1) Ls (.int (x % y) :: st))) : Go p e below P T (mkF m pc Ls (.int y :: .int x :: st)) := by
  subst hpc
  exact Go.of (fun _ q => iremM X hx rfl hd rfl hy q) K
theorem Go.lrem (X : Stand p l e R s m args below meth c T locs cells slots) (hx : p.tables.exec = Jvm.exec) {x y : Int64} (hd : decode c.code pc0 = .ok (.lrem, 1)) (hpc : pc = pc0) (hy : y ≠ 0) (K : Go p e below P T (mkF m (pc0 + 1) Ls (.long (x - (x / y) * y) :: st))) : Go p e below P T (mkF m pc Ls (.long y :: .long x :: st)) := by
  subst hpc
  exact Go.of (fun _ q => XS.lrem X.here hx rfl hd rfl hy q) K
theorem Go.ishl (X : Stand p l e R s m args below meth c T locs cells slots) (hx : p.tables.exec = Jvm.exec) {x y : Int32} (hd : decode c.code pc0 = .ok (.ishl, 1)) (hpc : pc = pc0)  (K : Go p e below P T (mkF m (pc0 + 1) Ls (.int (x <<< (y &&& 31)) :: st))) : Go p e below P T (mkF m pc Ls (.int y :: .int x :: st)) := by
  subst hpc
  exact Go.of (fun _ q => XS.ishl X.here hx rfl hd rfl q) K
theorem Go.ishr (X : Stand p l e R s m args below meth c T locs cells slots) (hx : p.tables.exec = Jvm.exec) {x y : Int32} (hd : decode c.code pc0 = .ok (.ishr, 1)) (hpc : pc = pc0)  (K : Go p e below P T (mkF m (pc0 + 1) Ls (.int (x >>> (y &&& 31)) :: st))) : Go p e below P T (mkF m pc Ls (.int y :: .int x :: st)) := by
  subst hpc
  exact Go.of (fun _ q => XS.ishr X.here hx rfl hd rfl q) K
theorem Go.iushr (X : Stand p l e R s m args below meth c T locs cells slots) (hx : p.tables.exec = Jvm.exec) {x y : Int32} (hd : decode c.code pc0 = .ok (.iushr, 1)) (hpc : pc = pc0)  (K : Go p e below P T (mkF m (pc0 + 1) Ls (.int ((x.toUInt32 >>> (y &&& 31).toUInt32).toInt32) :: st))) : Go p e below P T (mkF m pc Ls (.int y :: .int x :: st)) := by
  subst hpc
  exact Go.of (fun _ q => XS.iushr X.here hx rfl hd rfl q) K
theorem Go.lshl (X : Stand p l e R s m args below meth c T locs cells slots) (hx : p.tables.exec = Jvm.exec) {x : Int64} {y : Int32} (hd : decode c.code pc0 = .ok (.lshl, 1)) (hpc : pc = pc0)  (K : Go p e below P T (mkF m (pc0 + 1) Ls (.long (x <<< (y &&& 0x3f).toInt64) :: st))) : Go p e below P T (mkF m pc Ls (.int y :: .long x :: st)) := by
  subst hpc
  exact Go.of (fun _ q => XS.lshl X.here hx rfl hd rfl q) K
theorem Go.lshr (X : Stand p l e R s m args below meth c T locs cells slots) (hx : p.tables.exec = Jvm.exec) {x : Int64} {y : Int32} (hd : decode c.code pc0 = .ok (.lshr, 1)) (hpc : pc = pc0)  (K : Go p e below P T (mkF m (pc0 + 1) Ls (.long (x >>> (y &&& 0x3f).toInt64) :: st))) : Go p e below P T (mkF m pc Ls (.int y :: .long x :: st)) := by
  subst hpc
  exact Go.of (fun _ q => XS.lshr X.here hx rfl hd rfl q) K
theorem Go.lushr (X : Stand p l e R s m args below meth c T locs cells slots) (hx : p.tables.exec = Jvm.exec) {x : Int64} {y : Int32} (hd : decode c.code pc0 = .ok (.lushr, 1)) (hpc : pc = pc0)  (K : Go p e below P T (mkF m (pc0 + 1) Ls (.long ((x.toUInt64 >>> (y &&& 0x3f).toInt64.toUInt64).toInt64) :: st))) : Go p e below P T (mkF m pc Ls (.int y :: .long x :: st)) := by
  subst hpc
  exact Go.of (fun _ q => XS.lushr X.here hx rfl hd rfl q) K
theorem Go.i2l (X : Stand p l e R s m args below meth c T locs cells slots) (hx : p.tables.exec = Jvm.exec) {x : Int32} (hd : decode c.code pc0 = .ok (.i2l, 1)) (hpc : pc = pc0)  (K : Go p e below P T (mkF m (pc0 + 1) Ls (.long x.toInt64 :: st))) : Go p e below P T (mkF m pc Ls (.int x :: st)) := by
  subst hpc
  exact Go.of (fun _ q => XS.i2l X.here hx rfl hd rfl q) K
theorem Go.l2i (X : Stand p l e R s m args below meth c T locs cells slots) (hx : p.tables.exec = Jvm.exec) {x : Int64} (hd : decode c.code pc0 = .ok (.l2i, 1)) (hpc : pc = pc0)  (K : Go p e below P T (mkF m (pc0 + 1) Ls (.int x.toInt32 :: st))) : Go p e below P T (mkF m pc Ls (.long x :: st)) := by
  subst hpc
  exact Go.of (fun _ q => XS.l2i X.here hx rfl hd rfl q) K
theorem Go.i2b (X : Stand p l e R s m args below meth c T locs cells slots) (hx : p.tables.exec = Jvm.exec) {x : Int32} (hd : decode c.code pc0 = .ok (.i2b, 1)) (hpc : pc = pc0)  (K : Go p e below P T (mkF m (pc0 + 1) Ls (.int x.toInt8.toInt32 :: st))) : Go p e below P T (mkF m pc Ls (.int x :: st)) := by
  subst hpc
  exact Go.of (fun _ q => XS.i2b X.here hx rfl hd rfl q) K
theorem Go.i2s (X : Stand p l e R s m args below meth c T locs cells slots) (hx : p.tables.exec = Jvm.exec) {x : Int32} (hd : decode c.code pc0 = .ok (.i2s, 1)) (hpc : pc = pc0)  (K : Go p e below P T (mkF m (pc0 + 1) Ls (.int x.toInt16.toInt32 :: st))) : Go p e below P T (mkF m pc Ls (.int x :: st)) := by
  subst hpc
  exact Go.of (fun _ q => XS.i2s X.here hx rfl hd rfl q) K
theorem Go.i2c (X : Stand p l e R s m args below meth c T locs cells slots) (hx : p.tables.exec = Jvm.exec) {x : Int32} (hd : decode c.code pc0 = .ok (.i2c, 1)) (hpc : pc = pc0)  (K : Go p e below P T (mkF m (pc0 + 1) Ls (.int x.toUInt32.toUInt16.toUInt32.toInt32 :: st))) : Go p e below P T (mkF m pc Ls (.int x :: st)) := by
  subst hpc
  exact Go.of (fun _ q => XS.i2c X.here hx rfl hd rfl q) K
theorem Go.lcmp (X : Stand p l e R s m args below meth c T locs cells slots) (hx : p.tables.exec = Jvm.exec) {x y : Int64} (hd : decode c.code pc0 = .ok (.lcmp, 1)) (hpc : pc = pc0)  (K : Go p e below P T (mkF m (pc0 + 1) Ls (.int (lcmpW x y) :: st))) : Go p e below P T (mkF m pc Ls (.long y :: .long x :: st)) := by
  subst hpc
  exact Go.of (fun _ q => XS.lcmp X.here hx rfl hd rfl q) K
theorem Go.dup (X : Stand p l e R s m args below meth c T locs cells slots) (hx : p.tables.exec = Jvm.exec) {x : Value} (hd : decode c.code pc0 = .ok (.dup, 1)) (hpc : pc = pc0) (hc : x.category = 1) (K : Go p e below P T (mkF m (pc0 + 1) Ls (x :: x :: st))) : Go p e below P T (mkF m pc Ls (x :: st)) := by
  subst hpc
  exact Go.of (fun _ q => XS.dup X.here hx rfl hd rfl hc q) K
theorem Go.dupX1 (X : Stand p l e R s m args below meth c T locs cells slots) (hx : p.tables.exec = Jvm.exec) {x y : Value} (hd : decode c.code pc0 = .ok (.dup_x1, 1)) (hpc : pc = pc0) (hc : x.category = 1) (hc' : y.category = 1) (K : Go p e below P T (mkF m (pc0 + 1) Ls (x :: y :: x :: st))) : Go p e below P T (mkF m pc Ls (x :: y :: st)) := by
  subst hpc
  exact Go.of (fun _ q => XS.dupX1 X.here hx rfl hd rfl hc hc' q) K
theorem Go.dup2 (X : Stand p l e R s m args below meth c T locs cells slots) (hx : p.tables.exec = Jvm.exec) {x y : Value} (hd : decode c.code pc0 = .ok (.dup2, 1)) (hpc : pc = pc0) (hc : x.category = 1) (hc' : y.category = 1) (K : Go p e below P T (mkF m (pc0 + 1) Ls (x :: y :: x :: y :: st))) : Go p e below P T (mkF m pc Ls (x :: y :: st)) := by
  subst hpc
  exact Go.of (fun _ q => XT.dup2 X.here hx rfl hd rfl hc hc' q) K
theorem Go.pop (X : Stand p l e R s m args below meth c T locs cells slots) (hx : p.tables.exec = Jvm.exec) {x : Value} (hd : decode c.code pc0 = .ok (.pop, 1)) (hpc : pc = pc0) (hc : x.category = 1) (K : Go p e below P T (mkF m (pc0 + 1) Ls (st))) : Go p e below P T (mkF m pc Ls (x :: st)) := by
  subst hpc
  exact Go.of (fun _ q => XS.pop X.here hx rfl hd rfl hc q) K
theorem Go.iinc (X : Stand p l e R s m args below meth c T locs cells slots) (hx : p.tables.exec = Jvm.exec) {k : Nat} {cst : Int} {x : Int32} (hd : decode c.code pc0 = .ok (.iinc k cst, 3)) (hpc : pc = pc0) (hl : Ls[k]? = some (.val (.int x))) (l' : Array Slot) (hl' : storeLocals Ls k (.int (x + Int32.ofInt cst)) = some l') (K : Go p e below P T (mkF m (pc0 + 3) l' (st))) : Go p e below P T (mkF m pc Ls (st)) := by
  subst hpc
  exact Go.of (fun _ q => XS.iinc X.here hx rfl hd hl hl' q) K
theorem Go.goto (X : Stand p l e R s m args below meth c T locs cells slots) (hx : p.tables.exec = Jvm.exec)  {o : Int} (hd : decode c.code pc0 = .ok (.goto o, 3)) (hpc : pc = pc0) (pc' : Nat)  (ho : 0 ≤ (pc0 : Int) + o) (hp : ((pc0 : Int) + o).toNat = pc') (K : Go p e below P T (mkF m pc' Ls st)) : Go p e below P T (mkF m pc Ls (st)) := by
  subst hpc
  exact Go.of (fun _ q => XS.goto X.here hx rfl rfl hd ho hp q) K
theorem Go.ifYes (X : Stand p l e R s m args below meth c T locs cells slots) (hx : p.tables.exec = Jvm.exec) {cd : ClassFile.Cond} {x : Int32} {o : Int} (hd : decode c.code pc0 = .ok (.ifCond cd o, 3)) (hpc : pc = pc0) (pc' : Nat) (hc : ifCond.holds cd x = true) (ho : 0 ≤ (pc0 : Int) + o) (hp : ((pc0 : Int) + o).toNat = pc') (K : Go p e below P T (mkF m pc' Ls st)) : Go p e below P T (mkF m pc Ls (.int x :: st)) := by
  subst hpc
  exact Go.of (fun _ q => XS.ifYes X.here hx rfl rfl hd rfl hc ho hp q) K
theorem Go.icmpYes (X : Stand p l e R s m args below meth c T locs cells slots) (hx : p.tables.exec = Jvm.exec) {cd : ClassFile.Cond} {x y : Int32} {o : Int} (hd : decode c.code pc0 = .ok (.if_icmp cd o, 3)) (hpc : pc = pc0) (pc' : Nat) (hc : if_icmp.holds cd x y = true) (ho : 0 ≤ (pc0 : Int) + o) (hp : ((pc0 : Int) + o).toNat = pc') (K : Go p e below P T (mkF m pc' Ls st)) : Go p e below P T (mkF m pc Ls (.int y :: .int x :: st)) := by
  subst hpc
  exact Go.of (fun _ q => XS.icmpYes X.here hx rfl rfl hd rfl hc ho hp q) K
theorem Go.ifnullYes (X : Stand p l e R s m args below meth c T locs cells slots) (hx : p.tables.exec = Jvm.exec)  {o : Int} (hd : decode c.code pc0 = .ok (.ifnull o, 3)) (hpc : pc = pc0) (pc' : Nat)  (ho : 0 ≤ (pc0 : Int) + o) (hp : ((pc0 : Int) + o).toNat = pc') (K : Go p e below P T (mkF m pc' Ls st)) : Go p e below P T (mkF m pc Ls (.null :: st)) := by
  subst hpc
  exact Go.of (fun _ q => XS.ifnullYes X.here hx rfl rfl hd rfl ho hp q) K
theorem Go.ifnonnullYes (X : Stand p l e R s m args below meth c T locs cells slots) (hx : p.tables.exec = Jvm.exec) {b : Addr} {o : Int} (hd : decode c.code pc0 = .ok (.ifnonnull o, 3)) (hpc : pc = pc0) (pc' : Nat)  (ho : 0 ≤ (pc0 : Int) + o) (hp : ((pc0 : Int) + o).toNat = pc') (K : Go p e below P T (mkF m pc' Ls st)) : Go p e below P T (mkF m pc Ls (.ref b :: st)) := by
  subst hpc
  exact Go.of (fun _ q => XS.ifnonnullYes X.here hx rfl rfl hd rfl ho hp q) K
theorem Go.ifNo (X : Stand p l e R s m args below meth c T locs cells slots) (hx : p.tables.exec = Jvm.exec) {cd : ClassFile.Cond} {o : Int} {x : Int32} (hd : decode c.code pc0 = .ok (.ifCond cd o, 3)) (hpc : pc = pc0) (hc : ifCond.holds cd x = false) (K : Go p e below P T (mkF m (pc0 + 3) Ls (st))) : Go p e below P T (mkF m pc Ls (.int x :: st)) := by
  subst hpc
  exact Go.of (fun _ q => XS.ifNo X.here hx rfl hd rfl hc q) K
theorem Go.icmpNo (X : Stand p l e R s m args below meth c T locs cells slots) (hx : p.tables.exec = Jvm.exec) {cd : ClassFile.Cond} {o : Int} {x y : Int32} (hd : decode c.code pc0 = .ok (.if_icmp cd o, 3)) (hpc : pc = pc0) (hc : if_icmp.holds cd x y = false) (K : Go p e below P T (mkF m (pc0 + 3) Ls (st))) : Go p e below P T (mkF m pc Ls (.int y :: .int x :: st)) := by
  subst hpc
  exact Go.of (fun _ q => XS.icmpNo X.here hx rfl hd rfl hc q) K
theorem Go.ifnullNo (X : Stand p l e R s m args below meth c T locs cells slots) (hx : p.tables.exec = Jvm.exec) {o : Int} {b : Addr} (hd : decode c.code pc0 = .ok (.ifnull o, 3)) (hpc : pc = pc0)  (K : Go p e below P T (mkF m (pc0 + 3) Ls (st))) : Go p e below P T (mkF m pc Ls (.ref b :: st)) := by
  subst hpc
  exact Go.of (fun _ q => XS.ifnullNo X.here hx rfl hd rfl q) K
theorem Go.ifnonnullNo (X : Stand p l e R s m args below meth c T locs cells slots) (hx : p.tables.exec = Jvm.exec) {o : Int} (hd : decode c.code pc0 = .ok (.ifnonnull o, 3)) (hpc : pc = pc0)  (K : Go p e below P T (mkF m (pc0 + 3) Ls (st))) : Go p e below P T (mkF m pc Ls (.null :: st)) := by
  subst hpc
  exact Go.of (fun _ q => XS.ifnonnullNo X.here hx rfl hd rfl q) K
theorem Go.acmp (X : Stand p l e R s m args below meth c T locs cells slots) (hx : p.tables.exec = Jvm.exec) {cd : ACond} {x y : Value} {o : Int} (hd : decode c.code pc0 = .ok (.if_acmp cd o, 3)) (hpc : pc = pc0) (h1 : x.isRef = true) (h2 : y.isRef = true) (same : Bool) (hq : decide (x = y) = same) (pc' : Nat) (ho : 0 ≤ (pc0 : Int) + o) (hp : pc' = if acV cd same = true then ((pc0 : Int) + o).toNat else pc0 + 3) (K : Go p e below P T (mkF m pc' Ls st)) : Go p e below P T (mkF m pc Ls (y :: x :: st)) := by
  subst hpc
  exact Go.of (fun _ q => Jvm.RoadKit.acmp X hx rfl h1 h2 rfl hd rfl hq ho hp q) K
theorem Go.tswIn (X : Stand p l e R s m args below meth c T locs cells slots) (hx : p.tables.exec = Jvm.exec) {dflt low high : Int} {offs : Array Int} {len : Nat} {o : Int} {i : Int32} (hd : decode c.code pc0 = .ok (.tableswitch dflt low high offs, len)) (hpc : pc = pc0) (pc' : Nat) (hin : ¬ (i.toInt < low ∨ i.toInt > high)) (hoff : offs[(i.toInt - low).toNat]? = some o) (ho : 0 ≤ (pc0 : Int) + o) (hp : ((pc0 : Int) + o).toNat = pc') (K : Go p e below P T (mkF m pc' Ls st)) : Go p e below P T (mkF m pc Ls (.int i :: st)) := by
  subst hpc
  exact Go.of (fun _ q => XS.tswIn X.here hx rfl rfl hd rfl hin hoff ho hp q) K
theorem Go.ldc (X : Stand p l e R s m args below meth c T locs cells slots) (hx : p.tables.exec = Jvm.exec) (hZ : Z.Warmed39 s.vm) {own : String} {index : Nat} (hown : s.vm.findClass own = some m.cls) {v : Int32} (w : (Cond.constant own index v).before a0 Z = true) (hd : decode c.code pc0 = .ok (.ldc index, 2)) (hpc : pc = pc0) (K : Go p e below P T (mkF m (pc0 + 2) Ls (.int v :: st))) : Go p e below P T (mkF m pc Ls st) := by
  subst hpc
  exact Go.of (fun _ q => X.ldcInt hx hown (mvT hZ w) (g := mkF m pc Ls st) rfl hd _ q) K
theorem Go.ldc_w (X : Stand p l e R s m args below meth c T locs cells slots) (hx : p.tables.exec = Jvm.exec) (hZ : Z.Warmed39 s.vm) {own : String} {index : Nat} (hown : s.vm.findClass own = some m.cls) {v : Int32} (w : (Cond.constant own index v).before a0 Z = true) (hd : decode c.code pc0 = .ok (.ldc_w index, 3)) (hpc : pc = pc0) (K : Go p e below P T (mkF m (pc0 + 3) Ls (.int v :: st))) : Go p e below P T (mkF m pc Ls st) := by
  subst hpc
  exact Go.of (fun _ q => X.ldcwInt hx hown (mvT hZ w) (g := mkF m pc Ls st) rfl hd _ q) K
theorem Go.ldc2_w (X : Stand p l e R s m args below meth c T locs cells slots) (hx : p.tables.exec = Jvm.exec) (hZ : Z.Warmed39 s.vm) {own : String} {index : Nat} (hown : s.vm.findClass own = some m.cls) {v : Int64} (w : (Cond.constantLong own index v).before a0 Z = true) (hd : decode c.code pc0 = .ok (.ldc2_w index, 3)) (hpc : pc = pc0) (K : Go p e below P T (mkF m (pc0 + 3) Ls (.long v :: st))) : Go p e below P T (mkF m pc Ls st) := by
  subst hpc
  exact Go.of (fun _ q => X.ldc2Long hx hown (mvT hZ w) (g := mkF m pc Ls st) rfl hd _ q) K
theorem Go.getS (X : Stand p l e R s m args below meth c T locs cells slots) (hx : p.tables.exec = Jvm.exec) (hZ : Z.Warmed39 s.vm) {own : String} {index : Nat} (hown : s.vm.findClass own = some m.cls) {R0 O n d host : String} {v : Value} (w : (Cond.fieldLink own index R0 n d).before a0 Z = true ∨ (Cond.fieldLinkNest own index R0 n d host).before a0 Z = true) (via : Via Z R0 O n d) (eT : T.heap = h) (F : Sta Z h O n d v) (hd : decode c.code pc0 = .ok (.getstatic index, 3)) (hpc : pc = pc0) (K : ∀ T', Stand p l e R s m args below meth c T' locs cells slots → T'.heap = h → Go p e below P T' (mkF m (pc0 + 3) Ls (v :: st))) : Go p e below P T (mkF m pc Ls st) := by
  subst hpc
  obtain ⟨T', X', e', q⟩ := getS2 X hx hZ hown w via eT F (g := mkF m pc Ls st) rfl hd
  exact Go.of q (K T' X' e')
theorem Go.getF (X : Stand p l e R s m args below meth c T locs cells slots) (hx : p.tables.exec = Jvm.exec) (hZ : Z.Warmed39 s.vm) {own : String} {index : Nat} (hown : s.vm.findClass own = some m.cls) {R0 O n d host : String} {a : Addr} {v : Value} (w : (Cond.fieldLink own index R0 n d).before a0 Z = true ∨ (Cond.fieldLinkNest own index R0 n d host).before a0 Z = true) (via : Via Z R0 O n d) (eT : T.heap = h) (F : Fld Z h a O n d v) (hd : decode c.code pc0 = .ok (.getfield index, 3)) (hpc : pc = pc0) (K : ∀ T', Stand p l e R s m args below meth c T' locs cells slots → T'.heap = h → Go p e below P T' (mkF m (pc0 + 3) Ls (v :: st))) : Go p e below P T (mkF m pc Ls (.ref a :: st)) := by
  subst hpc
  obtain ⟨T', X', e', q⟩ := Jvm.RoadKit.getF X hx hZ hown w via eT F (g := mkF m pc Ls (.ref a :: st)) rfl rfl hd
  exact Go.of q (K T' X' e')
theorem Go.putF (X : Stand p l e R s m args below meth c T locs cells slots) (hx : p.tables.exec = Jvm.exec) (hZ : Z.Warmed39 s.vm) {own : String} {index : Nat} (hown : s.vm.findClass own = some m.cls) {R0 O n d host C : String} {kk : Nat} {a : Addr} {v old : Value} {ty : FieldType} (w : (Cond.fieldLink own index R0 n d).before a0 Z = true ∨ (Cond.fieldLinkNest own index R0 n d host).before a0 Z = true) (via : Via Z R0 O n d) (eT : T.heap = h) (F : Fld Z h a O n d old) (E : Exa Z h a C) (L : (Cond.lays C O n d).before a0 Z = true ∨ ((Cond.laysFinal C O n d).before a0 Z = true ∧ own = O ∧ meth.name = "<init>")) (wi : (Cond.instantiable C kk).before a0 Z = true) (hty : parseFieldDescriptor d = some ty) (hn : narrow ty v = v) (hf : fits ty v = true) (hd : decode c.code pc0 = .ok (.putfield index, 3)) (hpc : pc = pc0)
    (K : ∀ T' h', Stand p l e R s m args below meth c T' (locs ++ [⟨a, Jvm.RoadKit.slotOf Z O n d⟩]) cells slots → T'.heap = h' → Wr h h' a (Jvm.RoadKit.slotOf Z O n d) v → Fld Z h' a O n d v → Go p e below P T' (mkF m (pc0 + 3) Ls st)) : Go p e below P T (mkF m pc Ls (v :: .ref a :: st)) := by
  subst hpc
  obtain ⟨T', h', X', e', W, q⟩ := Jvm.RoadKit.putF X hx hZ hown w via eT F E L wi hty hn hf (g := mkF m pc Ls (v :: .ref a :: st)) rfl rfl hd
  exact Go.of q (K T' h' X' e' W (F.same W))
theorem Go.newO (X : Stand p l e R s m args below meth c T locs cells slots) (hx : p.tables.exec = Jvm.exec) (hZ : Z.Warmed39 s.vm) {own : String} {index : Nat} (hown : s.vm.findClass own = some m.cls) {C : String} {n : Nat} (w : (Cond.classLink own index C).before a0 Z = true) (wi : (Cond.instantiable C n).before a0 Z = true) (wz : (Cond.initialized C).before a0 Z = true) (eT : T.heap = h) (hd : decode c.code pc0 = .ok (.new index, 3)) (hpc : pc = pc0) (hc : cells + 1 ≤ R.cells) (hl : slots + n ≤ R.slots)
    (K : ∀ T' h' b, b = h.size → Stand p l e R s m args below meth c T' locs (cells + 1) (slots + n) → T'.heap = h' → Ext h h' → Exa Z h' b C → (∀ {O nm d : String} {ty : FieldType}, Laid Z a0 C O nm d → parseFieldDescriptor d = some ty → Fld Z h' b O nm d (defaultValue ty)) → Go p e below P T' (mkF m (pc0 + 3) Ls (.ref b :: st))) : Go p e below P T (mkF m pc Ls st) := by
  subst hpc
  obtain ⟨T', h', X', e', E, A, D, -, q⟩ := Jvm.RoadKit.newO X hx hZ hown w wi wz eT (g := mkF m pc Ls st) rfl hd hc hl
  exact Go.of q (K T' h' _ rfl X' e' E A D)
theorem Go.initO (X : Stand p l e R s m args below meth c T locs cells slots) (hx : p.tables.exec = Jvm.exec) (hZ : Z.Warmed39 s.vm) {own : String} {index : Nat} (hown : s.vm.findClass own = some m.cls) (w1 : (Cond.methodLink own index Lib.objectInit).before a0 Z = true) (w2 : (Cond.instanceMethod Lib.objectInit).before a0 Z = true) (w3 : (Cond.code Lib.objectInit ⟨#[0xb1]⟩ 1 none).before a0 Z = true) (eT : T.heap = h) (hsz : Ls.size = c.maxLocals) {a : Addr} (hd : decode c.code pc0 = .ok (.invokespecial index, 3)) (hpc : pc = pc0) (hf : 1 ≤ R.frames) (hl : (st.map fun v => v.category).sum + 12 ≤ R.locals) (K : ∀ T', Stand p l e R s m args below meth c T' locs cells slots → T'.heap = h → Go p e below P T' (mkF m (pc0 + 3) Ls (st))) : Go p e below P T (mkF m pc Ls (.ref a :: st)) := by
  subst hpc
  obtain ⟨T', X', e', q⟩ := Jvm.RoadKit.initO X hx hZ hown w1 w2 w3 eT (g := mkF m pc Ls (.ref a :: st)) rfl hsz rfl hd hf (W := (st.map fun v => v.category).sum) (by show 2 * 0 + _ ≤ _; omega) hl
  exact Go.of q (K T' X' e')
theorem Go.alen (X : Stand p l e R s m args below meth c T locs cells slots) (hx : p.tables.exec = Jvm.exec) (hZ : Z.Warmed39 s.vm) {a : Addr} {k : ClassId} {ty : FieldType} {n : Int32} {vs : List Value} {dv : Value} (A : Arv Z h a k ty n vs dv) (eT : T.heap = h) (hd : decode c.code pc0 = .ok (.arraylength, 1)) (hpc : pc = pc0) (K : Go p e below P T (mkF m (pc0 + 1) Ls (.int n :: st))) : Go p e below P T (mkF m pc Ls (.ref a :: st)) := by
  subst hpc
  obtain ⟨cl, Ar, -, Sz, Ng, -, -⟩ := A
  refine Go.of (fun _ q => X.arraylength hx (by rw [eT]; exact Ar.1) (State.isArrayOf_alike hZ.alike Ar.2.1) (g := mkF m pc Ls (.ref a :: st)) rfl rfl hd _ q) ?_
  rw [len_of Sz Ng]
  exact K
theorem Go.iaload (X : Stand p l e R s m args below meth c T locs cells slots) (hx : p.tables.exec = Jvm.exec) (hZ : Z.Warmed39 s.vm) {a : Addr} {k : ClassId} {n : Int32} {vs : List Value} {dv : Value} {j : Int32} (v : Value) (A : Arv Z h a k .int n vs dv) (eT : T.heap = h) (hj : ¬ j < 0 ∧ j < n) (hv : vs.getD j.toNatClampNeg dv = v) (hd : decode c.code pc0 = .ok (.iaload, 1)) (hpc : pc = pc0) (K : Go p e below P T (mkF m (pc0 + 1) Ls (v :: st))) : Go p e below P T (mkF m pc Ls (.int j :: .ref a :: st)) := by
  subst hpc
  obtain ⟨cl, Ar, -, Sz, Ng, Hs, -⟩ := A
  have hin : ¬ (j < 0 ∨ cl.slots.size ≤ j.toNatClampNeg) := inb_of Sz hj
  exact Go.of (fun _ q => X.iaload hx (j := j) (v := v) (by rw [eT]; exact Ar.1) (State.isArrayOf_alike hZ.alike Ar.2.1) Ar.2.2 hin (Has.at Hs hin hv) (g := mkF m pc Ls (.int j :: .ref a :: st)) rfl rfl hd _ q) K
theorem Go.laload (X : Stand p l e R s m args below meth c T locs cells slots) (hx : p.tables.exec = Jvm.exec) (hZ : Z.Warmed39 s.vm) {a : Addr} {k : ClassId} {n : Int32} {vs : List Value} {dv : Value} {j : Int32} (v : Value) (A : Arv Z h a k .long n vs dv) (eT : T.heap = h) (hj : ¬ j < 0 ∧ j < n) (hv : vs.getD j.toNatClampNeg dv = v) (hd : decode c.code pc0 = .ok (.laload, 1)) (hpc : pc = pc0) (K : Go p e below P T (mkF m (pc0 + 1) Ls (v :: st))) : Go p e below P T (mkF m pc Ls (.int j :: .ref a :: st)) := by
  subst hpc
  obtain ⟨cl, Ar, -, Sz, Ng, Hs, -⟩ := A
  have hin : ¬ (j < 0 ∨ cl.slots.size ≤ j.toNatClampNeg) := inb_of Sz hj
  exact Go.of (fun _ q => X.laload hx (j := j) (v := v) (by rw [eT]; exact Ar.1) (State.isArrayOf_alike hZ.alike Ar.2.1) Ar.2.2 hin (Has.at Hs hin hv) (g := mkF m pc Ls (.int j :: .ref a :: st)) rfl rfl hd _ q) K
theorem Go.aaload (X : Stand p l e R s m args below meth c T locs cells slots) (hx : p.tables.exec = Jvm.exec) (hZ : Z.Warmed39 s.vm) {a : Addr} {k : ClassId} {ty : FieldType} {n : Int32} {vs : List Value} {dv : Value} {j : Int32} (v : Value) (A : Arv Z h a k ty n vs dv) (eT : T.heap = h) (hty : ty.isReference = true) (hj : ¬ j < 0 ∧ j < n) (hv : vs.getD j.toNatClampNeg dv = v) (hd : decode c.code pc0 = .ok (.aaload, 1)) (hpc : pc = pc0) (K : Go p e below P T (mkF m (pc0 + 1) Ls (v :: st))) : Go p e below P T (mkF m pc Ls (.int j :: .ref a :: st)) := by
  subst hpc
  obtain ⟨cl, Ar, -, Sz, Ng, Hs, -⟩ := A
  have hin : ¬ (j < 0 ∨ cl.slots.size ≤ j.toNatClampNeg) := inb_of Sz hj
  exact Go.of (fun _ q => X.aaload hx (j := j) (v := v) (by rw [eT]; exact Ar.1) (State.isArrayOf_alike hZ.alike Ar.2.1) hty Ar.2.2 hin (Has.at Hs hin hv) (g := mkF m pc Ls (.int j :: .ref a :: st)) rfl rfl hd _ q) K
theorem Go.iastore (X : Stand p l e R s m args below meth c T locs cells slots) (hx : p.tables.exec = Jvm.exec) (hZ : Z.Warmed39 s.vm) {a : Addr} {k : ClassId} {n : Int32} {vs : List Value} {dv : Value} {j : Int32} {x : Int32} (A : Arv Z h a k .int n vs dv) (eT : T.heap = h) (hj : ¬ j < 0 ∧ j < n) (i : Nat) (hi : j.toNatClampNeg = i) (hl : i < vs.length) (hd : decode c.code pc0 = .ok (.iastore, 1)) (hpc : pc = pc0)
    (K : ∀ T' h', Stand p l e R s m args below meth c T' (locs ++ [⟨a, j.toNatClampNeg⟩]) cells slots → T'.heap = h' → Wr h h' a j.toNatClampNeg (.int x) → Arv Z h' a k .int n (vs.set i (.int x)) dv → Go p e below P T' (mkF m (pc0 + 1) Ls st)) : Go p e below P T (mkF m pc Ls (.int x :: .int j :: .ref a :: st)) := by
  subst hpc
  obtain ⟨cl, Ar, cq, Sz, Ng, Hs, Gs⟩ := A
  have hin : ¬ (j < 0 ∨ cl.slots.size ≤ j.toNatClampNeg) := inb_of Sz hj
  obtain ⟨T', h', X', e', W, q⟩ := stI X hx hZ eT Ar (j := j) hin (g := mkF m pc Ls (.int x :: .int j :: .ref a :: st)) rfl rfl hd
  exact Go.of q (K T' h' X' e' W (Arv.set Ar cq Sz Ng Hs Gs rfl W i hi hl))
theorem Go.lastore (X : Stand p l e R s m args below meth c T locs cells slots) (hx : p.tables.exec = Jvm.exec) (hZ : Z.Warmed39 s.vm) {a : Addr} {k : ClassId} {n : Int32} {vs : List Value} {dv : Value} {j : Int32} {x : Int64} (A : Arv Z h a k .long n vs dv) (eT : T.heap = h) (hj : ¬ j < 0 ∧ j < n) (i : Nat) (hi : j.toNatClampNeg = i) (hl : i < vs.length) (hd : decode c.code pc0 = .ok (.lastore, 1)) (hpc : pc = pc0)
    (K : ∀ T' h', Stand p l e R s m args below meth c T' (locs ++ [⟨a, j.toNatClampNeg⟩]) cells slots → T'.heap = h' → Wr h h' a j.toNatClampNeg (.long x) → Arv Z h' a k .long n (vs.set i (.long x)) dv → Go p e below P T' (mkF m (pc0 + 1) Ls st)) : Go p e below P T (mkF m pc Ls (.long x :: .int j :: .ref a :: st)) := by
  subst hpc
  obtain ⟨cl, Ar, cq, Sz, Ng, Hs, Gs⟩ := A
  have hin : ¬ (j < 0 ∨ cl.slots.size ≤ j.toNatClampNeg) := inb_of Sz hj
  obtain ⟨T', h', X', e', W, q⟩ := stJ X hx hZ eT Ar (j := j) hin (g := mkF m pc Ls (.long x :: .int j :: .ref a :: st)) rfl rfl hd
  exact Go.of q (K T' h' X' e' W (Arv.set Ar cq Sz Ng Hs Gs rfl W i hi hl))
theorem Go.aastore (X : Stand p l e R s m args below meth c T locs cells slots) (hx : p.tables.exec = Jvm.exec) (hZ : Z.Warmed39 s.vm) {a : Addr} {k : ClassId} {ty : FieldType} {n : Int32} {vs : List Value} {dv : Value} {j : Int32} {v : Value} (A : Arv Z h a k ty n vs dv) (eT : T.heap = h) (hj : ¬ j < 0 ∧ j < n) (i : Nat) (hi : j.toNatClampNeg = i) (hl : i < vs.length) (hty : ty.isReference = true) (hfv : fits ty v = true) (F : ∀ cl, Arr Z h a cl ty → cl.cls = k → Sto Z h a v) (hd : decode c.code pc0 = .ok (.aastore, 1)) (hpc : pc = pc0)
    (K : ∀ T' h', Stand p l e R s m args below meth c T' (locs ++ [⟨a, j.toNatClampNeg⟩]) cells slots → T'.heap = h' → Wr h h' a j.toNatClampNeg (v) → Arv Z h' a k ty n (vs.set i (v)) dv → Go p e below P T' (mkF m (pc0 + 1) Ls st)) : Go p e below P T (mkF m pc Ls (v :: .int j :: .ref a :: st)) := by
  subst hpc
  obtain ⟨cl, Ar, cq, Sz, Ng, Hs, Gs⟩ := A
  have hin : ¬ (j < 0 ∨ cl.slots.size ≤ j.toNatClampNeg) := inb_of Sz hj
  obtain ⟨T', h', X', e', W, q⟩ := stR X hx hZ eT Ar (j := j) hin hty (F cl Ar cq) (g := mkF m pc Ls (v :: .int j :: .ref a :: st)) rfl rfl hd
  exact Go.of q (K T' h' X' e' W (Arv.set Ar cq Sz Ng Hs Gs hfv W i hi hl))
theorem Go.newP (X : Stand p l e R s m args below meth c T locs cells slots) (hx : p.tables.exec = Jvm.exec) (hZ : Z.Warmed39 s.vm) {aty : ArrayType} {n : Int32} (w : (Cond.arrayClass (newarray.typeOf aty)).before a0 Z = true) (eT : T.heap = h) (u : Nat) (hn : ¬ n < 0) (cap : Nat) (hcap : n.toNatClampNeg ≤ cap) (hb : cap * 8 ≤ 536870912) (hc : cells + 1 ≤ R.cells) (hl : slots + cap ≤ R.slots) (ad : String) (had : "[" ++ (newarray.typeOf aty).toString = ad) (hd : decode c.code pc0 = .ok (.newarray aty, 2)) (hpc : pc = pc0)
    (K : ∀ T' h' b k, b = h.size → Stand p l e R s m args below meth c T' locs (cells + 1) (slots + cap) → T'.heap = h' → Ext h h' → Arv Z h' b k (newarray.typeOf aty) n ([] ++ List.replicate u (defaultValue (newarray.typeOf aty))) (defaultValue (newarray.typeOf aty)) → Exa Z h' b ad → Go p e below P T' (mkF m (pc0 + 2) Ls (.ref b :: st))) : Go p e below P T (mkF m pc Ls (.int n :: st)) := by
  subst hpc
  obtain ⟨T', h', cA, X', e', E, A, A', q⟩ := newPE X hx hZ w eT (g := mkF m pc Ls (.int n :: st)) rfl hd rfl hn (cap := cap) hcap hb hc hl had
  exact Go.of q (K T' h' _ cA rfl X' e' E ((Arv.new A hn).pad (pad_rep [] _ u)) A')
theorem Go.newR (X : Stand p l e R s m args below meth c T locs cells slots) (hx : p.tables.exec = Jvm.exec) (hZ : Z.Warmed39 s.vm) {own : String} {index : Nat} (hown : s.vm.findClass own = some m.cls) {C : String} {n : Int32} (w1 : (Cond.classLink own index C).before a0 Z = true) (w2 : (Cond.arrayOver (.object C)).before a0 Z = true) (eT : T.heap = h) (u : Nat) (hn : ¬ n < 0) (cap : Nat) (hcap : n.toNatClampNeg ≤ cap) (hb : cap * 8 ≤ 536870912) (hc : cells + 1 ≤ R.cells) (hl : slots + cap ≤ R.slots) (hd : decode c.code pc0 = .ok (.anewarray index, 3)) (hpc : pc = pc0)
    (K : ∀ T' h' b k, b = h.size → Stand p l e R s m args below meth c T' locs (cells + 1) (slots + cap) → T'.heap = h' → Ext h h' → Arv Z h' b k (.object C) n ([] ++ List.replicate u (.null)) (.null) → Ovr Z k C → Go p e below P T' (mkF m (pc0 + 3) Ls (.ref b :: st))) : Go p e below P T (mkF m pc Ls (.int n :: st)) := by
  subst hpc
  obtain ⟨T', h', cA, X', e', E, A, O, q⟩ := Jvm.RoadKit.newR X hx hZ hown w1 w2 eT (g := mkF m pc Ls (.int n :: st)) rfl hd rfl hn (cap := cap) hcap hb hc hl
  exact Go.of q (K T' h' _ cA rfl X' e' E ((Arv.new A hn).pad (pad_rep [] _ u)) O)
theorem Go.newRA (X : Stand p l e R s m args below meth c T locs cells slots) (hx : p.tables.exec = Jvm.exec) (hZ : Z.Warmed39 s.vm) {own : String} {index : Nat} (hown : s.vm.findClass own = some m.cls) {C : String} {ty : FieldType} {n : Int32} (hC : (FieldType.array ty).toString = C) (w1 : (Cond.classLink own index C).before a0 Z = true) (w2 : (Cond.arrayOver (.array ty)).before a0 Z = true) (eT : T.heap = h) (u : Nat) (hn : ¬ n < 0) (cap : Nat) (hcap : n.toNatClampNeg ≤ cap) (hb : cap * 8 ≤ 536870912) (hc : cells + 1 ≤ R.cells) (hl : slots + cap ≤ R.slots) (hd : decode c.code pc0 = .ok (.anewarray index, 3)) (hpc : pc = pc0)
    (K : ∀ T' h' b k, b = h.size → Stand p l e R s m args below meth c T' locs (cells + 1) (slots + cap) → T'.heap = h' → Ext h h' → Arv Z h' b k (.array ty) n ([] ++ List.replicate u (.null)) (.null) → OvrA Z k ty C → Go p e below P T' (mkF m (pc0 + 3) Ls (.ref b :: st))) : Go p e below P T (mkF m pc Ls (.int n :: st)) := by
  subst hpc
  obtain ⟨T', h', cA, X', e', E, A, -, O, q⟩ := Jvm.RoadKit.newRA X hx hZ hown hC w1 w2 eT (g := mkF m pc Ls (.int n :: st)) rfl hd rfl hn (cap := cap) hcap hb hc hl rfl
  exact Go.of q (K T' h' _ cA rfl X' e' E ((Arv.new A hn).pad (pad_rep [] _ u)) O)
end OwnSteps
theorem own_i32 {k n : Int32} {v : Int} (h : k.toInt = v) (hv : n.toInt = v) : k = n := Int32.toInt_inj.mp (h.trans hv.symm)
/-! the hash table of IntSet over plain lists (own work) -/
def lookN (t : List Int32) (M : Nat) (x : Int32) : Nat → Nat → Bool
  | 0, _ => false
  | k + 1, i => if t.getD i 0 = -1 then false else if t.getD i 0 = x then true else lookN t M x k ((i + 1) % M)
def ffN (t : List Int32) (M : Nat) : Nat → Nat → Nat
  | 0, i => i
  | k + 1, i => if t.getD i 0 = -1 then i else ffN t M k ((i + 1) % M)
def tfN (t : List Int32) (M : Nat) (x : Int32) : Nat → Nat → Nat
  | 0, i => i
  | k + 1, i => if t.getD i 0 = x then i else tfN t M x k ((i + 1) % M)
def Inv (M : Nat) (h : Int32 → Nat) (t es : List Int32) : Prop :=
  t.length = M ∧ (∀ i, i < M → t.getD i 0 = -1 ∨ t.getD i 0 ∈ es) ∧ (∀ e ∈ es, ∃ d, d < M ∧ t.getD ((h e + d) % M) 0 = e ∧ ∀ d', d' < d → t.getD ((h e + d') % M) 0 ≠ -1) ∧ t.count (-1) + es.length = M
theorem step_mod (i d M : Nat) : ((i + 1) % M + d) % M = (i + (d + 1)) % M := by rw [Nat.mod_add_mod, Nat.add_assoc, Nat.add_comm 1 d]
theorem look_yes {t : List Int32} {M : Nat} {x : Int32} (hx : x ≠ -1) : ∀ (k i d : Nat), i < M → d < k → t.getD ((i + d) % M) 0 = x → (∀ d', d' < d → t.getD ((i + d') % M) 0 ≠ -1) → lookN t M x k i = true := by
  intro k
  induction k with
  | zero => intro i d hi hd; omega
  | succ k ih =>
    intro i d hi hd hv hn
    unfold lookN
    have hi0 : (i + 0) % M = i := Nat.mod_eq_of_lt hi
    by_cases h1 : t.getD i 0 = x
    · rw [if_neg (by rw [h1]; exact hx), if_pos h1]
    · cases d with
      | zero => rw [hi0] at hv; exact absurd hv h1
      | succ d =>
        have h0 := hn 0 (by omega)
        rw [hi0] at h0
        rw [if_neg h0, if_neg h1]
        refine ih ((i + 1) % M) d (Nat.mod_lt _ (by omega)) (by omega) (by rw [step_mod]; exact hv) (fun d' hd' => by rw [step_mod]; exact hn (d' + 1) (by omega))
theorem look_true {t : List Int32} {M : Nat} {x : Int32} : ∀ (k i : Nat), i < M → lookN t M x k i = true → ∃ j, j < M ∧ t.getD j 0 = x ∧ x ≠ -1 := by
  intro k
  induction k with
  | zero => intro i hi h; simp [lookN] at h
  | succ k ih =>
    intro i hi h
    unfold lookN at h
    by_cases h0 : t.getD i 0 = -1
    · rw [if_pos h0] at h; simp at h
    · rw [if_neg h0] at h
      by_cases h1 : t.getD i 0 = x
      · exact ⟨i, hi, h1, by rw [← h1]; exact h0⟩
      · rw [if_neg h1] at h
        exact ih _ (Nat.mod_lt _ (by omega)) h
theorem look_spec {M : Nat} {h : Int32 → Nat} {t es : List Int32} {x : Int32} (I : Inv M h t es) (hes : ∀ e ∈ es, e ≠ -1) (hh : h x < M) : lookN t M x M (h x) = decide (x ∈ es) := by
  by_cases hx : x ∈ es
  · obtain ⟨d, hd, h1, h2⟩ := I.2.2.1 x hx
    rw [look_yes (hes x hx) M (h x) d hh hd h1 h2]; simp [hx]
  · cases hl : lookN t M x M (h x) with
    | false => simp [hx]
    | true =>
      obtain ⟨j, hj, h1, h2⟩ := look_true M (h x) hh hl
      rcases I.2.1 j hj with h3 | h3
      · exact absurd (h1.symm.trans h3) h2
      · exact absurd (h1 ▸ h3) hx
theorem free_at {M : Nat} {h : Int32 → Nat} {t es : List Int32} (I : Inv M h t es) (hl : es.length < M) (i : Nat) : ∃ d, d < M ∧ t.getD ((i + d) % M) 0 = -1 := by
  have hc : 0 < t.count (-1) := by have := I.2.2.2; omega
  obtain ⟨j, hj, e⟩ := List.getElem_of_mem (List.count_pos_iff.mp hc)
  rw [I.1] at hj
  refine ⟨(j + (M - i % M)) % M, Nat.mod_lt _ (by omega), ?_⟩
  have q : (i + (j + (M - i % M)) % M) % M = j := by
    rw [Nat.add_mod_mod, ← Nat.mod_add_mod]
    have h1 := Nat.mod_lt i (show 0 < M by omega)
    have h2 : i % M + (j + (M - i % M)) = j + M := by omega
    rw [h2, Nat.add_mod_right, Nat.mod_eq_of_lt hj]
  rw [q, List.getD_eq_getElem?_getD, List.getElem?_eq_getElem (by rw [I.1]; exact hj)]
  exact e
theorem ff_spec {t : List Int32} {M : Nat} : ∀ (k i : Nat), i < M → (∃ d, d < k ∧ t.getD ((i + d) % M) 0 = -1) → ∃ d, d < k ∧ ffN t M k i = (i + d) % M ∧ t.getD ((i + d) % M) 0 = -1 ∧ ∀ d', d' < d → t.getD ((i + d') % M) 0 ≠ -1 := by
  intro k
  induction k with
  | zero => rintro i hi ⟨d, hd, -⟩; omega
  | succ k ih =>
    rintro i hi ⟨d, hd, hv⟩
    have hi0 : (i + 0) % M = i := Nat.mod_eq_of_lt hi
    unfold ffN
    by_cases h0 : t.getD i 0 = -1
    · exact ⟨0, by omega, by rw [if_pos h0, hi0], by rw [hi0]; exact h0, fun d' h => by omega⟩
    · rw [if_neg h0]
      cases d with
      | zero => rw [hi0] at hv; exact absurd hv h0
      | succ d =>
        obtain ⟨d1, g1, g2, g3, g4⟩ := ih ((i + 1) % M) (Nat.mod_lt _ (by omega)) ⟨d, by omega, by rw [step_mod]; exact hv⟩
        rw [step_mod] at g2 g3
        refine ⟨d1 + 1, by omega, g2, g3, fun d' h => ?_⟩
        cases d' with
        | zero => rw [hi0]; exact h0
        | succ d' => have := g4 d' (by omega); rw [step_mod] at this; exact this
theorem getD_set {t : List Int32} {i j : Nat} {x : Int32} (hi : i < t.length) : (t.set i x).getD j 0 = if j = i then x else t.getD j 0 := by
  simp only [List.getD_eq_getElem?_getD, List.getElem?_set]
  by_cases h : i = j
  · subst h; simp [hi]
  · rw [if_neg h, if_neg (Ne.symm h)]
theorem ins_inv {M : Nat} {h : Int32 → Nat} {t es : List Int32} {x : Int32} (I : Inv M h t es) (hes : ∀ e ∈ es, e ≠ -1) (hx : x ∉ es) (hn : x ≠ -1) (hl : es.length < M) (hh : h x < M) : Inv M h (t.set (ffN t M M (h x)) x) (es ++ [x]) := by
  obtain ⟨d, hd, g1, g2, g3⟩ := ff_spec (t := t) (M := M) M (h x) hh (free_at I hl (h x))
  have hf : (h x + d) % M < t.length := by rw [I.1]; exact Nat.mod_lt _ (by omega)
  rw [g1]
  refine ⟨by rw [List.length_set]; exact I.1, fun i hi => ?_, fun e he => ?_, ?_⟩
  · rw [getD_set hf]
    by_cases q : i = (h x + d) % M
    · rw [if_pos q]; right; simp
    · rw [if_neg q]
      rcases I.2.1 i hi with u | u
      · exact Or.inl u
      · exact Or.inr (List.mem_append_left _ u)
  · rcases List.mem_append.mp he with u | u
    · obtain ⟨d1, k1, k2, k3⟩ := I.2.2.1 e u
      refine ⟨d1, k1, ?_, fun d' hd' => ?_⟩
      · rw [getD_set hf]
        by_cases q : (h e + d1) % M = (h x + d) % M
        · rw [q] at k2; rw [k2] at g2
          exact absurd g2 (hes e u)
        · rw [if_neg q]; exact k2
      · rw [getD_set hf]
        by_cases q : (h e + d') % M = (h x + d) % M
        · rw [if_pos q]; exact hn
        · rw [if_neg q]; exact k3 d' hd'
    · obtain rfl := List.mem_singleton.mp u
      refine ⟨d, hd, by rw [getD_set hf, if_pos rfl], fun d' hd' => ?_⟩
      rw [getD_set hf]
      by_cases q : (h e + d') % M = (h e + d) % M
      · rw [if_pos q]; exact hn
      · rw [if_neg q]; exact g3 d' hd'
  · rw [List.count_set hf]
    have e1 : t[(h x + d) % M] = -1 := by rw [List.getD_eq_getElem?_getD, List.getElem?_eq_getElem hf] at g2; exact g2
    have e2 := I.2.2.2
    have e3 : 0 < t.count (-1) := by omega
    simp [e1, hn]
    omega
theorem tf_spec {t : List Int32} {M : Nat} {x : Int32} : ∀ (k i d : Nat), i < M → d < k → t.getD ((i + d) % M) 0 = x → (∀ d', d' < d → t.getD ((i + d') % M) 0 ≠ x) → tfN t M x k i = (i + d) % M := by
  intro k
  induction k with
  | zero => intro i d hi hd; omega
  | succ k ih =>
    intro i d hi hd hv hn
    unfold tfN
    have hi0 : (i + 0) % M = i := Nat.mod_eq_of_lt hi
    cases d with
    | zero => rw [hi0] at hv; rw [if_pos hv, hi0]
    | succ d =>
      have h0 := hn 0 (by omega)
      rw [hi0] at h0
      rw [if_neg h0, ih ((i + 1) % M) d (Nat.mod_lt _ (by omega)) (by omega) (by rw [step_mod]; exact hv) (fun d' hd' => by rw [step_mod]; exact hn (d' + 1) (by omega)), step_mod]
theorem set_back {t : List Int32} {i : Nat} {x : Int32} (hi : i < t.length) (h : t.getD i 0 = -1) : (t.set i x).set i (-1) = t := by
  rw [List.set_set]
  apply List.ext_getElem
  · simp
  · intro j h1 h2
    rw [List.getElem_set]
    by_cases e : i = j
    · subst e
      rw [if_pos rfl]
      rw [List.getD_eq_getElem?_getD, List.getElem?_eq_getElem hi] at h
      exact h.symm
    · rw [if_neg e]
/-- taking back the last one put in -/
theorem rem_tab {M : Nat} {h : Int32 → Nat} {t es : List Int32} {x : Int32} (I : Inv M h t es) (hx : x ∉ es) (hn : x ≠ -1) (hl : es.length < M) (hh : h x < M) :
    ∃ d, d < M ∧ tfN (t.set (ffN t M M (h x)) x) M x M (h x) = ffN t M M (h x) ∧ ffN t M M (h x) < M ∧ (t.set (ffN t M M (h x)) x).set (ffN t M M (h x)) (-1) = t ∧ (t.set (ffN t M M (h x)) x).getD ((h x + d) % M) 0 = x := by
  obtain ⟨d, hd, g1, g2, g3⟩ := ff_spec (t := t) (M := M) M (h x) hh (free_at I hl (h x))
  have hf : (h x + d) % M < t.length := by rw [I.1]; exact Nat.mod_lt _ (by omega)
  rw [g1]
  have hat : (t.set ((h x + d) % M) x).getD ((h x + d) % M) 0 = x := by rw [getD_set hf, if_pos rfl]
  refine ⟨d, hd, ?_, Nat.mod_lt _ (by omega), set_back hf g2, hat⟩
  refine tf_spec M (h x) d hh hd hat fun d' hd' => ?_
  have g := g3 d' hd'
  have ne : (h x + d') % M ≠ (h x + d) % M := fun e => by rw [e] at g; exact g g2
  rw [getD_set hf, if_neg ne]
  intro e
  rcases I.2.1 ((h x + d') % M) (Nat.mod_lt _ (by omega)) with u | u
  · exact g u
  · exact hx (e ▸ u)
def tab (M : Nat) (h : Int32 → Nat) (es : List Int32) : List Int32 := es.foldl (fun t x => t.set (ffN t M M (h x)) x) (List.replicate M (-1))
theorem tab_snoc (M : Nat) (h : Int32 → Nat) (es : List Int32) (x : Int32) : tab M h (es ++ [x]) = (tab M h es).set (ffN (tab M h es) M M (h x)) x := by simp [tab, List.foldl_append]
theorem inv_nil (M : Nat) (h : Int32 → Nat) : Inv M h (List.replicate M (-1)) [] := by
  refine ⟨by simp, fun i hi => Or.inl ?_, fun e he => (nomatch he), by simp⟩
  rw [List.getD_eq_getElem?_getD, List.getElem?_replicate, if_pos hi]; rfl
def Good (es : List Int32) : Prop := es.Nodup ∧ ∀ e ∈ es, 0 ≤ e.toInt
theorem good_ne {es : List Int32} (g : Good es) : ∀ e ∈ es, e ≠ -1 := fun e he q => by
  have := g.2 e he
  rw [q] at this
  exact absurd this (by decide)
theorem inv_foldl {M : Nat} {h : Int32 → Nat} (hh : ∀ x, h x < M) : ∀ (l : List Int32) (t es : List Int32), Inv M h t es → Good (es ++ l) → (es ++ l).length ≤ M → Inv M h (l.foldl (fun t x => t.set (ffN t M M (h x)) x) t) (es ++ l) := by
  intro l
  induction l with
  | nil => intro t es I _ _; simpa using I
  | cons x l ih =>
    intro t es I g hl
    have hx : x ∉ es := by
      intro q
      have := g.1
      rw [List.nodup_append] at this
      exact this.2.2 x q x (by simp) rfl
    have hn : x ≠ -1 := good_ne g x (by simp)
    have hl' : es.length < M := by simp at hl; omega
    have I' := ins_inv I (fun e he => good_ne g e (by simp [he])) hx hn hl' (hh x)
    have := ih _ (es ++ [x]) I' (by simpa using g) (by simpa using hl)
    simpa using this
theorem inv_tab {M : Nat} {h : Int32 → Nat} (hh : ∀ x, h x < M) {es : List Int32} (g : Good es) (hl : es.length ≤ M) : Inv M h (tab M h es) es := by
  have := inv_foldl hh es _ [] (inv_nil M h) (by simpa using g) (by simpa using hl)
  simpa [tab] using this
def slotv (x mask : Int32) : Int32 := (((x * (-1640531527 : Int32)) ^^^ (((x * (-1640531527 : Int32))).toUInt32 >>> ((16 : Int32) &&& 31).toUInt32).toInt32) &&& mask)
def hsh (mask x : Int32) : Nat := (slotv x mask).toNatClampNeg
def Ix (M j : Int32) (i : Nat) : Prop := ¬ j < 0 ∧ j < M ∧ j.toNatClampNeg = i
theorem ix_of {M j : Int32} {m : Nat} (hM : M.toInt = m) (h1 : 0 ≤ j.toInt) (h2 : j.toInt < m) : Ix M j j.toInt.toNat := by
  refine ⟨by rw [Int32.lt_iff_toInt_lt]; simp; omega, by rw [Int32.lt_iff_toInt_lt]; omega, rfl⟩
theorem Ix.int {M j : Int32} {i : Nat} (h : Ix M j i) : j.toInt = i := by
  have := nat_of h.1
  rw [h.2.2] at this; exact this
theorem ix_next {M mask j : Int32} {i m b : Nat} (hb : b < 31) (hm : m = 2 ^ b) (hM : M.toInt = m) (hk : mask.toBitVec.toNat = 2 ^ b - 1) (h : Ix M j i) : Ix M ((j + 1) &&& mask) ((i + 1) % m) := by
  have e := h.int
  have l : j.toInt < M.toInt := by rw [← Int32.lt_iff_toInt_lt]; exact h.2.1
  have b1 : (2 : Nat) ^ b ≤ 2 ^ 30 := Nat.pow_le_pow_right (by omega) (by omega)
  have e1 : (j + 1).toInt = j.toInt + 1 := by
    have := Jvm.Kit.i32_add (p := j) (q := 1) (by simp; omega) (by simp; omega)
    simpa using this
  have e2 := Jvm.Kit.i32_mask (j + 1) mask (k := b) (by omega) hk
  have e3 : ((j + 1) &&& mask).toInt = (((i + 1) % m : Nat) : Int) := by
    rw [e2, e1, e, hm]; push_cast; rfl
  have q := ix_of (j := (j + 1) &&& mask) hM (by rw [e3]; omega) (by rw [e3]; exact_mod_cast Nat.mod_lt _ (by rw [hm]; exact Nat.two_pow_pos b))
  rw [e3, Int.toNat_natCast] at q
  exact q
theorem ix_slot {M mask : Int32} {m b : Nat} (hb : b < 31) (hm : m = 2 ^ b) (hM : M.toInt = m) (hk : mask.toBitVec.toNat = 2 ^ b - 1) (x : Int32) : Ix M (slotv x mask) (hsh mask x) := by
  unfold hsh
  unfold slotv
  generalize ((x * (-1640531527 : Int32)) ^^^ (((x * (-1640531527 : Int32))).toUInt32 >>> ((16 : Int32) &&& 31).toUInt32).toInt32) = y
  have e2 := Jvm.Kit.i32_mask y mask (k := b) (by omega) hk
  have p : (0 : Int) < 2 ^ b := Int.pow_pos (by omega)
  have g1 : 0 ≤ (y &&& mask).toInt := by rw [e2]; exact Int.emod_nonneg _ (by omega)
  have g2 : (y &&& mask).toInt < m := by rw [e2, hm]; push_cast; exact Int.emod_lt_of_pos _ p
  exact ⟨(ix_of hM g1 g2).1, (ix_of hM g1 g2).2.1, rfl⟩
theorem hsh_lt {M mask : Int32} {m b : Nat} (hb : b < 31) (hm : m = 2 ^ b) (hM : M.toInt = m) (hk : mask.toBitVec.toNat = 2 ^ b - 1) (x : Int32) : hsh mask x < m := by
  have h := ix_slot hb hm hM hk x
  have e := h.int
  have l : (slotv x mask).toInt < M.toInt := by rw [← Int32.lt_iff_toInt_lt]; exact h.2.1
  omega
theorem own_getD {t : List Int32} {j : Int32} {i : Nat} (h : j.toNatClampNeg = i) : (t.map Value.int).getD j.toNatClampNeg (.int (0 : Int32)) = .int (t.getD i 0) := by
  subst h
  simp only [List.getD_eq_getElem?_getD, List.getElem?_map]
  cases t[j.toNatClampNeg]? <;> rfl
theorem tab_nf {es : List Int32} {x : Int32} (hg : Good es) (hx0 : 0 ≤ x.toInt) (hxn : x ∉ es) (hl : es.length ≤ 8) : ∀ i, i < 8 → (tab 8 (hsh (7 : Int32)) es).getD i 0 ≠ x := by
  intro i hi e
  have I := inv_tab (M := 8) (hsh_lt (M := 8) (mask := 7) (b := 3) (by decide) rfl (by decide) (by decide)) hg hl
  rcases I.2.1 i hi with u | u
  · rw [e] at u; rw [u] at hx0; exact absurd hx0 (by decide)
  · exact hxn (e ▸ u)
theorem own_ffl {es : List Int32} {x : Int32} (hg : Good es) (hl : es.length < 8) : ffN (tab 8 (hsh (7 : Int32)) es) 8 8 (hsh (7 : Int32) x) < 8 := by
  have I := inv_tab (M := 8) (hsh_lt (M := 8) (mask := 7) (b := 3) (by decide) rfl (by decide) (by decide)) hg (by omega)
  obtain ⟨d, hd, g1, -⟩ := ff_spec (t := tab 8 (hsh (7 : Int32)) es) (M := 8) 8 (hsh (7 : Int32) x) (hsh_lt (M := 8) (mask := 7) (b := 3) (by decide) rfl (by decide) (by decide) x) (free_at I hl _)
  rw [g1]; exact Nat.mod_lt _ (by omega)
theorem hl8 (x : Int32) : hsh (7 : Int32) x < 8 := hsh_lt (M := 8) (mask := 7) (b := 3) (by decide) rfl (by decide) (by decide) x
theorem hl16 (x : Int32) : hsh (15 : Int32) x < 16 := hsh_lt (M := 16) (mask := 15) (b := 4) (by decide) rfl (by decide) (by decide) x
theorem inv8 {es : List Int32} (g : Good es) (hl : es.length ≤ 8) : Inv 8 (hsh (7 : Int32)) (tab 8 (hsh (7 : Int32)) es) es := inv_tab hl8 g hl
theorem inv16 {es : List Int32} (g : Good es) (hl : es.length ≤ 16) : Inv 16 (hsh (15 : Int32)) (tab 16 (hsh (15 : Int32)) es) es := inv_tab hl16 g hl
theorem Ctr.mono {l : Launch} {Z : State} {y : MethodName} {code : ByteArray} {mx : Nat} {ret : Option FieldType} {Rm : Room} {as' : Array Value} {h : Heap} {Q Q' : Option Value → Heap → List Loc → Prop} (C : Ctr l Z y code mx ret Rm as' h Q) (hQ : ∀ v h' L, Q v h' L → Q' v h' L) : Ctr l Z y code mx ret Rm as' h Q' := by
  intro ws p e h1 h2 h3 s m args below h4 h5 h6 h7
  obtain ⟨n, o, g1, g2, g3, v, L, g4, g5, g6⟩ := C ws p e h1 h2 h3 s m args below h4 h5 h6 h7
  exact ⟨n, o, g1, g2, g3, v, L, g4, hQ v _ L g5, g6⟩
/-- the cells ahead of a stand as they stood -/
def Blw (a : Addr) (h h' : Heap) : Prop := h.size ≤ h'.size ∧ ∀ (y : Addr) (c : Cell), y < a → h[y]? = some c → h'[y]? = some c
theorem Blw.of {a : Addr} {h h' : Heap} {ws : List Addr} (K : Keep h h' ws) (q : ∀ x ∈ ws, a ≤ x) : Blw a h h' := ⟨K.1, fun y c hy hc => K.2.1 y c hc fun z => absurd hy (Nat.not_lt.mpr (q y z))⟩
theorem Blw.refl (a : Addr) (h : Heap) : Blw a h h := ⟨Nat.le_refl _, fun _ _ _ q => q⟩
theorem Blw.old {a : Addr} {Z : State} {h h' : Heap} (B : Blw a h h') (g : Z.heap.size ≤ a) (O : Old Z Z.heap.size h) : Old Z Z.heap.size h' := ⟨rfl, Nat.le_trans O.2.1 B.1, fun x c q => B.2 x c (Nat.lt_of_lt_of_le (Array.getElem?_eq_some_iff.mp q).1 g) (O.2.2 x c q)⟩
theorem Arv.blw {Z : State} {h h' : Heap} {a b : Addr} {k : ClassId} {ty : FieldType} {z : Int32} {vs : List Value} {dv : Value} (F : Arv Z h b k ty z vs dv) (B : Blw a h h') (q : b < a) : Arv Z h' b k ty z vs dv := by obtain ⟨c, A, r⟩ := F; exact ⟨c, ⟨B.2 b c q A.1, A.2⟩, r⟩
def addL (es : List Int32) (x : Int32) : List Int32 := if x ∈ es then es else es ++ [x]
theorem mem_addL (es : List Int32) (x q : Int32) : q ∈ addL es x ↔ q ∈ es ∨ q = x := by
  unfold addL
  by_cases h : x ∈ es
  · rw [if_pos h]; exact ⟨Or.inl, fun u => u.elim id fun e => e ▸ h⟩
  · rw [if_neg h]; simp
theorem good_addL {es : List Int32} {x : Int32} (g : Good es) (hx : 0 ≤ x.toInt) : Good (addL es x) := by
  unfold addL
  by_cases h : x ∈ es
  · rw [if_pos h]; exact g
  · rw [if_neg h]
    refine ⟨List.nodup_append.mpr ⟨g.1, by simp, fun a ha b hb e => ?_⟩, fun e he => ?_⟩
    · rw [List.mem_singleton] at hb; subst hb; subst e; exact h ha
    · rcases List.mem_append.mp he with u | u
      · exact g.2 e u
      · rw [List.mem_singleton] at u; subst u; exact hx
theorem addL_len (es : List Int32) (x : Int32) : (addL es x).length ≤ es.length + 1 := by
  unfold addL; split <;> simp
def ISN : String := "com/example/overrule/overrule/engine/IntSet"
/-- the IntSet at a holds es in an array of E places and a table of M -/
def RepA (Z : State) (h : Heap) (a : Addr) (es : List Int32) (E M mask : Int32) (En Mn : Nat) : Prop :=
  ∃ (eb sl : Addr) (kb ks : ClassId) (pad : List Int32), a < eb ∧ a < sl ∧ eb ≠ sl ∧ (es ++ pad).length = En ∧ Fld Z h a ISN "elements" "[I" (.ref eb) ∧ Fld Z h a ISN "size" "I" (.int (Int32.ofNat es.length)) ∧ Fld Z h a ISN "slots" "[I" (.ref sl) ∧
     Arv Z h eb kb .int E ((es ++ pad).map Value.int) (.int (0 : Int32)) ∧ Arv Z h sl ks .int M ((tab Mn (hsh mask) es).map Value.int) (.int (0 : Int32))
/-- nothing made yet -/
def RepN (Z : State) (aN : Addr) (h : Heap) (a : Addr) : Prop := Fld Z h a ISN "elements" "[I" (.ref aN) ∧ Fld Z h a ISN "size" "I" (.int (0 : Int32)) ∧ Fld Z h a ISN "slots" "[I" (.ref aN)
/-- the IntSet at a holds es -/
def Rep (Z : State) (aN : Addr) (h : Heap) (a : Addr) (es : List Int32) : Prop := Z.heap.size ≤ a ∧ Good es ∧ Exa Z h a ISN ∧
  ((es = [] ∧ RepN Z aN h a) ∨ (es ≠ [] ∧ es.length ≤ 4 ∧ RepA Z h a es 4 8 7 4 8) ∨ (es.length = 5 ∧ RepA Z h a es 8 16 15 8 16))
theorem rep_look8 {es : List Int32} (x : Int32) (g : Good es) (hl : es.length ≤ 8) : lookN (tab 8 (hsh (7 : Int32)) es) 8 x 8 (hsh (7 : Int32) x) = decide (x ∈ es) := look_spec (inv8 g hl) (good_ne g) (hl8 x)
theorem rep_look16 {es : List Int32} (x : Int32) (g : Good es) (hl : es.length ≤ 16) : lookN (tab 16 (hsh (15 : Int32)) es) 16 x 16 (hsh (15 : Int32) x) = decide (x ∈ es) := look_spec (inv16 g hl) (good_ne g) (hl16 x)
theorem good_nil : Good [] := ⟨List.nodup_nil, fun _ h => nomatch h⟩
theorem len_3 {l : List Int32} (h : l.length = 3) : ∃ a b c, l = [a, b, c] := by match l, h with | [a, b, c], _ => exact ⟨a, b, c, rfl⟩
theorem len_2 {l : List Int32} (h : l.length = 2) : ∃ a b, l = [a, b] := by match l, h with | [a, b], _ => exact ⟨a, b, rfl⟩
theorem len_1 {l : List Int32} (h : l.length = 1) : ∃ a, l = [a] := by match l, h with | [a], _ => exact ⟨a, rfl⟩
theorem own_ofNat {n : Nat} (h : n ≠ 0) (h2 : n ≤ 16) : ¬ Int32.ofNat n = 0 := by
  have : ∀ k : Fin 17, k.val ≠ 0 → ¬ Int32.ofNat k.val = 0 := by decide
  exact this ⟨n, by omega⟩ h
theorem rep_read {Z : State} {aN a : Addr} {h : Heap} {es : List Int32} (R : Rep Z aN h a es) : RepN Z aN h a ∧ es = [] ∨ (es.length ≤ 4 ∧ RepA Z h a es 4 8 7 4 8) ∨ (es.length ≤ 8 ∧ RepA Z h a es 8 16 15 8 16) := by
  obtain ⟨-, -, -, ⟨h1, h2⟩ | ⟨-, h1, h2⟩ | ⟨h1, h2⟩⟩ := R
  · exact Or.inl ⟨h2, h1⟩
  · exact Or.inr (Or.inl ⟨h1, h2⟩)
  · exact Or.inr (Or.inr ⟨by omega, h2⟩)
theorem rep_read4 {Z : State} {aN a : Addr} {h : Heap} {es : List Int32} (R : Rep Z aN h a es) (hl : es.length ≤ 4) : RepN Z aN h a ∧ es = [] ∨ (es.length ≤ 4 ∧ RepA Z h a es 4 8 7 4 8) := by
  obtain ⟨-, -, -, ⟨h1, h2⟩ | ⟨-, h1, h2⟩ | ⟨h1, h2⟩⟩ := R
  · exact Or.inl ⟨h2, h1⟩
  · exact Or.inr ⟨h1, h2⟩
  · omega
theorem own_nn (x : Int32) : 0 ≤ (x &&& (2147483647 : Int32)).toInt := by
  have e1 : (x &&& (2147483647 : Int32)).toInt = x.toInt % 2 ^ 31 := Jvm.Kit.i32_mask x 2147483647 (k := 31) (by decide) (by decide)
  omega
theorem own_and3 (x : Int32) : (x &&& (3 : Int32)) = 0 ∨ (x &&& (3 : Int32)) = 1 ∨ (x &&& (3 : Int32)) = 2 ∨ (x &&& (3 : Int32)) = 3 := by
  have e1 : (x &&& (3 : Int32)).toInt = x.toInt % 2 ^ 2 := Jvm.Kit.i32_mask x 3 (k := 2) (by decide) (by decide)
  generalize (x &&& (3 : Int32)) = k at *
  have e3 : k.toInt = 0 ∨ k.toInt = 1 ∨ k.toInt = 2 ∨ k.toInt = 3 := by omega
  rcases e3 with h | h | h | h
  · exact Or.inl (own_i32 h (by decide))
  · exact Or.inr (Or.inl (own_i32 h (by decide)))
  · exact Or.inr (Or.inr (Or.inl (own_i32 h (by decide))))
  · exact Or.inr (Or.inr (Or.inr (own_i32 h (by decide))))
theorem own_and7 (x : Int32) : (x &&& (7 : Int32)) = 0 ∨ (x &&& (7 : Int32)) = 1 ∨ (x &&& (7 : Int32)) = 2 ∨ (x &&& (7 : Int32)) = 3 ∨ (x &&& (7 : Int32)) = 4 ∨ (x &&& (7 : Int32)) = 5 ∨ (x &&& (7 : Int32)) = 6 ∨ (x &&& (7 : Int32)) = 7 := by
  have e1 : (x &&& (7 : Int32)).toInt = x.toInt % 2 ^ 3 := Jvm.Kit.i32_mask x 7 (k := 3) (by decide) (by decide)
  generalize (x &&& (7 : Int32)) = k at *
  have e3 : k.toInt = 0 ∨ k.toInt = 1 ∨ k.toInt = 2 ∨ k.toInt = 3 ∨ k.toInt = 4 ∨ k.toInt = 5 ∨ k.toInt = 6 ∨ k.toInt = 7 := by omega
  rcases e3 with h | h | h | h | h | h | h | h
  · exact Or.inl (own_i32 h (by decide))
  · exact Or.inr (Or.inl (own_i32 h (by decide)))
  · exact Or.inr (Or.inr (Or.inl (own_i32 h (by decide))))
  · exact Or.inr (Or.inr (Or.inr (Or.inl (own_i32 h (by decide)))))
  · exact Or.inr (Or.inr (Or.inr (Or.inr (Or.inl (own_i32 h (by decide))))))
  · exact Or.inr (Or.inr (Or.inr (Or.inr (Or.inr (Or.inl (own_i32 h (by decide)))))))
  · exact Or.inr (Or.inr (Or.inr (Or.inr (Or.inr (Or.inr (Or.inl (own_i32 h (by decide))))))))
  · exact Or.inr (Or.inr (Or.inr (Or.inr (Or.inr (Or.inr (Or.inr (own_i32 h (by decide))))))))
def pk (u0 u1 u2 u3 u4 : Int32) : Int32 := if u0 = 0 then u1 else if u0 = 1 then u2 else if u0 = 2 then u3 else u4
theorem pd_0 : parseMethodDescriptor "([II)V" = some ⟨[(.array .int), .int], none⟩ := by decide +kernel
theorem pd_1 : parseMethodDescriptor "(I)[I" = some ⟨[.int], some (.array .int)⟩ := by decide +kernel
theorem pd_2 : parseMethodDescriptor "(II)I" = some ⟨[.int, .int], some .int⟩ := by decide +kernel
theorem pd_3 : parseMethodDescriptor "(I)Z" = some ⟨[.int], some .boolean⟩ := by decide +kernel
theorem pd_4 : parseMethodDescriptor "(IIIII)I" = some ⟨[.int, .int, .int, .int, .int], some .int⟩ := by decide +kernel
theorem pd_5 : parseMethodDescriptor "()V" = some ⟨[], none⟩ := by decide +kernel
theorem pd_6 : parseMethodDescriptor "([I)Z" = some ⟨[(.array .int)], some .boolean⟩ := by decide +kernel
theorem pd_7 : parseMethodDescriptor "(IIIII)Z" = some ⟨[.int, .int, .int, .int, .int], some .boolean⟩ := by decide +kernel
def Facts (Z : State) (a_NONE : Addr) (k_NONE : ClassId) : Prop := (Sta Z Z.heap "com/example/overrule/overrule/engine/IntSet" "NONE" "[I" (.ref a_NONE)) ∧ (Arv Z Z.heap a_NONE k_NONE .int (0 : Int32) [] (.int (0 : Int32)))
theorem d5_0 : decode prog_46_method_11_code 0 = .ok (.iload_n 0, 1) := by decide +kernel
theorem d5_1 : decode prog_46_method_11_code 1 = .ok (.newarray .int, 2) := by decide +kernel
theorem d5_3 : decode prog_46_method_11_code 3 = .ok (.astore_n 1, 1) := by decide +kernel
theorem d5_4 : decode prog_46_method_11_code 4 = .ok (.aload_n 1, 1) := by decide +kernel
theorem d5_5 : decode prog_46_method_11_code 5 = .ok (.iconst (-1), 1) := by decide +kernel
theorem d5_6 : decode prog_46_method_11_code 6 = .ok (.invokestatic 46, 3) := by decide +kernel
theorem d5_9 : decode prog_46_method_11_code 9 = .ok (.aload_n 1, 1) := by decide +kernel
theorem d5_10 : decode prog_46_method_11_code 10 = .ok (.areturn, 1) := by decide +kernel
theorem pn_5 : plainName "com/example/overrule/overrule/engine/IntSet" = true := by first | (simp [plainName, overriddenIn]; done) | decide +kernel
theorem ef_5 (m : MethodId) (x0 : Int32) : entryFrame m #[(.int x0)] 2 = mkF m 0 #[.val (.int x0), .unset] [] := by first | (simp [entryFrame, mkF, argsToLocals, Value.category]; done) | rfl
theorem d6_0 : decode jdk_65_method_103_code 0 = .ok (.iconst 0, 1) := by decide +kernel
theorem d6_1 : decode jdk_65_method_103_code 1 = .ok (.istore_n 2, 1) := by decide +kernel
theorem d6_2 : decode jdk_65_method_103_code 2 = .ok (.aload_n 0, 1) := by decide +kernel
theorem d6_3 : decode jdk_65_method_103_code 3 = .ok (.arraylength, 1) := by decide +kernel
theorem d6_4 : decode jdk_65_method_103_code 4 = .ok (.istore_n 3, 1) := by decide +kernel
theorem d6_5 : decode jdk_65_method_103_code 5 = .ok (.iload_n 2, 1) := by decide +kernel
theorem d6_6 : decode jdk_65_method_103_code 6 = .ok (.iload_n 3, 1) := by decide +kernel
theorem d6_7 : decode jdk_65_method_103_code 7 = .ok (.if_icmp .ge 13, 3) := by decide +kernel
theorem d6_10 : decode jdk_65_method_103_code 10 = .ok (.aload_n 0, 1) := by decide +kernel
theorem d6_11 : decode jdk_65_method_103_code 11 = .ok (.iload_n 2, 1) := by decide +kernel
theorem d6_12 : decode jdk_65_method_103_code 12 = .ok (.iload_n 1, 1) := by decide +kernel
theorem d6_13 : decode jdk_65_method_103_code 13 = .ok (.iastore, 1) := by decide +kernel
theorem d6_14 : decode jdk_65_method_103_code 14 = .ok (.iinc 2 1, 3) := by decide +kernel
theorem d6_17 : decode jdk_65_method_103_code 17 = .ok (.goto (-12), 3) := by decide +kernel
theorem d6_20 : decode jdk_65_method_103_code 20 = .ok (.return_, 1) := by decide +kernel
theorem pn_6 : plainName "java/util/Arrays" = true := by first | (simp [plainName, overriddenIn]; done) | decide +kernel
theorem ef_6 (m : MethodId) (x0 : Addr) (x1 : Int32) : entryFrame m #[(.ref x0), (.int x1)] 4 = mkF m 0 #[.val (.ref x0), .val (.int x1), .unset, .unset] [] := by first | (simp [entryFrame, mkF, argsToLocals, Value.category]; done) | rfl
set_option maxRecDepth 65536 in
set_option maxHeartbeats 40000000 in
theorem isFill8 (l : Launch) (Z : State) (a0 : Array Value) (hw : ∀ d ∈ tables_1, d.before a0 Z = true) (g : Addr) (kg : ClassId) (y : Int32) (h0 : Heap) (O0 : Old Z Z.heap.size h0) (gg : Z.heap.size ≤ g) (Vg : Arv Z h0 g kg .int (8 : Int32) [(.int (0 : Int32)), (.int (0 : Int32)), (.int (0 : Int32)), (.int (0 : Int32)), (.int (0 : Int32)), (.int (0 : Int32)), (.int (0 : Int32)), (.int (0 : Int32))] (.int (0 : Int32))) : Ctr l Z (⟨"java/util/Arrays", "fill", "([II)V"⟩ : MethodName) jdk_65_method_103_code 4 none ({ frames := 0, cells := 0, slots := 0, locals := 0 } : Room) #[(.ref g), (.int y)] h0 (fun v h L => v = none ∧ Fr Z.heap.size L ∧ Keep h0 h [g] ∧ Arv Z h g kg .int (8 : Int32) [(.int y), (.int y), (.int y), (.int y), (.int y), (.int y), (.int y), (.int y)] (.int (0 : Int32))) := by
  refine Ctr.of (plainFor_of_name pn_6) ?_
  have wd : ∀ {d : Jvm.Cond} (i : Nat), tables_1[i]? = some d → d.before a0 Z = true := fun i q => hw _ (List.mem_of_getElem? q)
  intro p e s m below meth c s₁ hx hby hml hown hnm hret hlk hZ X0 e0
  refine Go.cast (ef_6 m g y) ?_
  show Go p e below _ s₁ (mkF m 0 #[.val (.ref g), .val (.int y), .unset, .unset] [])
  refine Go.iconst X0 hx (hb hby d6_0) rfl (0 : Int32) rfl ?_
  refine Go.istoreN X0 hx (hb hby d6_1) rfl  #[.val (.ref g), .val (.int y), .val (.int (0 : Int32)), .unset] rfl ?_
  refine Go.aloadN X0 hx (hb hby d6_2) rfl rfl rfl ?_
  refine Go.alen X0 hx hZ Vg e0 (hb hby d6_3) rfl ?_
  refine Go.istoreN X0 hx (hb hby d6_4) rfl  #[.val (.ref g), .val (.int y), .val (.int (0 : Int32)), .val (.int (8 : Int32))] rfl ?_
  refine Go.iloadN X0 hx (hb hby d6_5) rfl rfl  ?_
  refine Go.iloadN X0 hx (hb hby d6_6) rfl rfl  ?_
  refine Go.icmpNo X0 hx (hb hby d6_7) rfl (tlt (by decide : (0 : Int32) < (8 : Int32))).2.1 ?_
  refine Go.aloadN X0 hx (hb hby d6_10) rfl rfl rfl ?_
  refine Go.iloadN X0 hx (hb hby d6_11) rfl rfl  ?_
  refine Go.iloadN X0 hx (hb hby d6_12) rfl rfl  ?_
  refine Go.iastore X0 hx hZ Vg e0 ⟨by decide, by decide⟩ 0 (by decide) (Nat.le_of_ble_eq_true rfl)  (hb hby d6_13) rfl ?_
  intro T1 h1 X1 e1 W1 V1'
  have V1 : Arv Z h1 g kg .int (8 : Int32) [(.int y), (.int (0 : Int32)), (.int (0 : Int32)), (.int (0 : Int32)), (.int (0 : Int32)), (.int (0 : Int32)), (.int (0 : Int32)), (.int (0 : Int32))] (.int (0 : Int32)) := V1'
  have K2 := (Keep.refl h0 [g]).wr W1 (Or.inl (List.mem_of_getElem? (i := 0) rfl))
  have O3 := O0.wr W1 gg
  have N4 := Fr.snoc X1 (Fr.nil _) gg
  refine Go.iinc X1 hx (hb hby d6_14) rfl rfl #[.val (.ref g), .val (.int y), .val (.int ((0 : Int32) + (1 : Int32))), .val (.int (8 : Int32))] rfl ?_
  show Go p e below _ T1 (mkF m 17 #[.val (.ref g), .val (.int y), .val (.int ((0 : Int32) + (1 : Int32))), .val (.int (8 : Int32))] [])
  rw [show ((0 : Int32) + (1 : Int32)) = (1 : Int32) from by decide]
  show Go p e below _ T1 (mkF m 17 #[.val (.ref g), .val (.int y), .val (.int (1 : Int32)), .val (.int (8 : Int32))] [])
  refine Go.goto X1 hx (hb hby d6_17) rfl 5 (by decide) (by decide) ?_
  refine Go.iloadN X1 hx (hb hby d6_5) rfl rfl  ?_
  refine Go.iloadN X1 hx (hb hby d6_6) rfl rfl  ?_
  refine Go.icmpNo X1 hx (hb hby d6_7) rfl (tlt (by decide : (1 : Int32) < (8 : Int32))).2.1 ?_
  refine Go.aloadN X1 hx (hb hby d6_10) rfl rfl rfl ?_
  refine Go.iloadN X1 hx (hb hby d6_11) rfl rfl  ?_
  refine Go.iloadN X1 hx (hb hby d6_12) rfl rfl  ?_
  refine Go.iastore X1 hx hZ V1 e1 ⟨by decide, by decide⟩ 1 (by decide) (Nat.le_of_ble_eq_true rfl)  (hb hby d6_13) rfl ?_
  intro T5 h5 X5 e5 W5 V5'
  have V5 : Arv Z h5 g kg .int (8 : Int32) [(.int y), (.int y), (.int (0 : Int32)), (.int (0 : Int32)), (.int (0 : Int32)), (.int (0 : Int32)), (.int (0 : Int32)), (.int (0 : Int32))] (.int (0 : Int32)) := V5'
  have K6 := K2.wr W5 (Or.inl (List.mem_of_getElem? (i := 0) rfl))
  have O7 := O3.wr W5 gg
  have N8 := Fr.snoc X5 N4 gg
  refine Go.iinc X5 hx (hb hby d6_14) rfl rfl #[.val (.ref g), .val (.int y), .val (.int ((1 : Int32) + (1 : Int32))), .val (.int (8 : Int32))] rfl ?_
  show Go p e below _ T5 (mkF m 17 #[.val (.ref g), .val (.int y), .val (.int ((1 : Int32) + (1 : Int32))), .val (.int (8 : Int32))] [])
  rw [show ((1 : Int32) + (1 : Int32)) = (2 : Int32) from by decide]
  show Go p e below _ T5 (mkF m 17 #[.val (.ref g), .val (.int y), .val (.int (2 : Int32)), .val (.int (8 : Int32))] [])
  refine Go.goto X5 hx (hb hby d6_17) rfl 5 (by decide) (by decide) ?_
  refine Go.iloadN X5 hx (hb hby d6_5) rfl rfl  ?_
  refine Go.iloadN X5 hx (hb hby d6_6) rfl rfl  ?_
  refine Go.icmpNo X5 hx (hb hby d6_7) rfl (tlt (by decide : (2 : Int32) < (8 : Int32))).2.1 ?_
  refine Go.aloadN X5 hx (hb hby d6_10) rfl rfl rfl ?_
  refine Go.iloadN X5 hx (hb hby d6_11) rfl rfl  ?_
  refine Go.iloadN X5 hx (hb hby d6_12) rfl rfl  ?_
  refine Go.iastore X5 hx hZ V5 e5 ⟨by decide, by decide⟩ 2 (by decide) (Nat.le_of_ble_eq_true rfl)  (hb hby d6_13) rfl ?_
  intro T9 h9 X9 e9 W9 V9'
  have V9 : Arv Z h9 g kg .int (8 : Int32) [(.int y), (.int y), (.int y), (.int (0 : Int32)), (.int (0 : Int32)), (.int (0 : Int32)), (.int (0 : Int32)), (.int (0 : Int32))] (.int (0 : Int32)) := V9'
  have K10 := K6.wr W9 (Or.inl (List.mem_of_getElem? (i := 0) rfl))
  have O11 := O7.wr W9 gg
  have N12 := Fr.snoc X9 N8 gg
  refine Go.iinc X9 hx (hb hby d6_14) rfl rfl #[.val (.ref g), .val (.int y), .val (.int ((2 : Int32) + (1 : Int32))), .val (.int (8 : Int32))] rfl ?_
  show Go p e below _ T9 (mkF m 17 #[.val (.ref g), .val (.int y), .val (.int ((2 : Int32) + (1 : Int32))), .val (.int (8 : Int32))] [])
  rw [show ((2 : Int32) + (1 : Int32)) = (3 : Int32) from by decide]
  show Go p e below _ T9 (mkF m 17 #[.val (.ref g), .val (.int y), .val (.int (3 : Int32)), .val (.int (8 : Int32))] [])
  refine Go.goto X9 hx (hb hby d6_17) rfl 5 (by decide) (by decide) ?_
  refine Go.iloadN X9 hx (hb hby d6_5) rfl rfl  ?_
  refine Go.iloadN X9 hx (hb hby d6_6) rfl rfl  ?_
  refine Go.icmpNo X9 hx (hb hby d6_7) rfl (tlt (by decide : (3 : Int32) < (8 : Int32))).2.1 ?_
  refine Go.aloadN X9 hx (hb hby d6_10) rfl rfl rfl ?_
  refine Go.iloadN X9 hx (hb hby d6_11) rfl rfl  ?_
  refine Go.iloadN X9 hx (hb hby d6_12) rfl rfl  ?_
  refine Go.iastore X9 hx hZ V9 e9 ⟨by decide, by decide⟩ 3 (by decide) (Nat.le_of_ble_eq_true rfl)  (hb hby d6_13) rfl ?_
  intro T13 h13 X13 e13 W13 V13'
  have V13 : Arv Z h13 g kg .int (8 : Int32) [(.int y), (.int y), (.int y), (.int y), (.int (0 : Int32)), (.int (0 : Int32)), (.int (0 : Int32)), (.int (0 : Int32))] (.int (0 : Int32)) := V13'
  have K14 := K10.wr W13 (Or.inl (List.mem_of_getElem? (i := 0) rfl))
  have O15 := O11.wr W13 gg
  have N16 := Fr.snoc X13 N12 gg
  refine Go.iinc X13 hx (hb hby d6_14) rfl rfl #[.val (.ref g), .val (.int y), .val (.int ((3 : Int32) + (1 : Int32))), .val (.int (8 : Int32))] rfl ?_
  show Go p e below _ T13 (mkF m 17 #[.val (.ref g), .val (.int y), .val (.int ((3 : Int32) + (1 : Int32))), .val (.int (8 : Int32))] [])
  rw [show ((3 : Int32) + (1 : Int32)) = (4 : Int32) from by decide]
  show Go p e below _ T13 (mkF m 17 #[.val (.ref g), .val (.int y), .val (.int (4 : Int32)), .val (.int (8 : Int32))] [])
  refine Go.goto X13 hx (hb hby d6_17) rfl 5 (by decide) (by decide) ?_
  refine Go.iloadN X13 hx (hb hby d6_5) rfl rfl  ?_
  refine Go.iloadN X13 hx (hb hby d6_6) rfl rfl  ?_
  refine Go.icmpNo X13 hx (hb hby d6_7) rfl (tlt (by decide : (4 : Int32) < (8 : Int32))).2.1 ?_
  refine Go.aloadN X13 hx (hb hby d6_10) rfl rfl rfl ?_
  refine Go.iloadN X13 hx (hb hby d6_11) rfl rfl  ?_
  refine Go.iloadN X13 hx (hb hby d6_12) rfl rfl  ?_
  refine Go.iastore X13 hx hZ V13 e13 ⟨by decide, by decide⟩ 4 (by decide) (Nat.le_of_ble_eq_true rfl)  (hb hby d6_13) rfl ?_
  intro T17 h17 X17 e17 W17 V17'
  have V17 : Arv Z h17 g kg .int (8 : Int32) [(.int y), (.int y), (.int y), (.int y), (.int y), (.int (0 : Int32)), (.int (0 : Int32)), (.int (0 : Int32))] (.int (0 : Int32)) := V17'
  have K18 := K14.wr W17 (Or.inl (List.mem_of_getElem? (i := 0) rfl))
  have O19 := O15.wr W17 gg
  have N20 := Fr.snoc X17 N16 gg
  refine Go.iinc X17 hx (hb hby d6_14) rfl rfl #[.val (.ref g), .val (.int y), .val (.int ((4 : Int32) + (1 : Int32))), .val (.int (8 : Int32))] rfl ?_
  show Go p e below _ T17 (mkF m 17 #[.val (.ref g), .val (.int y), .val (.int ((4 : Int32) + (1 : Int32))), .val (.int (8 : Int32))] [])
  rw [show ((4 : Int32) + (1 : Int32)) = (5 : Int32) from by decide]
  show Go p e below _ T17 (mkF m 17 #[.val (.ref g), .val (.int y), .val (.int (5 : Int32)), .val (.int (8 : Int32))] [])
  refine Go.goto X17 hx (hb hby d6_17) rfl 5 (by decide) (by decide) ?_
  refine Go.iloadN X17 hx (hb hby d6_5) rfl rfl  ?_
  refine Go.iloadN X17 hx (hb hby d6_6) rfl rfl  ?_
  refine Go.icmpNo X17 hx (hb hby d6_7) rfl (tlt (by decide : (5 : Int32) < (8 : Int32))).2.1 ?_
  refine Go.aloadN X17 hx (hb hby d6_10) rfl rfl rfl ?_
  refine Go.iloadN X17 hx (hb hby d6_11) rfl rfl  ?_
  refine Go.iloadN X17 hx (hb hby d6_12) rfl rfl  ?_
  refine Go.iastore X17 hx hZ V17 e17 ⟨by decide, by decide⟩ 5 (by decide) (Nat.le_of_ble_eq_true rfl)  (hb hby d6_13) rfl ?_
  intro T21 h21 X21 e21 W21 V21'
  have V21 : Arv Z h21 g kg .int (8 : Int32) [(.int y), (.int y), (.int y), (.int y), (.int y), (.int y), (.int (0 : Int32)), (.int (0 : Int32))] (.int (0 : Int32)) := V21'
  have K22 := K18.wr W21 (Or.inl (List.mem_of_getElem? (i := 0) rfl))
  have O23 := O19.wr W21 gg
  have N24 := Fr.snoc X21 N20 gg
  refine Go.iinc X21 hx (hb hby d6_14) rfl rfl #[.val (.ref g), .val (.int y), .val (.int ((5 : Int32) + (1 : Int32))), .val (.int (8 : Int32))] rfl ?_
  show Go p e below _ T21 (mkF m 17 #[.val (.ref g), .val (.int y), .val (.int ((5 : Int32) + (1 : Int32))), .val (.int (8 : Int32))] [])
  rw [show ((5 : Int32) + (1 : Int32)) = (6 : Int32) from by decide]
  show Go p e below _ T21 (mkF m 17 #[.val (.ref g), .val (.int y), .val (.int (6 : Int32)), .val (.int (8 : Int32))] [])
  refine Go.goto X21 hx (hb hby d6_17) rfl 5 (by decide) (by decide) ?_
  refine Go.iloadN X21 hx (hb hby d6_5) rfl rfl  ?_
  refine Go.iloadN X21 hx (hb hby d6_6) rfl rfl  ?_
  refine Go.icmpNo X21 hx (hb hby d6_7) rfl (tlt (by decide : (6 : Int32) < (8 : Int32))).2.1 ?_
  refine Go.aloadN X21 hx (hb hby d6_10) rfl rfl rfl ?_
  refine Go.iloadN X21 hx (hb hby d6_11) rfl rfl  ?_
  refine Go.iloadN X21 hx (hb hby d6_12) rfl rfl  ?_
  refine Go.iastore X21 hx hZ V21 e21 ⟨by decide, by decide⟩ 6 (by decide) (Nat.le_of_ble_eq_true rfl)  (hb hby d6_13) rfl ?_
  intro T25 h25 X25 e25 W25 V25'
  have V25 : Arv Z h25 g kg .int (8 : Int32) [(.int y), (.int y), (.int y), (.int y), (.int y), (.int y), (.int y), (.int (0 : Int32))] (.int (0 : Int32)) := V25'
  have K26 := K22.wr W25 (Or.inl (List.mem_of_getElem? (i := 0) rfl))
  have O27 := O23.wr W25 gg
  have N28 := Fr.snoc X25 N24 gg
  refine Go.iinc X25 hx (hb hby d6_14) rfl rfl #[.val (.ref g), .val (.int y), .val (.int ((6 : Int32) + (1 : Int32))), .val (.int (8 : Int32))] rfl ?_
  show Go p e below _ T25 (mkF m 17 #[.val (.ref g), .val (.int y), .val (.int ((6 : Int32) + (1 : Int32))), .val (.int (8 : Int32))] [])
  rw [show ((6 : Int32) + (1 : Int32)) = (7 : Int32) from by decide]
  show Go p e below _ T25 (mkF m 17 #[.val (.ref g), .val (.int y), .val (.int (7 : Int32)), .val (.int (8 : Int32))] [])
  refine Go.goto X25 hx (hb hby d6_17) rfl 5 (by decide) (by decide) ?_
  refine Go.iloadN X25 hx (hb hby d6_5) rfl rfl  ?_
  refine Go.iloadN X25 hx (hb hby d6_6) rfl rfl  ?_
  refine Go.icmpNo X25 hx (hb hby d6_7) rfl (tlt (by decide : (7 : Int32) < (8 : Int32))).2.1 ?_
  refine Go.aloadN X25 hx (hb hby d6_10) rfl rfl rfl ?_
  refine Go.iloadN X25 hx (hb hby d6_11) rfl rfl  ?_
  refine Go.iloadN X25 hx (hb hby d6_12) rfl rfl  ?_
  refine Go.iastore X25 hx hZ V25 e25 ⟨by decide, by decide⟩ 7 (by decide) (Nat.le_of_ble_eq_true rfl)  (hb hby d6_13) rfl ?_
  intro T29 h29 X29 e29 W29 V29'
  have V29 : Arv Z h29 g kg .int (8 : Int32) [(.int y), (.int y), (.int y), (.int y), (.int y), (.int y), (.int y), (.int y)] (.int (0 : Int32)) := V29'
  have K30 := K26.wr W29 (Or.inl (List.mem_of_getElem? (i := 0) rfl))
  have O31 := O27.wr W29 gg
  have N32 := Fr.snoc X29 N28 gg
  refine Go.iinc X29 hx (hb hby d6_14) rfl rfl #[.val (.ref g), .val (.int y), .val (.int ((7 : Int32) + (1 : Int32))), .val (.int (8 : Int32))] rfl ?_
  show Go p e below _ T29 (mkF m 17 #[.val (.ref g), .val (.int y), .val (.int ((7 : Int32) + (1 : Int32))), .val (.int (8 : Int32))] [])
  rw [show ((7 : Int32) + (1 : Int32)) = (8 : Int32) from by decide]
  show Go p e below _ T29 (mkF m 17 #[.val (.ref g), .val (.int y), .val (.int (8 : Int32)), .val (.int (8 : Int32))] [])
  refine Go.goto X29 hx (hb hby d6_17) rfl 5 (by decide) (by decide) ?_
  refine Go.iloadN X29 hx (hb hby d6_5) rfl rfl  ?_
  refine Go.iloadN X29 hx (hb hby d6_6) rfl rfl  ?_
  refine Go.icmpYes X29 hx (hb hby d6_7) rfl 20 (flt (by decide : ¬ ((8 : Int32) < (8 : Int32)))).2.1 (by decide) (by decide) ?_
  exact Go.retV X29 hx hret hlk (hb hby d6_20) rfl (by rw [e29]; exact ⟨rfl, N32, K30, V29⟩) (Nat.le_of_ble_eq_true rfl) (Nat.le_of_ble_eq_true rfl)
set_option maxRecDepth 65536 in
set_option maxHeartbeats 40000000 in
theorem isFree8 (l : Launch) (Z : State) (a0 : Array Value) (hw : ∀ d ∈ tables_1, d.before a0 Z = true)  (h0 : Heap) (O0 : Old Z Z.heap.size h0)  : Ctr l Z (⟨"com/example/overrule/overrule/engine/IntSet", "freeSlots", "(I)[I"⟩ : MethodName) prog_46_method_11_code 2 (some (.array .int)) ({ frames := 1, cells := 1, slots := 8, locals := 15 } : Room) #[(.int (8 : Int32))] h0 (fun v h L => ∃ (g : Addr) (kg : ClassId), v = some (.ref g) ∧ Fr Z.heap.size L ∧ Keep h0 h [] ∧ h0.size ≤ g ∧ Arv Z h g kg .int (8 : Int32) [(.int (-1 : Int32)), (.int (-1 : Int32)), (.int (-1 : Int32)), (.int (-1 : Int32)), (.int (-1 : Int32)), (.int (-1 : Int32)), (.int (-1 : Int32)), (.int (-1 : Int32))] (.int (0 : Int32))) := by
  refine Ctr.of (plainFor_of_name pn_5) ?_
  have wd : ∀ {d : Jvm.Cond} (i : Nat), tables_1[i]? = some d → d.before a0 Z = true := fun i q => hw _ (List.mem_of_getElem? q)
  intro p e s m below meth c s₁ hx hby hml hown hnm hret hlk hZ X0 e0
  refine Go.cast (ef_5 m (8 : Int32)) ?_
  show Go p e below _ s₁ (mkF m 0 #[.val (.int (8 : Int32)), .unset] [])
  refine Go.iloadN X0 hx (hb hby d5_0) rfl rfl  ?_
  refine Go.newP X0 hx hZ (wd 5 rfl) e0 8 (by decide) 8 (by decide) (by decide) (Nat.le_of_ble_eq_true rfl) (Nat.le_of_ble_eq_true rfl) "[I" (by decide) (hb hby d5_1) rfl ?_
  intro T1 h1 b1 k1 g1 X1 e1 E1 V1' A1
  have V1 : Arv Z h1 b1 k1 .int (8 : Int32) [(.int (0 : Int32)), (.int (0 : Int32)), (.int (0 : Int32)), (.int (0 : Int32)), (.int (0 : Int32)), (.int (0 : Int32)), (.int (0 : Int32)), (.int (0 : Int32))] (.int (0 : Int32)) := V1'
  have q1 : Z.heap.size ≤ b1 := Nat.le_trans O0.2.1 (Nat.le_of_eq g1.symm)
  have z1 : h0.size ≤ b1 := Nat.le_trans (Keep.refl h0 []).1 (Nat.le_of_eq g1.symm)
  have K2 := (Keep.refl h0 []).ext E1
  have O3 := O0.ext E1
  refine Go.astoreN X1 hx (hb hby d5_3) rfl rfl #[.val (.int (8 : Int32)), .val (.ref b1)] rfl ?_
  refine Go.aloadN X1 hx (hb hby d5_4) rfl rfl rfl ?_
  refine Go.iconst X1 hx (hb hby d5_5) rfl (-1 : Int32) rfl ?_
  refine Go.callS X1 hx hZ hown (wd 29 rfl) (wd 30 rfl) (wd 31 rfl) (wd 32 rfl) (by decide) [(.ref b1), (.int (-1 : Int32))] [] (isFill8 l Z a0 hw b1 k1 (-1 : Int32) h1 O3 q1 V1) e1 rfl (by rw [hml]; rfl) pd_0 rfl (hb hby d5_6) (Nat.le_of_ble_eq_true rfl) (Nat.le_of_ble_eq_true rfl) (Nat.le_of_ble_eq_true rfl) (Nat.le_of_ble_eq_true rfl) ?_
  rintro vv4 T4 L4 X4 Q4
  obtain ⟨rfl, N4, K4, V4⟩ := Q4
  have M5 := Fr.app (Fr.nil _) N4
  have O6 := O3.keep K4 (allS q1 (all0))
  have K7 := Keep.trans K2 K4 (allS (Or.inr z1) (all0))
  refine Go.aloadN X4 hx (hb hby d5_9) rfl rfl rfl ?_
  exact Go.retA X4 hx hret hlk rfl rfl (hb hby d5_10) rfl ⟨b1, k1, rfl, M5, K7, z1, V4⟩ (Nat.le_of_ble_eq_true rfl) (Nat.le_of_ble_eq_true rfl)
theorem d2_0 : decode prog_46_method_1_code 0 = .ok (.aload_n 0, 1) := by decide +kernel
theorem d2_1 : decode prog_46_method_1_code 1 = .ok (.invokespecial 1, 3) := by decide +kernel
theorem d2_4 : decode prog_46_method_1_code 4 = .ok (.aload_n 0, 1) := by decide +kernel
theorem d2_5 : decode prog_46_method_1_code 5 = .ok (.getstatic 7, 3) := by decide +kernel
theorem d2_8 : decode prog_46_method_1_code 8 = .ok (.putfield 13, 3) := by decide +kernel
theorem d2_11 : decode prog_46_method_1_code 11 = .ok (.aload_n 0, 1) := by decide +kernel
theorem d2_12 : decode prog_46_method_1_code 12 = .ok (.getstatic 7, 3) := by decide +kernel
theorem d2_15 : decode prog_46_method_1_code 15 = .ok (.putfield 16, 3) := by decide +kernel
theorem d2_18 : decode prog_46_method_1_code 18 = .ok (.return_, 1) := by decide +kernel
theorem ef_2 (m : MethodId) (x0 : Addr) : entryFrame m #[(.ref x0)] 1 = mkF m 0 #[.val (.ref x0)] [] := by first | (simp [entryFrame, mkF, argsToLocals, Value.category]; done) | rfl
set_option maxRecDepth 65536 in
set_option maxHeartbeats 40000000 in
theorem isInit (l : Launch) (Z : State) (a0 : Array Value) (hw : ∀ d ∈ tables_1, d.before a0 Z = true) (a : Addr) (a_NONE : Addr) (k_NONE : ClassId) (h0 : Heap) (O0 : Old Z Z.heap.size h0) (FF : Facts Z a_NONE k_NONE) (Ea : Exa Z h0 a "com/example/overrule/overrule/engine/IntSet") (ga : Z.heap.size ≤ a) (Fe : Fld Z h0 a "com/example/overrule/overrule/engine/IntSet" "elements" "[I" .null) (Fn : Fld Z h0 a "com/example/overrule/overrule/engine/IntSet" "size" "I" (.int (0 : Int32))) (Fs : Fld Z h0 a "com/example/overrule/overrule/engine/IntSet" "slots" "[I" .null) : Ctr l Z (⟨"com/example/overrule/overrule/engine/IntSet", "<init>", "()V"⟩ : MethodName) prog_46_method_1_code 1 none ({ frames := 1, cells := 0, slots := 0, locals := 12 } : Room) #[(.ref a)] h0 (fun v h L => v = none ∧ Fr Z.heap.size L ∧ Keep h0 h [a] ∧ Exa Z h a "com/example/overrule/overrule/engine/IntSet" ∧ Fld Z h a "com/example/overrule/overrule/engine/IntSet" "elements" "[I" (.ref a_NONE) ∧ Fld Z h a "com/example/overrule/overrule/engine/IntSet" "size" "I" (.int (0 : Int32)) ∧ Fld Z h a "com/example/overrule/overrule/engine/IntSet" "slots" "[I" (.ref a_NONE)) := by
  refine Ctr.of (plainFor_of_name pn_5) ?_
  have wd : ∀ {d : Jvm.Cond} (i : Nat), tables_1[i]? = some d → d.before a0 Z = true := fun i q => hw _ (List.mem_of_getElem? q)
  intro p e s m below meth c s₁ hx hby hml hown hnm hret hlk hZ X0 e0
  have FF' := FF
  obtain ⟨S_NONE, V_NONE⟩ := FF'
  refine Go.cast (ef_2 m a) ?_
  show Go p e below _ s₁ (mkF m 0 #[.val (.ref a)] [])
  refine Go.aloadN X0 hx (hb hby d2_0) rfl rfl rfl ?_
  refine Go.initO X0 hx hZ hown (wd 12 rfl) (wd 13 rfl) (wd 14 rfl) e0 (by rw [hml]; rfl) (hb hby d2_1) rfl (Nat.le_of_ble_eq_true rfl) (Nat.le_of_ble_eq_true rfl) ?_
  intro T1 X1 e1
  refine Go.aloadN X1 hx (hb hby d2_4) rfl rfl rfl ?_
  refine Go.getS X1 hx hZ hown (host := "") (Or.inl (wd 15 rfl)) Via.refl e1 (S_NONE.ext O0.2) (hb hby d2_5) rfl ?_
  intro T2 X2 e2
  refine Go.putF X2 hx hZ hown (host := "") (Or.inl (wd 17 rfl)) Via.refl e2 Fe Ea (Or.inl (wd 18 rfl)) (wd 7 rfl) (ty := (.array .int)) (by decide) rfl rfl (hb hby d2_8) rfl ?_
  intro T3 h3 X3 e3 W3 F4
  have K5 := (Keep.refl h0 [a]).wr W3 (Or.inl (List.mem_of_getElem? (i := 0) rfl))
  have O6 := O0.wr W3 ga
  have N7 := Fr.snoc X3 (Fr.nil _) ga
  have E8 := Ea.wr W3
  have F9 := Fn.other W3 (Or.inr (slot_ne (Or.inl (wd 38 rfl)) (Or.inl (wd 18 rfl)) (by decide) (t := .int) (t' := (.array .int)) (by decide) (by decide)))
  have F10 := Fs.other W3 (Or.inr (slot_ne (Or.inl (wd 20 rfl)) (Or.inl (wd 18 rfl)) (by decide) (t := (.array .int)) (t' := (.array .int)) (by decide) (by decide)))
  refine Go.aloadN X3 hx (hb hby d2_11) rfl rfl rfl ?_
  refine Go.getS X3 hx hZ hown (host := "") (Or.inl (wd 15 rfl)) Via.refl e3 (S_NONE.ext O6.2) (hb hby d2_12) rfl ?_
  intro T11 X11 e11
  refine Go.putF X11 hx hZ hown (host := "") (Or.inl (wd 19 rfl)) Via.refl e11 F10 E8 (Or.inl (wd 20 rfl)) (wd 7 rfl) (ty := (.array .int)) (by decide) rfl rfl (hb hby d2_15) rfl ?_
  intro T12 h12 X12 e12 W12 F13
  have K14 := K5.wr W12 (Or.inl (List.mem_of_getElem? (i := 0) rfl))
  have O15 := O6.wr W12 ga
  have N16 := Fr.snoc X12 N7 ga
  have E17 := E8.wr W12
  have F18 := F4.other W12 (Or.inr (slot_ne (Or.inl (wd 18 rfl)) (Or.inl (wd 20 rfl)) (by decide) (t := (.array .int)) (t' := (.array .int)) (by decide) (by decide)))
  have F19 := F9.other W12 (Or.inr (slot_ne (Or.inl (wd 38 rfl)) (Or.inl (wd 20 rfl)) (by decide) (t := .int) (t' := (.array .int)) (by decide) (by decide)))
  exact Go.retV X12 hx hret hlk (hb hby d2_18) rfl (by rw [e12]; exact ⟨rfl, N16, K14, E17, F18, F19, F13⟩) (Nat.le_of_ble_eq_true rfl) (Nat.le_of_ble_eq_true rfl)
theorem d4_0 : decode prog_46_method_2_code 0 = .ok (.aload_n 0, 1) := by decide +kernel
theorem d4_1 : decode prog_46_method_2_code 1 = .ok (.getfield 16, 3) := by decide +kernel
theorem d4_4 : decode prog_46_method_2_code 4 = .ok (.getstatic 7, 3) := by decide +kernel
theorem d4_7 : decode prog_46_method_2_code 7 = .ok (.if_acmp .ne 19, 3) := by decide +kernel
theorem d4_10 : decode prog_46_method_2_code 10 = .ok (.aload_n 0, 1) := by decide +kernel
theorem d4_11 : decode prog_46_method_2_code 11 = .ok (.iconst 4, 1) := by decide +kernel
theorem d4_12 : decode prog_46_method_2_code 12 = .ok (.newarray .int, 2) := by decide +kernel
theorem d4_14 : decode prog_46_method_2_code 14 = .ok (.putfield 13, 3) := by decide +kernel
theorem d4_17 : decode prog_46_method_2_code 17 = .ok (.aload_n 0, 1) := by decide +kernel
theorem d4_18 : decode prog_46_method_2_code 18 = .ok (.bipush 8, 2) := by decide +kernel
theorem d4_20 : decode prog_46_method_2_code 20 = .ok (.invokestatic 19, 3) := by decide +kernel
theorem d4_23 : decode prog_46_method_2_code 23 = .ok (.putfield 16, 3) := by decide +kernel
theorem d4_26 : decode prog_46_method_2_code 26 = .ok (.aload_n 0, 1) := by decide +kernel
theorem d4_27 : decode prog_46_method_2_code 27 = .ok (.getfield 16, 3) := by decide +kernel
theorem d4_30 : decode prog_46_method_2_code 30 = .ok (.arraylength, 1) := by decide +kernel
theorem d4_31 : decode prog_46_method_2_code 31 = .ok (.iconst 1, 1) := by decide +kernel
theorem d4_32 : decode prog_46_method_2_code 32 = .ok (.isub, 1) := by decide +kernel
theorem d4_33 : decode prog_46_method_2_code 33 = .ok (.istore_n 2, 1) := by decide +kernel
theorem d4_34 : decode prog_46_method_2_code 34 = .ok (.iload_n 1, 1) := by decide +kernel
theorem d4_35 : decode prog_46_method_2_code 35 = .ok (.iload_n 2, 1) := by decide +kernel
theorem d4_36 : decode prog_46_method_2_code 36 = .ok (.invokestatic 23, 3) := by decide +kernel
theorem d4_39 : decode prog_46_method_2_code 39 = .ok (.istore_n 3, 1) := by decide +kernel
theorem d4_40 : decode prog_46_method_2_code 40 = .ok (.aload_n 0, 1) := by decide +kernel
theorem d4_41 : decode prog_46_method_2_code 41 = .ok (.getfield 16, 3) := by decide +kernel
theorem d4_44 : decode prog_46_method_2_code 44 = .ok (.iload_n 3, 1) := by decide +kernel
theorem d4_45 : decode prog_46_method_2_code 45 = .ok (.iaload, 1) := by decide +kernel
theorem d4_46 : decode prog_46_method_2_code 46 = .ok (.iconst (-1), 1) := by decide +kernel
theorem d4_47 : decode prog_46_method_2_code 47 = .ok (.if_icmp .eq 24, 3) := by decide +kernel
theorem d4_50 : decode prog_46_method_2_code 50 = .ok (.aload_n 0, 1) := by decide +kernel
theorem d4_51 : decode prog_46_method_2_code 51 = .ok (.getfield 16, 3) := by decide +kernel
theorem d4_54 : decode prog_46_method_2_code 54 = .ok (.iload_n 3, 1) := by decide +kernel
theorem d4_55 : decode prog_46_method_2_code 55 = .ok (.iaload, 1) := by decide +kernel
theorem d4_56 : decode prog_46_method_2_code 56 = .ok (.iload_n 1, 1) := by decide +kernel
theorem d4_57 : decode prog_46_method_2_code 57 = .ok (.if_icmp .ne 5, 3) := by decide +kernel
theorem d4_60 : decode prog_46_method_2_code 60 = .ok (.iconst 0, 1) := by decide +kernel
theorem d4_61 : decode prog_46_method_2_code 61 = .ok (.ireturn, 1) := by decide +kernel
theorem d4_62 : decode prog_46_method_2_code 62 = .ok (.iload_n 3, 1) := by decide +kernel
theorem d4_63 : decode prog_46_method_2_code 63 = .ok (.iconst 1, 1) := by decide +kernel
theorem d4_64 : decode prog_46_method_2_code 64 = .ok (.iadd, 1) := by decide +kernel
theorem d4_65 : decode prog_46_method_2_code 65 = .ok (.iload_n 2, 1) := by decide +kernel
theorem d4_66 : decode prog_46_method_2_code 66 = .ok (.iand, 1) := by decide +kernel
theorem d4_67 : decode prog_46_method_2_code 67 = .ok (.istore_n 3, 1) := by decide +kernel
theorem d4_68 : decode prog_46_method_2_code 68 = .ok (.goto (-28), 3) := by decide +kernel
theorem d4_71 : decode prog_46_method_2_code 71 = .ok (.aload_n 0, 1) := by decide +kernel
theorem d4_72 : decode prog_46_method_2_code 72 = .ok (.getfield 16, 3) := by decide +kernel
theorem d4_75 : decode prog_46_method_2_code 75 = .ok (.iload_n 3, 1) := by decide +kernel
theorem d4_76 : decode prog_46_method_2_code 76 = .ok (.iload_n 1, 1) := by decide +kernel
theorem d4_77 : decode prog_46_method_2_code 77 = .ok (.iastore, 1) := by decide +kernel
theorem d4_78 : decode prog_46_method_2_code 78 = .ok (.aload_n 0, 1) := by decide +kernel
theorem d4_79 : decode prog_46_method_2_code 79 = .ok (.getfield 27, 3) := by decide +kernel
theorem d4_82 : decode prog_46_method_2_code 82 = .ok (.aload_n 0, 1) := by decide +kernel
theorem d4_83 : decode prog_46_method_2_code 83 = .ok (.getfield 13, 3) := by decide +kernel
theorem d4_86 : decode prog_46_method_2_code 86 = .ok (.arraylength, 1) := by decide +kernel
theorem d4_87 : decode prog_46_method_2_code 87 = .ok (.if_icmp .ne 20, 3) := by decide +kernel
theorem d4_90 : decode prog_46_method_2_code 90 = .ok (.aload_n 0, 1) := by decide +kernel
theorem d4_91 : decode prog_46_method_2_code 91 = .ok (.aload_n 0, 1) := by decide +kernel
theorem d4_92 : decode prog_46_method_2_code 92 = .ok (.getfield 13, 3) := by decide +kernel
theorem d4_95 : decode prog_46_method_2_code 95 = .ok (.aload_n 0, 1) := by decide +kernel
theorem d4_96 : decode prog_46_method_2_code 96 = .ok (.getfield 27, 3) := by decide +kernel
theorem d4_99 : decode prog_46_method_2_code 99 = .ok (.iconst 2, 1) := by decide +kernel
theorem d4_100 : decode prog_46_method_2_code 100 = .ok (.imul, 1) := by decide +kernel
theorem d4_101 : decode prog_46_method_2_code 101 = .ok (.invokestatic 31, 3) := by decide +kernel
theorem d4_104 : decode prog_46_method_2_code 104 = .ok (.putfield 13, 3) := by decide +kernel
theorem d4_107 : decode prog_46_method_2_code 107 = .ok (.aload_n 0, 1) := by decide +kernel
theorem d4_108 : decode prog_46_method_2_code 108 = .ok (.getfield 13, 3) := by decide +kernel
theorem d4_111 : decode prog_46_method_2_code 111 = .ok (.aload_n 0, 1) := by decide +kernel
theorem d4_112 : decode prog_46_method_2_code 112 = .ok (.dup, 1) := by decide +kernel
theorem d4_113 : decode prog_46_method_2_code 113 = .ok (.getfield 27, 3) := by decide +kernel
theorem d4_116 : decode prog_46_method_2_code 116 = .ok (.dup_x1, 1) := by decide +kernel
theorem d4_117 : decode prog_46_method_2_code 117 = .ok (.iconst 1, 1) := by decide +kernel
theorem d4_118 : decode prog_46_method_2_code 118 = .ok (.iadd, 1) := by decide +kernel
theorem d4_119 : decode prog_46_method_2_code 119 = .ok (.putfield 27, 3) := by decide +kernel
theorem d4_122 : decode prog_46_method_2_code 122 = .ok (.iload_n 1, 1) := by decide +kernel
theorem d4_123 : decode prog_46_method_2_code 123 = .ok (.iastore, 1) := by decide +kernel
theorem d4_124 : decode prog_46_method_2_code 124 = .ok (.aload_n 0, 1) := by decide +kernel
theorem d4_125 : decode prog_46_method_2_code 125 = .ok (.getfield 27, 3) := by decide +kernel
theorem d4_128 : decode prog_46_method_2_code 128 = .ok (.iconst 2, 1) := by decide +kernel
theorem d4_129 : decode prog_46_method_2_code 129 = .ok (.imul, 1) := by decide +kernel
theorem d4_130 : decode prog_46_method_2_code 130 = .ok (.aload_n 0, 1) := by decide +kernel
theorem d4_131 : decode prog_46_method_2_code 131 = .ok (.getfield 16, 3) := by decide +kernel
theorem d4_134 : decode prog_46_method_2_code 134 = .ok (.arraylength, 1) := by decide +kernel
theorem d4_135 : decode prog_46_method_2_code 135 = .ok (.if_icmp .le 14, 3) := by decide +kernel
theorem d4_138 : decode prog_46_method_2_code 138 = .ok (.aload_n 0, 1) := by decide +kernel
theorem d4_139 : decode prog_46_method_2_code 139 = .ok (.aload_n 0, 1) := by decide +kernel
theorem d4_140 : decode prog_46_method_2_code 140 = .ok (.getfield 16, 3) := by decide +kernel
theorem d4_143 : decode prog_46_method_2_code 143 = .ok (.arraylength, 1) := by decide +kernel
theorem d4_144 : decode prog_46_method_2_code 144 = .ok (.iconst 2, 1) := by decide +kernel
theorem d4_145 : decode prog_46_method_2_code 145 = .ok (.imul, 1) := by decide +kernel
theorem d4_146 : decode prog_46_method_2_code 146 = .ok (.invokevirtual 37, 3) := by decide +kernel
theorem d4_149 : decode prog_46_method_2_code 149 = .ok (.iconst 1, 1) := by decide +kernel
theorem d4_150 : decode prog_46_method_2_code 150 = .ok (.ireturn, 1) := by decide +kernel
theorem ef_4 (m : MethodId) (x0 : Addr) (x1 : Int32) : entryFrame m #[(.ref x0), (.int x1)] 4 = mkF m 0 #[.val (.ref x0), .val (.int x1), .unset, .unset] [] := by first | (simp [entryFrame, mkF, argsToLocals, Value.category]; done) | rfl
set_option maxRecDepth 65536 in
set_option maxHeartbeats 40000000 in
theorem isProbe {p : Program} {l : Launch} {e : Env} {R : Room} {s : State} {m : MethodId} {args : Array Value} {below : List Frame} {meth : Method} {c : Code} {locs : List Loc} {cells slots : Nat} {Z : State} {a0 : Array Value} {P : Outcome → State → Prop} (hw : ∀ d ∈ tables_1, d.before a0 Z = true) (hx : p.tables.exec = Jvm.exec) (hby : c.code = prog_46_method_2_code) (hml : c.maxLocals = 4) (hown : s.vm.findClass "com/example/overrule/overrule/engine/IntSet" = some m.cls) (hZ : Z.Warmed39 s.vm) (a sl : Addr) (ks : ClassId) (x : Int32) (t : List Int32) (h0 : Heap) (Fs : Fld Z h0 a "com/example/overrule/overrule/engine/IntSet" "slots" "[I" (.ref sl)) (Vs : Arv Z h0 sl ks .int (8 : Int32) (t.map Value.int) (.int (0 : Int32))) (hnf : ∀ i, i < 8 → t.getD i 0 ≠ x) : ∀ (k : Nat) (j : Int32) (i : Nat) (T : State), Stand p l e R s m args below meth c T locs cells slots → T.heap = h0 → Ix (8 : Int32) j i → (∃ d, d < k ∧ t.getD ((i + d) % 8) 0 = -1) → (∀ (T' : State) (j' : Int32), Stand p l e R s m args below meth c T' locs cells slots → T'.heap = h0 → Ix (8 : Int32) j' (ffN t 8 k i) → Go p e below P T' (mkF m 71 #[.val (.ref a), .val (.int x), .val (.int (7 : Int32)), .val (.int j')] [])) → Go p e below P T (mkF m 40 #[.val (.ref a), .val (.int x), .val (.int (7 : Int32)), .val (.int j)] []) := by
  have wd : ∀ {d : Jvm.Cond} (i : Nat), tables_1[i]? = some d → d.before a0 Z = true := fun i q => hw _ (List.mem_of_getElem? q)
  intro k
  induction k with
  | zero => rintro j i T X e hj ⟨d, hd, -⟩; omega
  | succ k ih =>
    intro j i T9 X9 e9 hj hf K
    have hi : i < 8 := by have := hj.int; have h2 := Int32.lt_iff_toInt_lt.mp hj.2.1; rw [show (8 : Int32).toInt = 8 from by decide] at h2; omega
    show Go p e below _ T9 (mkF m 40 #[.val (.ref a), .val (.int x), .val (.int (7 : Int32)), .val (.int j)] [])
    refine Go.aloadN X9 hx (hb hby d4_40) rfl rfl rfl ?_
    refine Go.getF X9 hx hZ hown (host := "") (Or.inl (wd 19 rfl)) Via.refl e9 Fs (hb hby d4_41) rfl ?_
    intro T1 X1 e1
    refine Go.iloadN X1 hx (hb hby d4_44) rfl rfl  ?_
    refine Go.iaload X1 hx hZ (.int (t.getD i 0)) Vs e1  ⟨hj.1, hj.2.1⟩ (own_getD hj.2.2) (hb hby d4_45) rfl ?_
    refine Go.iconst X1 hx (hb hby d4_46) rfl (-1 : Int32) rfl ?_
    by_cases hc2 : (t.getD i 0) = (-1 : Int32)
    · refine Go.icmpYes X1 hx (hb hby d4_47) rfl 71 (teq hc2).1 (by decide) (by decide) ?_
      show Go p e below _ T1 (mkF m 71 #[.val (.ref a), .val (.int x), .val (.int (7 : Int32)), .val (.int j)] [])
      exact K _ _ X1 e1 (by unfold ffN; rw [if_pos hc2]; exact hj)
    · refine Go.icmpNo X1 hx (hb hby d4_47) rfl (feq hc2).1 ?_
      refine Go.aloadN X1 hx (hb hby d4_50) rfl rfl rfl ?_
      refine Go.getF X1 hx hZ hown (host := "") (Or.inl (wd 19 rfl)) Via.refl e1 Fs (hb hby d4_51) rfl ?_
      intro T3 X3 e3
      refine Go.iloadN X3 hx (hb hby d4_54) rfl rfl  ?_
      refine Go.iaload X3 hx hZ (.int (t.getD i 0)) Vs e3  ⟨hj.1, hj.2.1⟩ (own_getD hj.2.2) (hb hby d4_55) rfl ?_
      refine Go.iloadN X3 hx (hb hby d4_56) rfl rfl  ?_
      refine Go.icmpYes X3 hx (hb hby d4_57) rfl 62 (feq (hnf i hi)).2 (by decide) (by decide) ?_
      refine Go.iloadN X3 hx (hb hby d4_62) rfl rfl  ?_
      refine Go.iconst X3 hx (hb hby d4_63) rfl (1 : Int32) rfl ?_
      refine Go.iadd X3 hx (hb hby d4_64) rfl ?_
      refine Go.iloadN X3 hx (hb hby d4_65) rfl rfl  ?_
      refine Go.iand X3 hx (hb hby d4_66) rfl ?_
      refine Go.istoreN X3 hx (hb hby d4_67) rfl  #[.val (.ref a), .val (.int x), .val (.int (7 : Int32)), .val (.int ((j + (1 : Int32)) &&& (7 : Int32)))] rfl ?_
      refine Go.goto X3 hx (hb hby d4_68) rfl 40 (by decide) (by decide) ?_
      show Go p e below _ T3 (mkF m 40 #[.val (.ref a), .val (.int x), .val (.int (7 : Int32)), .val (.int ((j + (1 : Int32)) &&& (7 : Int32)))] [])
      refine ih _ ((i + 1) % 8) _ X3 e3 (ix_next (b := 3) (by decide) rfl (by decide) (by decide) hj) ?_ ?_
      · obtain ⟨d, hd, hv⟩ := hf
        cases d with
        | zero => rw [Nat.add_zero, Nat.mod_eq_of_lt hi] at hv; exact absurd hv hc2
        | succ d => exact ⟨d, by omega, by rw [step_mod]; exact hv⟩
      · intro T' j' X' e' hj'
        refine K T' j' X' e' ?_
        unfold ffN; rw [if_neg hc2]; exact hj'
set_option maxRecDepth 65536 in
set_option maxHeartbeats 40000000 in
theorem isFound {p : Program} {l : Launch} {e : Env} {R : Room} {s : State} {m : MethodId} {args : Array Value} {below : List Frame} {meth : Method} {c : Code} {locs : List Loc} {cells slots : Nat} {Z : State} {a0 : Array Value} {P : Outcome → State → Prop} (hw : ∀ d ∈ tables_1, d.before a0 Z = true) (hx : p.tables.exec = Jvm.exec) (hby : c.code = prog_46_method_2_code) (hml : c.maxLocals = 4) (hown : s.vm.findClass "com/example/overrule/overrule/engine/IntSet" = some m.cls) (hZ : Z.Warmed39 s.vm) (a sl : Addr) (ks : ClassId) (x : Int32) (t : List Int32) (h0 : Heap) (Fs : Fld Z h0 a "com/example/overrule/overrule/engine/IntSet" "slots" "[I" (.ref sl)) (Vs : Arv Z h0 sl ks .int (8 : Int32) (t.map Value.int) (.int (0 : Int32))) : ∀ (k : Nat) (j : Int32) (i : Nat) (T : State), Stand p l e R s m args below meth c T locs cells slots → T.heap = h0 → Ix (8 : Int32) j i → lookN t 8 x k i = true → (∀ (T' : State) (j' : Int32), Stand p l e R s m args below meth c T' locs cells slots → T'.heap = h0 → Go p e below P T' (mkF m 60 #[.val (.ref a), .val (.int x), .val (.int (7 : Int32)), .val (.int j')] [])) → Go p e below P T (mkF m 40 #[.val (.ref a), .val (.int x), .val (.int (7 : Int32)), .val (.int j)] []) := by
  have wd : ∀ {d : Jvm.Cond} (i : Nat), tables_1[i]? = some d → d.before a0 Z = true := fun i q => hw _ (List.mem_of_getElem? q)
  intro k
  induction k with
  | zero => intro j i T X e hj hl; simp [lookN] at hl
  | succ k ih =>
    intro j i T9 X9 e9 hj hf K
    have hi : i < 8 := by have := hj.int; have h2 := Int32.lt_iff_toInt_lt.mp hj.2.1; rw [show (8 : Int32).toInt = 8 from by decide] at h2; omega
    show Go p e below _ T9 (mkF m 40 #[.val (.ref a), .val (.int x), .val (.int (7 : Int32)), .val (.int j)] [])
    refine Go.aloadN X9 hx (hb hby d4_40) rfl rfl rfl ?_
    refine Go.getF X9 hx hZ hown (host := "") (Or.inl (wd 19 rfl)) Via.refl e9 Fs (hb hby d4_41) rfl ?_
    intro T1 X1 e1
    refine Go.iloadN X1 hx (hb hby d4_44) rfl rfl  ?_
    refine Go.iaload X1 hx hZ (.int (t.getD i 0)) Vs e1  ⟨hj.1, hj.2.1⟩ (own_getD hj.2.2) (hb hby d4_45) rfl ?_
    refine Go.iconst X1 hx (hb hby d4_46) rfl (-1 : Int32) rfl ?_
    by_cases hc2 : (t.getD i 0) = (-1 : Int32)
    · refine Go.icmpYes X1 hx (hb hby d4_47) rfl 71 (teq hc2).1 (by decide) (by decide) ?_
      show Go p e below _ T1 (mkF m 71 #[.val (.ref a), .val (.int x), .val (.int (7 : Int32)), .val (.int j)] [])
      exfalso; unfold lookN at hf; rw [if_pos hc2] at hf; cases hf
    · refine Go.icmpNo X1 hx (hb hby d4_47) rfl (feq hc2).1 ?_
      refine Go.aloadN X1 hx (hb hby d4_50) rfl rfl rfl ?_
      refine Go.getF X1 hx hZ hown (host := "") (Or.inl (wd 19 rfl)) Via.refl e1 Fs (hb hby d4_51) rfl ?_
      intro T3 X3 e3
      refine Go.iloadN X3 hx (hb hby d4_54) rfl rfl  ?_
      refine Go.iaload X3 hx hZ (.int (t.getD i 0)) Vs e3  ⟨hj.1, hj.2.1⟩ (own_getD hj.2.2) (hb hby d4_55) rfl ?_
      refine Go.iloadN X3 hx (hb hby d4_56) rfl rfl  ?_
      by_cases hc4 : (t.getD i 0) = x
      · refine Go.icmpNo X3 hx (hb hby d4_57) rfl (teq hc4).2 ?_
        show Go p e below _ T3 (mkF m 60 #[.val (.ref a), .val (.int x), .val (.int (7 : Int32)), .val (.int j)] [])
        exact K _ _ X3 e3
      · refine Go.icmpYes X3 hx (hb hby d4_57) rfl 62 (feq hc4).2 (by decide) (by decide) ?_
        refine Go.iloadN X3 hx (hb hby d4_62) rfl rfl  ?_
        refine Go.iconst X3 hx (hb hby d4_63) rfl (1 : Int32) rfl ?_
        refine Go.iadd X3 hx (hb hby d4_64) rfl ?_
        refine Go.iloadN X3 hx (hb hby d4_65) rfl rfl  ?_
        refine Go.iand X3 hx (hb hby d4_66) rfl ?_
        refine Go.istoreN X3 hx (hb hby d4_67) rfl  #[.val (.ref a), .val (.int x), .val (.int (7 : Int32)), .val (.int ((j + (1 : Int32)) &&& (7 : Int32)))] rfl ?_
        refine Go.goto X3 hx (hb hby d4_68) rfl 40 (by decide) (by decide) ?_
        show Go p e below _ T3 (mkF m 40 #[.val (.ref a), .val (.int x), .val (.int (7 : Int32)), .val (.int ((j + (1 : Int32)) &&& (7 : Int32)))] [])
        refine ih _ ((i + 1) % 8) _ X3 e3 (ix_next (b := 3) (by decide) rfl (by decide) (by decide) hj) ?_ K
        unfold lookN at hf; rw [if_neg hc2, if_neg hc4] at hf; exact hf
theorem d7_0 : decode prog_46_method_10_code 0 = .ok (.iload_n 0, 1) := by decide +kernel
theorem d7_1 : decode prog_46_method_10_code 1 = .ok (.ldc 45, 2) := by decide +kernel
theorem d7_3 : decode prog_46_method_10_code 3 = .ok (.imul, 1) := by decide +kernel
theorem d7_4 : decode prog_46_method_10_code 4 = .ok (.istore_n 2, 1) := by decide +kernel
theorem d7_5 : decode prog_46_method_10_code 5 = .ok (.iload_n 2, 1) := by decide +kernel
theorem d7_6 : decode prog_46_method_10_code 6 = .ok (.iload_n 2, 1) := by decide +kernel
theorem d7_7 : decode prog_46_method_10_code 7 = .ok (.bipush 16, 2) := by decide +kernel
theorem d7_9 : decode prog_46_method_10_code 9 = .ok (.iushr, 1) := by decide +kernel
theorem d7_10 : decode prog_46_method_10_code 10 = .ok (.ixor, 1) := by decide +kernel
theorem d7_11 : decode prog_46_method_10_code 11 = .ok (.iload_n 1, 1) := by decide +kernel
theorem d7_12 : decode prog_46_method_10_code 12 = .ok (.iand, 1) := by decide +kernel
theorem d7_13 : decode prog_46_method_10_code 13 = .ok (.ireturn, 1) := by decide +kernel
theorem ef_7 (m : MethodId) (x0 : Int32) (x1 : Int32) : entryFrame m #[(.int x0), (.int x1)] 3 = mkF m 0 #[.val (.int x0), .val (.int x1), .unset] [] := by first | (simp [entryFrame, mkF, argsToLocals, Value.category]; done) | rfl
set_option maxRecDepth 65536 in
set_option maxHeartbeats 40000000 in
theorem isSlot (l : Launch) (Z : State) (a0 : Array Value) (hw : ∀ d ∈ tables_1, d.before a0 Z = true) (x y : Int32) (h0 : Heap)  : Pur l Z (⟨"com/example/overrule/overrule/engine/IntSet", "slot", "(II)I"⟩ : MethodName) prog_46_method_10_code 3 (some .int) 0 0 #[(.int x), (.int y)] h0 (some (.int (slotv x y))) := by
  refine Ctr.of (plainFor_of_name pn_5) ?_
  have wd : ∀ {d : Jvm.Cond} (i : Nat), tables_1[i]? = some d → d.before a0 Z = true := fun i q => hw _ (List.mem_of_getElem? q)
  intro p e s m below meth c s₁ hx hby hml hown hnm hret hlk hZ X0 e0
  refine Go.cast (ef_7 m x y) ?_
  show Go p e below _ s₁ (mkF m 0 #[.val (.int x), .val (.int y), .unset] [])
  refine Go.iloadN X0 hx (hb hby d7_0) rfl rfl  ?_
  refine Go.ldc X0 hx hZ hown (wd 36 rfl) (hb hby d7_1) rfl ?_
  refine Go.imul X0 hx (hb hby d7_3) rfl ?_
  refine Go.istoreN X0 hx (hb hby d7_4) rfl  #[.val (.int x), .val (.int y), .val (.int (x * (-1640531527 : Int32)))] rfl ?_
  refine Go.iloadN X0 hx (hb hby d7_5) rfl rfl  ?_
  refine Go.iloadN X0 hx (hb hby d7_6) rfl rfl  ?_
  refine Go.bipush X0 hx (hb hby d7_7) rfl (16 : Int32) rfl ?_
  refine Go.iushr X0 hx (hb hby d7_9) rfl ?_
  refine Go.ixor X0 hx (hb hby d7_10) rfl ?_
  refine Go.iloadN X0 hx (hb hby d7_11) rfl rfl  ?_
  refine Go.iand X0 hx (hb hby d7_12) rfl ?_
  exact Go.retI X0 hx hret hlk (hb hby d7_13) rfl (by rw [e0]; exact ⟨rfl, rfl, rfl⟩) (Nat.le_of_ble_eq_true rfl) (Nat.le_of_ble_eq_true rfl)
set_option maxRecDepth 65536 in
set_option maxHeartbeats 40000000 in
theorem isAdd0 (l : Launch) (Z : State) (a0 : Array Value) (hw : ∀ d ∈ tables_1, d.before a0 Z = true) (a : Addr) (x : Int32) (a_NONE : Addr) (k_NONE : ClassId) (h0 : Heap) (O0 : Old Z Z.heap.size h0) (FF : Facts Z a_NONE k_NONE) (Ea : Exa Z h0 a "com/example/overrule/overrule/engine/IntSet") (ga : Z.heap.size ≤ a) (hg : Good []) (hx0 : 0 ≤ x.toInt) (hxn : x ∉ ([] : List Int32)) (Fe : Fld Z h0 a "com/example/overrule/overrule/engine/IntSet" "elements" "[I" (.ref a_NONE)) (Fn : Fld Z h0 a "com/example/overrule/overrule/engine/IntSet" "size" "I" (.int (0 : Int32))) (Fs : Fld Z h0 a "com/example/overrule/overrule/engine/IntSet" "slots" "[I" (.ref a_NONE)) : Ctr l Z (⟨"com/example/overrule/overrule/engine/IntSet", "add", "(I)Z"⟩ : MethodName) prog_46_method_2_code 4 (some .boolean) ({ frames := 3, cells := 2, slots := 24, locals := 60 } : Room) #[(.ref a), (.int x)] h0 (fun v h L => v = some (.int (1 : Int32)) ∧ Fr Z.heap.size L ∧ Keep h0 h [a] ∧ Exa Z h a "com/example/overrule/overrule/engine/IntSet" ∧ ∃ (eb sl : Addr) (kb ks : ClassId), h0.size ≤ eb ∧ h0.size ≤ sl ∧ eb ≠ sl ∧ Fld Z h a "com/example/overrule/overrule/engine/IntSet" "elements" "[I" (.ref eb) ∧ Fld Z h a "com/example/overrule/overrule/engine/IntSet" "size" "I" (.int (1 : Int32)) ∧ Fld Z h a "com/example/overrule/overrule/engine/IntSet" "slots" "[I" (.ref sl) ∧ Arv Z h eb kb .int (4 : Int32) [(.int x), (.int (0 : Int32)), (.int (0 : Int32)), (.int (0 : Int32))] (.int (0 : Int32)) ∧ Arv Z h sl ks .int (8 : Int32) ((tab 8 (hsh (7 : Int32)) ([] ++ [x])).map Value.int) (.int (0 : Int32))) := by
  refine Ctr.of (plainFor_of_name pn_5) ?_
  have wd : ∀ {d : Jvm.Cond} (i : Nat), tables_1[i]? = some d → d.before a0 Z = true := fun i q => hw _ (List.mem_of_getElem? q)
  intro p e s m below meth c s₁ hx hby hml hown hnm hret hlk hZ X0 e0
  have FF' := FF
  obtain ⟨S_NONE, V_NONE⟩ := FF'
  refine Go.cast (ef_4 m a x) ?_
  show Go p e below _ s₁ (mkF m 0 #[.val (.ref a), .val (.int x), .unset, .unset] [])
  refine Go.aloadN X0 hx (hb hby d4_0) rfl rfl rfl ?_
  refine Go.getF X0 hx hZ hown (host := "") (Or.inl (wd 19 rfl)) Via.refl e0 Fs (hb hby d4_1) rfl ?_
  intro T1 X1 e1
  refine Go.getS X1 hx hZ hown (host := "") (Or.inl (wd 15 rfl)) Via.refl e1 (S_NONE.ext O0.2) (hb hby d4_4) rfl ?_
  intro T2 X2 e2
  refine Go.acmp X2 hx (hb hby d4_7) rfl rfl rfl true (decide_eq_true rfl) 10 (by decide) (by decide) ?_
  refine Go.aloadN X2 hx (hb hby d4_10) rfl rfl rfl ?_
  refine Go.iconst X2 hx (hb hby d4_11) rfl (4 : Int32) rfl ?_
  refine Go.newP X2 hx hZ (wd 5 rfl) e2 4 (by decide) 4 (by decide) (by decide) (Nat.le_of_ble_eq_true rfl) (Nat.le_of_ble_eq_true rfl) "[I" (by decide) (hb hby d4_12) rfl ?_
  intro T3 h3 b3 k3 g3 X3 e3 E3 V3' A3
  have V3 : Arv Z h3 b3 k3 .int (4 : Int32) [(.int (0 : Int32)), (.int (0 : Int32)), (.int (0 : Int32)), (.int (0 : Int32))] (.int (0 : Int32)) := V3'
  have q3 : Z.heap.size ≤ b3 := Nat.le_trans O0.2.1 (Nat.le_of_eq g3.symm)
  have z3 : h0.size ≤ b3 := Nat.le_trans (Keep.refl h0 [a]).1 (Nat.le_of_eq g3.symm)
  have ne_a_b3 : a ≠ b3 := Nat.ne_of_lt (Nat.lt_of_lt_of_le Ea.lt (Nat.le_of_eq g3.symm))
  have K4 := (Keep.refl h0 [a]).ext E3
  have O5 := O0.ext E3
  have E6 := Ea.ext E3
  have F7 := Fe.ext E3
  have F8 := Fn.ext E3
  have F9 := Fs.ext E3
  refine Go.putF X3 hx hZ hown (host := "") (Or.inl (wd 17 rfl)) Via.refl e3 F7 E6 (Or.inl (wd 18 rfl)) (wd 7 rfl) (ty := (.array .int)) (by decide) rfl rfl (hb hby d4_14) rfl ?_
  intro T10 h10 X10 e10 W10 F11
  have K12 := K4.wr W10 (Or.inl (List.mem_of_getElem? (i := 0) rfl))
  have O13 := O5.wr W10 ga
  have N14 := Fr.snoc X10 (Fr.nil _) ga
  have E15 := E6.wr W10
  have F16 := F8.other W10 (Or.inr (slot_ne (Or.inl (wd 38 rfl)) (Or.inl (wd 18 rfl)) (by decide) (t := .int) (t' := (.array .int)) (by decide) (by decide)))
  have F17 := F9.other W10 (Or.inr (slot_ne (Or.inl (wd 20 rfl)) (Or.inl (wd 18 rfl)) (by decide) (t := (.array .int)) (t' := (.array .int)) (by decide) (by decide)))
  have V18 := V3.other W10 (Ne.symm ne_a_b3)
  refine Go.aloadN X10 hx (hb hby d4_17) rfl rfl rfl ?_
  refine Go.bipush X10 hx (hb hby d4_18) rfl (8 : Int32) rfl ?_
  refine Go.callS X10 hx hZ hown (wd 26 rfl) (wd 27 rfl) (wd 8 rfl) (wd 28 rfl) (by decide) [(.int (8 : Int32))] [(.ref a)] (isFree8 l Z a0 hw h10 O13) e10 rfl (by rw [hml]; rfl) pd_1 rfl (hb hby d4_20) (Nat.le_of_ble_eq_true rfl) (Nat.le_of_ble_eq_true rfl) (Nat.le_of_ble_eq_true rfl) (Nat.le_of_ble_eq_true rfl) ?_
  rintro vv19 T19 L19 X19 Q19
  obtain ⟨g19, k19, rfl, N19, K19, sz19, V19⟩ := Q19
  have M20 := Fr.app N14 N19
  have q19 : Z.heap.size ≤ g19 := Nat.le_trans O13.2.1 sz19
  have z19 : h0.size ≤ g19 := Nat.le_trans K12.1 sz19
  have ne_a_g19 : a ≠ g19 := Nat.ne_of_lt (Nat.lt_of_lt_of_le E15.lt sz19)
  have ne_b3_g19 : b3 ≠ g19 := Nat.ne_of_lt (Nat.lt_of_lt_of_le V18.lt sz19)
  have O21 := O13.keep K19 (all0)
  have K22 := Keep.trans K12 K19 (all0)
  have E23 := E15.keep K19
  have F24 := F11.keep K19 (nin0)
  have F25 := F16.keep K19 (nin0)
  have F26 := F17.keep K19 (nin0)
  have V27 := V18.keep K19 (nin0)
  refine Go.putF X19 hx hZ hown (host := "") (Or.inl (wd 19 rfl)) Via.refl rfl F26 E23 (Or.inl (wd 20 rfl)) (wd 7 rfl) (ty := (.array .int)) (by decide) rfl rfl (hb hby d4_23) rfl ?_
  intro T28 h28 X28 e28 W28 F29
  have K30 := K22.wr W28 (Or.inl (List.mem_of_getElem? (i := 0) rfl))
  have O31 := O21.wr W28 ga
  have N32 := Fr.snoc X28 M20 ga
  have E33 := E23.wr W28
  have F34 := F24.other W28 (Or.inr (slot_ne (Or.inl (wd 18 rfl)) (Or.inl (wd 20 rfl)) (by decide) (t := (.array .int)) (t' := (.array .int)) (by decide) (by decide)))
  have F35 := F25.other W28 (Or.inr (slot_ne (Or.inl (wd 38 rfl)) (Or.inl (wd 20 rfl)) (by decide) (t := .int) (t' := (.array .int)) (by decide) (by decide)))
  have V36 := V27.other W28 (Ne.symm ne_a_b3)
  have V37 := V19.other W28 (Ne.symm ne_a_g19)
  refine Go.aloadN X28 hx (hb hby d4_26) rfl rfl rfl ?_
  refine Go.getF X28 hx hZ hown (host := "") (Or.inl (wd 19 rfl)) Via.refl e28 F29 (hb hby d4_27) rfl ?_
  intro T38 X38 e38
  refine Go.alen X38 hx hZ V37 e38 (hb hby d4_30) rfl ?_
  refine Go.iconst X38 hx (hb hby d4_31) rfl (1 : Int32) rfl ?_
  refine Go.isub X38 hx (hb hby d4_32) rfl ?_
  show Go p e below _ T38 (mkF m 33 #[.val (.ref a), .val (.int x), .unset, .unset] [(.int ((8 : Int32) - (1 : Int32)))])
  rw [show ((8 : Int32) - (1 : Int32)) = (7 : Int32) from by decide]
  refine Go.istoreN X38 hx (hb hby d4_33) rfl  #[.val (.ref a), .val (.int x), .val (.int (7 : Int32)), .unset] rfl ?_
  refine Go.iloadN X38 hx (hb hby d4_34) rfl rfl  ?_
  refine Go.iloadN X38 hx (hb hby d4_35) rfl rfl  ?_
  refine Go.pureS X38 hx hZ hown (wd 33 rfl) (wd 34 rfl) (wd 8 rfl) (wd 35 rfl) (by decide) [(.int x), (.int (7 : Int32))] [] (isSlot l Z a0 hw x (7 : Int32) h28) e38 rfl (by rw [hml]; rfl) pd_2 rfl (hb hby d4_36) (Nat.le_of_ble_eq_true rfl) (Nat.le_of_ble_eq_true rfl) (Nat.le_of_ble_eq_true rfl) (Nat.le_of_ble_eq_true rfl) ?_
  intro T39 X39 e39
  refine Go.istoreN X39 hx (hb hby d4_39) rfl  #[.val (.ref a), .val (.int x), .val (.int (7 : Int32)), .val (.int (slotv x (7 : Int32)))] rfl ?_
  have V40 : Arv Z h28 g19 k19 .int (8 : Int32) ((tab 8 (hsh (7 : Int32)) []).map Value.int) (.int (0 : Int32)) := V37
  show Go p e below _ T39 (mkF m 40 #[.val (.ref a), .val (.int x), .val (.int (7 : Int32)), .val (.int (slotv x (7 : Int32)))] [])
  refine isProbe hw hx hby hml hown hZ a g19 k19 x (tab 8 (hsh (7 : Int32)) []) h28 F29 V40 (tab_nf hg hx0 hxn (Nat.le_of_ble_eq_true rfl)) 8 _ _ _ X39 e39 (ix_slot (b := 3) (by decide) rfl (by decide) (by decide) x) (free_at (inv8 hg (Nat.le_of_ble_eq_true rfl)) (Nat.le_of_ble_eq_true rfl) _) ?_
  intro T41 j41 X41 e41 hj41
  show Go p e below _ T41 (mkF m 71 #[.val (.ref a), .val (.int x), .val (.int (7 : Int32)), .val (.int j41)] [])
  refine Go.aloadN X41 hx (hb hby d4_71) rfl rfl rfl ?_
  refine Go.getF X41 hx hZ hown (host := "") (Or.inl (wd 19 rfl)) Via.refl e41 F29 (hb hby d4_72) rfl ?_
  intro T42 X42 e42
  refine Go.iloadN X42 hx (hb hby d4_75) rfl rfl  ?_
  refine Go.iloadN X42 hx (hb hby d4_76) rfl rfl  ?_
  refine Go.iastore X42 hx hZ V40 e42 ⟨hj41.1, hj41.2.1⟩ _ hj41.2.2 (by rw [List.length_map, (inv8 hg (Nat.le_of_ble_eq_true rfl)).1]; exact own_ffl hg (Nat.le_of_ble_eq_true rfl)) (hb hby d4_77) rfl ?_
  intro T43 h43 X43 e43 W43 V43'
  have V43 : Arv Z h43 g19 k19 .int (8 : Int32) ((tab 8 (hsh (7 : Int32)) ([] ++ [x])).map Value.int) (.int (0 : Int32)) := by rw [tab_snoc, List.map_set]; exact V43'
  have K44 := K30.wr W43 (Or.inr z19)
  have O45 := O31.wr W43 q19
  have N46 := Fr.snoc X43 N32 q19
  have E47 := E33.wr W43
  have F48 := F34.other W43 (Or.inl ne_a_g19)
  have F49 := F35.other W43 (Or.inl ne_a_g19)
  have F50 := F29.other W43 (Or.inl ne_a_g19)
  have V51 := V36.other W43 ne_b3_g19
  refine Go.aloadN X43 hx (hb hby d4_78) rfl rfl rfl ?_
  refine Go.getF X43 hx hZ hown (host := "") (Or.inl (wd 37 rfl)) Via.refl e43 F49 (hb hby d4_79) rfl ?_
  intro T52 X52 e52
  refine Go.aloadN X52 hx (hb hby d4_82) rfl rfl rfl ?_
  refine Go.getF X52 hx hZ hown (host := "") (Or.inl (wd 17 rfl)) Via.refl e52 F48 (hb hby d4_83) rfl ?_
  intro T53 X53 e53
  refine Go.alen X53 hx hZ V51 e53 (hb hby d4_86) rfl ?_
  refine Go.icmpYes X53 hx (hb hby d4_87) rfl 107 (feq (by decide : ¬ ((0 : Int32) = (4 : Int32)))).2 (by decide) (by decide) ?_
  refine Go.aloadN X53 hx (hb hby d4_107) rfl rfl rfl ?_
  refine Go.getF X53 hx hZ hown (host := "") (Or.inl (wd 17 rfl)) Via.refl e53 F48 (hb hby d4_108) rfl ?_
  intro T54 X54 e54
  refine Go.aloadN X54 hx (hb hby d4_111) rfl rfl rfl ?_
  refine Go.dup X54 hx (hb hby d4_112) rfl rfl ?_
  refine Go.getF X54 hx hZ hown (host := "") (Or.inl (wd 37 rfl)) Via.refl e54 F49 (hb hby d4_113) rfl ?_
  intro T55 X55 e55
  refine Go.dupX1 X55 hx (hb hby d4_116) rfl rfl rfl ?_
  refine Go.iconst X55 hx (hb hby d4_117) rfl (1 : Int32) rfl ?_
  refine Go.iadd X55 hx (hb hby d4_118) rfl ?_
  show Go p e below _ T55 (mkF m 119 #[.val (.ref a), .val (.int x), .val (.int (7 : Int32)), .val (.int j41)] [(.int ((0 : Int32) + (1 : Int32))), (.ref a), (.int (0 : Int32)), (.ref b3)])
  rw [show ((0 : Int32) + (1 : Int32)) = (1 : Int32) from by decide]
  refine Go.putF X55 hx hZ hown (host := "") (Or.inl (wd 37 rfl)) Via.refl e55 F49 E47 (Or.inl (wd 38 rfl)) (wd 7 rfl) (ty := .int) (by decide) rfl rfl (hb hby d4_119) rfl ?_
  intro T56 h56 X56 e56 W56 F57
  have K58 := K44.wr W56 (Or.inl (List.mem_of_getElem? (i := 0) rfl))
  have O59 := O45.wr W56 ga
  have N60 := Fr.snoc X56 N46 ga
  have E61 := E47.wr W56
  have F62 := F48.other W56 (Or.inr (slot_ne (Or.inl (wd 18 rfl)) (Or.inl (wd 38 rfl)) (by decide) (t := (.array .int)) (t' := .int) (by decide) (by decide)))
  have F63 := F50.other W56 (Or.inr (slot_ne (Or.inl (wd 20 rfl)) (Or.inl (wd 38 rfl)) (by decide) (t := (.array .int)) (t' := .int) (by decide) (by decide)))
  have V64 := V51.other W56 (Ne.symm ne_a_b3)
  have V65 := V43.other W56 (Ne.symm ne_a_g19)
  refine Go.iloadN X56 hx (hb hby d4_122) rfl rfl  ?_
  refine Go.iastore X56 hx hZ V64 e56 ⟨by decide, by decide⟩ 0 (by decide) (Nat.le_of_ble_eq_true rfl)  (hb hby d4_123) rfl ?_
  intro T66 h66 X66 e66 W66 V66'
  have V66 : Arv Z h66 b3 k3 .int (4 : Int32) [(.int x), (.int (0 : Int32)), (.int (0 : Int32)), (.int (0 : Int32))] (.int (0 : Int32)) := V66'
  have K67 := K58.wr W66 (Or.inr z3)
  have O68 := O59.wr W66 q3
  have N69 := Fr.snoc X66 N60 q3
  have E70 := E61.wr W66
  have F71 := F62.other W66 (Or.inl ne_a_b3)
  have F72 := F57.other W66 (Or.inl ne_a_b3)
  have F73 := F63.other W66 (Or.inl ne_a_b3)
  have V74 := V65.other W66 (Ne.symm ne_b3_g19)
  refine Go.aloadN X66 hx (hb hby d4_124) rfl rfl rfl ?_
  refine Go.getF X66 hx hZ hown (host := "") (Or.inl (wd 37 rfl)) Via.refl e66 F72 (hb hby d4_125) rfl ?_
  intro T75 X75 e75
  refine Go.iconst X75 hx (hb hby d4_128) rfl (2 : Int32) rfl ?_
  refine Go.imul X75 hx (hb hby d4_129) rfl ?_
  show Go p e below _ T75 (mkF m 130 #[.val (.ref a), .val (.int x), .val (.int (7 : Int32)), .val (.int j41)] [(.int ((1 : Int32) * (2 : Int32)))])
  rw [show ((1 : Int32) * (2 : Int32)) = (2 : Int32) from by decide]
  refine Go.aloadN X75 hx (hb hby d4_130) rfl rfl rfl ?_
  refine Go.getF X75 hx hZ hown (host := "") (Or.inl (wd 19 rfl)) Via.refl e75 F73 (hb hby d4_131) rfl ?_
  intro T76 X76 e76
  refine Go.alen X76 hx hZ V74 e76 (hb hby d4_134) rfl ?_
  refine Go.icmpYes X76 hx (hb hby d4_135) rfl 149 (flt (by decide : ¬ ((8 : Int32) < (2 : Int32)))).2.2.2 (by decide) (by decide) ?_
  refine Go.iconst X76 hx (hb hby d4_149) rfl (1 : Int32) rfl ?_
  exact Go.retZ X76 hx (z' := (1 : Int32)) hret hlk (hb hby d4_150) rfl (by decide) (by rw [e76]; exact ⟨rfl, N69, K67, E70, b3, g19, k3, k19, z3, z19, ne_b3_g19, F71, F72, F73, V66, V74⟩) (Nat.le_of_ble_eq_true rfl) (Nat.le_of_ble_eq_true rfl)
set_option maxRecDepth 65536 in
set_option maxHeartbeats 40000000 in
theorem isAdd1 (l : Launch) (Z : State) (a0 : Array Value) (hw : ∀ d ∈ tables_1, d.before a0 Z = true) (a : Addr) (x : Int32) (a_NONE : Addr) (k_NONE : ClassId) (eb sl : Addr) (kb ks : ClassId) (u0 w1 w2 w3 : Int32) (h0 : Heap) (O0 : Old Z Z.heap.size h0) (FF : Facts Z a_NONE k_NONE) (Ea : Exa Z h0 a "com/example/overrule/overrule/engine/IntSet") (ga : Z.heap.size ≤ a) (hg : Good [u0]) (hx0 : 0 ≤ x.toInt) (hxn : x ∉ ([u0] : List Int32)) (Fe : Fld Z h0 a "com/example/overrule/overrule/engine/IntSet" "elements" "[I" (.ref eb)) (Fn : Fld Z h0 a "com/example/overrule/overrule/engine/IntSet" "size" "I" (.int (1 : Int32))) (Fs : Fld Z h0 a "com/example/overrule/overrule/engine/IntSet" "slots" "[I" (.ref sl)) (gb : Z.heap.size ≤ eb) (gs : Z.heap.size ≤ sl) (n_a_eb : a ≠ eb) (n_a_sl : a ≠ sl) (n_eb_sl : eb ≠ sl) (hsn : ¬ sl = a_NONE) (Vb : Arv Z h0 eb kb .int (4 : Int32) [(.int u0), (.int w1), (.int w2), (.int w3)] (.int (0 : Int32))) (Vs : Arv Z h0 sl ks .int (8 : Int32) ((tab 8 (hsh (7 : Int32)) [u0]).map Value.int) (.int (0 : Int32))) : Ctr l Z (⟨"com/example/overrule/overrule/engine/IntSet", "add", "(I)Z"⟩ : MethodName) prog_46_method_2_code 4 (some .boolean) ({ frames := 3, cells := 2, slots := 24, locals := 60 } : Room) #[(.ref a), (.int x)] h0 (fun v h L => v = some (.int (1 : Int32)) ∧ Fr Z.heap.size L ∧ Keep h0 h [a, eb, sl] ∧ Exa Z h a "com/example/overrule/overrule/engine/IntSet" ∧ Fld Z h a "com/example/overrule/overrule/engine/IntSet" "elements" "[I" (.ref eb) ∧ Fld Z h a "com/example/overrule/overrule/engine/IntSet" "size" "I" (.int (2 : Int32)) ∧ Fld Z h a "com/example/overrule/overrule/engine/IntSet" "slots" "[I" (.ref sl) ∧ Arv Z h eb kb .int (4 : Int32) [(.int u0), (.int x), (.int w2), (.int w3)] (.int (0 : Int32)) ∧ Arv Z h sl ks .int (8 : Int32) ((tab 8 (hsh (7 : Int32)) ([u0] ++ [x])).map Value.int) (.int (0 : Int32))) := by
  refine Ctr.of (plainFor_of_name pn_5) ?_
  have wd : ∀ {d : Jvm.Cond} (i : Nat), tables_1[i]? = some d → d.before a0 Z = true := fun i q => hw _ (List.mem_of_getElem? q)
  intro p e s m below meth c s₁ hx hby hml hown hnm hret hlk hZ X0 e0
  have FF' := FF
  obtain ⟨S_NONE, V_NONE⟩ := FF'
  refine Go.cast (ef_4 m a x) ?_
  show Go p e below _ s₁ (mkF m 0 #[.val (.ref a), .val (.int x), .unset, .unset] [])
  refine Go.aloadN X0 hx (hb hby d4_0) rfl rfl rfl ?_
  refine Go.getF X0 hx hZ hown (host := "") (Or.inl (wd 19 rfl)) Via.refl e0 Fs (hb hby d4_1) rfl ?_
  intro T1 X1 e1
  refine Go.getS X1 hx hZ hown (host := "") (Or.inl (wd 15 rfl)) Via.refl e1 (S_NONE.ext O0.2) (hb hby d4_4) rfl ?_
  intro T2 X2 e2
  refine Go.acmp X2 hx (hb hby d4_7) rfl rfl rfl false (decide_eq_false fun q => hsn (Value.ref.inj q)) 26 (by decide) (by decide) ?_
  refine Go.aloadN X2 hx (hb hby d4_26) rfl rfl rfl ?_
  refine Go.getF X2 hx hZ hown (host := "") (Or.inl (wd 19 rfl)) Via.refl e2 Fs (hb hby d4_27) rfl ?_
  intro T3 X3 e3
  refine Go.alen X3 hx hZ Vs e3 (hb hby d4_30) rfl ?_
  refine Go.iconst X3 hx (hb hby d4_31) rfl (1 : Int32) rfl ?_
  refine Go.isub X3 hx (hb hby d4_32) rfl ?_
  show Go p e below _ T3 (mkF m 33 #[.val (.ref a), .val (.int x), .unset, .unset] [(.int ((8 : Int32) - (1 : Int32)))])
  rw [show ((8 : Int32) - (1 : Int32)) = (7 : Int32) from by decide]
  refine Go.istoreN X3 hx (hb hby d4_33) rfl  #[.val (.ref a), .val (.int x), .val (.int (7 : Int32)), .unset] rfl ?_
  refine Go.iloadN X3 hx (hb hby d4_34) rfl rfl  ?_
  refine Go.iloadN X3 hx (hb hby d4_35) rfl rfl  ?_
  refine Go.pureS X3 hx hZ hown (wd 33 rfl) (wd 34 rfl) (wd 8 rfl) (wd 35 rfl) (by decide) [(.int x), (.int (7 : Int32))] [] (isSlot l Z a0 hw x (7 : Int32) h0) e3 rfl (by rw [hml]; rfl) pd_2 rfl (hb hby d4_36) (Nat.le_of_ble_eq_true rfl) (Nat.le_of_ble_eq_true rfl) (Nat.le_of_ble_eq_true rfl) (Nat.le_of_ble_eq_true rfl) ?_
  intro T4 X4 e4
  refine Go.istoreN X4 hx (hb hby d4_39) rfl  #[.val (.ref a), .val (.int x), .val (.int (7 : Int32)), .val (.int (slotv x (7 : Int32)))] rfl ?_
  show Go p e below _ T4 (mkF m 40 #[.val (.ref a), .val (.int x), .val (.int (7 : Int32)), .val (.int (slotv x (7 : Int32)))] [])
  refine isProbe hw hx hby hml hown hZ a sl ks x (tab 8 (hsh (7 : Int32)) [u0]) h0 Fs Vs (tab_nf hg hx0 hxn (Nat.le_of_ble_eq_true rfl)) 8 _ _ _ X4 e4 (ix_slot (b := 3) (by decide) rfl (by decide) (by decide) x) (free_at (inv8 hg (Nat.le_of_ble_eq_true rfl)) (Nat.le_of_ble_eq_true rfl) _) ?_
  intro T5 j5 X5 e5 hj5
  show Go p e below _ T5 (mkF m 71 #[.val (.ref a), .val (.int x), .val (.int (7 : Int32)), .val (.int j5)] [])
  refine Go.aloadN X5 hx (hb hby d4_71) rfl rfl rfl ?_
  refine Go.getF X5 hx hZ hown (host := "") (Or.inl (wd 19 rfl)) Via.refl e5 Fs (hb hby d4_72) rfl ?_
  intro T6 X6 e6
  refine Go.iloadN X6 hx (hb hby d4_75) rfl rfl  ?_
  refine Go.iloadN X6 hx (hb hby d4_76) rfl rfl  ?_
  refine Go.iastore X6 hx hZ Vs e6 ⟨hj5.1, hj5.2.1⟩ _ hj5.2.2 (by rw [List.length_map, (inv8 hg (Nat.le_of_ble_eq_true rfl)).1]; exact own_ffl hg (Nat.le_of_ble_eq_true rfl)) (hb hby d4_77) rfl ?_
  intro T7 h7 X7 e7 W7 V7'
  have V7 : Arv Z h7 sl ks .int (8 : Int32) ((tab 8 (hsh (7 : Int32)) ([u0] ++ [x])).map Value.int) (.int (0 : Int32)) := by rw [tab_snoc, List.map_set]; exact V7'
  have K8 := (Keep.refl h0 [a, eb, sl]).wr W7 (Or.inl (List.mem_of_getElem? (i := 2) rfl))
  have O9 := O0.wr W7 gs
  have N10 := Fr.snoc X7 (Fr.nil _) gs
  have E11 := Ea.wr W7
  have F12 := Fe.other W7 (Or.inl n_a_sl)
  have F13 := Fn.other W7 (Or.inl n_a_sl)
  have F14 := Fs.other W7 (Or.inl n_a_sl)
  have V15 := Vb.other W7 n_eb_sl
  refine Go.aloadN X7 hx (hb hby d4_78) rfl rfl rfl ?_
  refine Go.getF X7 hx hZ hown (host := "") (Or.inl (wd 37 rfl)) Via.refl e7 F13 (hb hby d4_79) rfl ?_
  intro T16 X16 e16
  refine Go.aloadN X16 hx (hb hby d4_82) rfl rfl rfl ?_
  refine Go.getF X16 hx hZ hown (host := "") (Or.inl (wd 17 rfl)) Via.refl e16 F12 (hb hby d4_83) rfl ?_
  intro T17 X17 e17
  refine Go.alen X17 hx hZ V15 e17 (hb hby d4_86) rfl ?_
  refine Go.icmpYes X17 hx (hb hby d4_87) rfl 107 (feq (by decide : ¬ ((1 : Int32) = (4 : Int32)))).2 (by decide) (by decide) ?_
  refine Go.aloadN X17 hx (hb hby d4_107) rfl rfl rfl ?_
  refine Go.getF X17 hx hZ hown (host := "") (Or.inl (wd 17 rfl)) Via.refl e17 F12 (hb hby d4_108) rfl ?_
  intro T18 X18 e18
  refine Go.aloadN X18 hx (hb hby d4_111) rfl rfl rfl ?_
  refine Go.dup X18 hx (hb hby d4_112) rfl rfl ?_
  refine Go.getF X18 hx hZ hown (host := "") (Or.inl (wd 37 rfl)) Via.refl e18 F13 (hb hby d4_113) rfl ?_
  intro T19 X19 e19
  refine Go.dupX1 X19 hx (hb hby d4_116) rfl rfl rfl ?_
  refine Go.iconst X19 hx (hb hby d4_117) rfl (1 : Int32) rfl ?_
  refine Go.iadd X19 hx (hb hby d4_118) rfl ?_
  show Go p e below _ T19 (mkF m 119 #[.val (.ref a), .val (.int x), .val (.int (7 : Int32)), .val (.int j5)] [(.int ((1 : Int32) + (1 : Int32))), (.ref a), (.int (1 : Int32)), (.ref eb)])
  rw [show ((1 : Int32) + (1 : Int32)) = (2 : Int32) from by decide]
  refine Go.putF X19 hx hZ hown (host := "") (Or.inl (wd 37 rfl)) Via.refl e19 F13 E11 (Or.inl (wd 38 rfl)) (wd 7 rfl) (ty := .int) (by decide) rfl rfl (hb hby d4_119) rfl ?_
  intro T20 h20 X20 e20 W20 F21
  have K22 := K8.wr W20 (Or.inl (List.mem_of_getElem? (i := 0) rfl))
  have O23 := O9.wr W20 ga
  have N24 := Fr.snoc X20 N10 ga
  have E25 := E11.wr W20
  have F26 := F12.other W20 (Or.inr (slot_ne (Or.inl (wd 18 rfl)) (Or.inl (wd 38 rfl)) (by decide) (t := (.array .int)) (t' := .int) (by decide) (by decide)))
  have F27 := F14.other W20 (Or.inr (slot_ne (Or.inl (wd 20 rfl)) (Or.inl (wd 38 rfl)) (by decide) (t := (.array .int)) (t' := .int) (by decide) (by decide)))
  have V28 := V15.other W20 (Ne.symm n_a_eb)
  have V29 := V7.other W20 (Ne.symm n_a_sl)
  refine Go.iloadN X20 hx (hb hby d4_122) rfl rfl  ?_
  refine Go.iastore X20 hx hZ V28 e20 ⟨by decide, by decide⟩ 1 (by decide) (Nat.le_of_ble_eq_true rfl)  (hb hby d4_123) rfl ?_
  intro T30 h30 X30 e30 W30 V30'
  have V30 : Arv Z h30 eb kb .int (4 : Int32) [(.int u0), (.int x), (.int w2), (.int w3)] (.int (0 : Int32)) := V30'
  have K31 := K22.wr W30 (Or.inl (List.mem_of_getElem? (i := 1) rfl))
  have O32 := O23.wr W30 gb
  have N33 := Fr.snoc X30 N24 gb
  have E34 := E25.wr W30
  have F35 := F26.other W30 (Or.inl n_a_eb)
  have F36 := F21.other W30 (Or.inl n_a_eb)
  have F37 := F27.other W30 (Or.inl n_a_eb)
  have V38 := V29.other W30 (Ne.symm n_eb_sl)
  refine Go.aloadN X30 hx (hb hby d4_124) rfl rfl rfl ?_
  refine Go.getF X30 hx hZ hown (host := "") (Or.inl (wd 37 rfl)) Via.refl e30 F36 (hb hby d4_125) rfl ?_
  intro T39 X39 e39
  refine Go.iconst X39 hx (hb hby d4_128) rfl (2 : Int32) rfl ?_
  refine Go.imul X39 hx (hb hby d4_129) rfl ?_
  show Go p e below _ T39 (mkF m 130 #[.val (.ref a), .val (.int x), .val (.int (7 : Int32)), .val (.int j5)] [(.int ((2 : Int32) * (2 : Int32)))])
  rw [show ((2 : Int32) * (2 : Int32)) = (4 : Int32) from by decide]
  refine Go.aloadN X39 hx (hb hby d4_130) rfl rfl rfl ?_
  refine Go.getF X39 hx hZ hown (host := "") (Or.inl (wd 19 rfl)) Via.refl e39 F37 (hb hby d4_131) rfl ?_
  intro T40 X40 e40
  refine Go.alen X40 hx hZ V38 e40 (hb hby d4_134) rfl ?_
  refine Go.icmpYes X40 hx (hb hby d4_135) rfl 149 (flt (by decide : ¬ ((8 : Int32) < (4 : Int32)))).2.2.2 (by decide) (by decide) ?_
  refine Go.iconst X40 hx (hb hby d4_149) rfl (1 : Int32) rfl ?_
  exact Go.retZ X40 hx (z' := (1 : Int32)) hret hlk (hb hby d4_150) rfl (by decide) (by rw [e40]; exact ⟨rfl, N33, K31, E34, F35, F36, F37, V30, V38⟩) (Nat.le_of_ble_eq_true rfl) (Nat.le_of_ble_eq_true rfl)
set_option maxRecDepth 65536 in
set_option maxHeartbeats 40000000 in
theorem isAdd2 (l : Launch) (Z : State) (a0 : Array Value) (hw : ∀ d ∈ tables_1, d.before a0 Z = true) (a : Addr) (x : Int32) (a_NONE : Addr) (k_NONE : ClassId) (eb sl : Addr) (kb ks : ClassId) (u0 u1 w2 w3 : Int32) (h0 : Heap) (O0 : Old Z Z.heap.size h0) (FF : Facts Z a_NONE k_NONE) (Ea : Exa Z h0 a "com/example/overrule/overrule/engine/IntSet") (ga : Z.heap.size ≤ a) (hg : Good [u0, u1]) (hx0 : 0 ≤ x.toInt) (hxn : x ∉ ([u0, u1] : List Int32)) (Fe : Fld Z h0 a "com/example/overrule/overrule/engine/IntSet" "elements" "[I" (.ref eb)) (Fn : Fld Z h0 a "com/example/overrule/overrule/engine/IntSet" "size" "I" (.int (2 : Int32))) (Fs : Fld Z h0 a "com/example/overrule/overrule/engine/IntSet" "slots" "[I" (.ref sl)) (gb : Z.heap.size ≤ eb) (gs : Z.heap.size ≤ sl) (n_a_eb : a ≠ eb) (n_a_sl : a ≠ sl) (n_eb_sl : eb ≠ sl) (hsn : ¬ sl = a_NONE) (Vb : Arv Z h0 eb kb .int (4 : Int32) [(.int u0), (.int u1), (.int w2), (.int w3)] (.int (0 : Int32))) (Vs : Arv Z h0 sl ks .int (8 : Int32) ((tab 8 (hsh (7 : Int32)) [u0, u1]).map Value.int) (.int (0 : Int32))) : Ctr l Z (⟨"com/example/overrule/overrule/engine/IntSet", "add", "(I)Z"⟩ : MethodName) prog_46_method_2_code 4 (some .boolean) ({ frames := 3, cells := 2, slots := 24, locals := 60 } : Room) #[(.ref a), (.int x)] h0 (fun v h L => v = some (.int (1 : Int32)) ∧ Fr Z.heap.size L ∧ Keep h0 h [a, eb, sl] ∧ Exa Z h a "com/example/overrule/overrule/engine/IntSet" ∧ Fld Z h a "com/example/overrule/overrule/engine/IntSet" "elements" "[I" (.ref eb) ∧ Fld Z h a "com/example/overrule/overrule/engine/IntSet" "size" "I" (.int (3 : Int32)) ∧ Fld Z h a "com/example/overrule/overrule/engine/IntSet" "slots" "[I" (.ref sl) ∧ Arv Z h eb kb .int (4 : Int32) [(.int u0), (.int u1), (.int x), (.int w3)] (.int (0 : Int32)) ∧ Arv Z h sl ks .int (8 : Int32) ((tab 8 (hsh (7 : Int32)) ([u0, u1] ++ [x])).map Value.int) (.int (0 : Int32))) := by
  refine Ctr.of (plainFor_of_name pn_5) ?_
  have wd : ∀ {d : Jvm.Cond} (i : Nat), tables_1[i]? = some d → d.before a0 Z = true := fun i q => hw _ (List.mem_of_getElem? q)
  intro p e s m below meth c s₁ hx hby hml hown hnm hret hlk hZ X0 e0
  have FF' := FF
  obtain ⟨S_NONE, V_NONE⟩ := FF'
  refine Go.cast (ef_4 m a x) ?_
  show Go p e below _ s₁ (mkF m 0 #[.val (.ref a), .val (.int x), .unset, .unset] [])
  refine Go.aloadN X0 hx (hb hby d4_0) rfl rfl rfl ?_
  refine Go.getF X0 hx hZ hown (host := "") (Or.inl (wd 19 rfl)) Via.refl e0 Fs (hb hby d4_1) rfl ?_
  intro T1 X1 e1
  refine Go.getS X1 hx hZ hown (host := "") (Or.inl (wd 15 rfl)) Via.refl e1 (S_NONE.ext O0.2) (hb hby d4_4) rfl ?_
  intro T2 X2 e2
  refine Go.acmp X2 hx (hb hby d4_7) rfl rfl rfl false (decide_eq_false fun q => hsn (Value.ref.inj q)) 26 (by decide) (by decide) ?_
  refine Go.aloadN X2 hx (hb hby d4_26) rfl rfl rfl ?_
  refine Go.getF X2 hx hZ hown (host := "") (Or.inl (wd 19 rfl)) Via.refl e2 Fs (hb hby d4_27) rfl ?_
  intro T3 X3 e3
  refine Go.alen X3 hx hZ Vs e3 (hb hby d4_30) rfl ?_
  refine Go.iconst X3 hx (hb hby d4_31) rfl (1 : Int32) rfl ?_
  refine Go.isub X3 hx (hb hby d4_32) rfl ?_
  show Go p e below _ T3 (mkF m 33 #[.val (.ref a), .val (.int x), .unset, .unset] [(.int ((8 : Int32) - (1 : Int32)))])
  rw [show ((8 : Int32) - (1 : Int32)) = (7 : Int32) from by decide]
  refine Go.istoreN X3 hx (hb hby d4_33) rfl  #[.val (.ref a), .val (.int x), .val (.int (7 : Int32)), .unset] rfl ?_
  refine Go.iloadN X3 hx (hb hby d4_34) rfl rfl  ?_
  refine Go.iloadN X3 hx (hb hby d4_35) rfl rfl  ?_
  refine Go.pureS X3 hx hZ hown (wd 33 rfl) (wd 34 rfl) (wd 8 rfl) (wd 35 rfl) (by decide) [(.int x), (.int (7 : Int32))] [] (isSlot l Z a0 hw x (7 : Int32) h0) e3 rfl (by rw [hml]; rfl) pd_2 rfl (hb hby d4_36) (Nat.le_of_ble_eq_true rfl) (Nat.le_of_ble_eq_true rfl) (Nat.le_of_ble_eq_true rfl) (Nat.le_of_ble_eq_true rfl) ?_
  intro T4 X4 e4
  refine Go.istoreN X4 hx (hb hby d4_39) rfl  #[.val (.ref a), .val (.int x), .val (.int (7 : Int32)), .val (.int (slotv x (7 : Int32)))] rfl ?_
  show Go p e below _ T4 (mkF m 40 #[.val (.ref a), .val (.int x), .val (.int (7 : Int32)), .val (.int (slotv x (7 : Int32)))] [])
  refine isProbe hw hx hby hml hown hZ a sl ks x (tab 8 (hsh (7 : Int32)) [u0, u1]) h0 Fs Vs (tab_nf hg hx0 hxn (Nat.le_of_ble_eq_true rfl)) 8 _ _ _ X4 e4 (ix_slot (b := 3) (by decide) rfl (by decide) (by decide) x) (free_at (inv8 hg (Nat.le_of_ble_eq_true rfl)) (Nat.le_of_ble_eq_true rfl) _) ?_
  intro T5 j5 X5 e5 hj5
  show Go p e below _ T5 (mkF m 71 #[.val (.ref a), .val (.int x), .val (.int (7 : Int32)), .val (.int j5)] [])
  refine Go.aloadN X5 hx (hb hby d4_71) rfl rfl rfl ?_
  refine Go.getF X5 hx hZ hown (host := "") (Or.inl (wd 19 rfl)) Via.refl e5 Fs (hb hby d4_72) rfl ?_
  intro T6 X6 e6
  refine Go.iloadN X6 hx (hb hby d4_75) rfl rfl  ?_
  refine Go.iloadN X6 hx (hb hby d4_76) rfl rfl  ?_
  refine Go.iastore X6 hx hZ Vs e6 ⟨hj5.1, hj5.2.1⟩ _ hj5.2.2 (by rw [List.length_map, (inv8 hg (Nat.le_of_ble_eq_true rfl)).1]; exact own_ffl hg (Nat.le_of_ble_eq_true rfl)) (hb hby d4_77) rfl ?_
  intro T7 h7 X7 e7 W7 V7'
  have V7 : Arv Z h7 sl ks .int (8 : Int32) ((tab 8 (hsh (7 : Int32)) ([u0, u1] ++ [x])).map Value.int) (.int (0 : Int32)) := by rw [tab_snoc, List.map_set]; exact V7'
  have K8 := (Keep.refl h0 [a, eb, sl]).wr W7 (Or.inl (List.mem_of_getElem? (i := 2) rfl))
  have O9 := O0.wr W7 gs
  have N10 := Fr.snoc X7 (Fr.nil _) gs
  have E11 := Ea.wr W7
  have F12 := Fe.other W7 (Or.inl n_a_sl)
  have F13 := Fn.other W7 (Or.inl n_a_sl)
  have F14 := Fs.other W7 (Or.inl n_a_sl)
  have V15 := Vb.other W7 n_eb_sl
  refine Go.aloadN X7 hx (hb hby d4_78) rfl rfl rfl ?_
  refine Go.getF X7 hx hZ hown (host := "") (Or.inl (wd 37 rfl)) Via.refl e7 F13 (hb hby d4_79) rfl ?_
  intro T16 X16 e16
  refine Go.aloadN X16 hx (hb hby d4_82) rfl rfl rfl ?_
  refine Go.getF X16 hx hZ hown (host := "") (Or.inl (wd 17 rfl)) Via.refl e16 F12 (hb hby d4_83) rfl ?_
  intro T17 X17 e17
  refine Go.alen X17 hx hZ V15 e17 (hb hby d4_86) rfl ?_
  refine Go.icmpYes X17 hx (hb hby d4_87) rfl 107 (feq (by decide : ¬ ((2 : Int32) = (4 : Int32)))).2 (by decide) (by decide) ?_
  refine Go.aloadN X17 hx (hb hby d4_107) rfl rfl rfl ?_
  refine Go.getF X17 hx hZ hown (host := "") (Or.inl (wd 17 rfl)) Via.refl e17 F12 (hb hby d4_108) rfl ?_
  intro T18 X18 e18
  refine Go.aloadN X18 hx (hb hby d4_111) rfl rfl rfl ?_
  refine Go.dup X18 hx (hb hby d4_112) rfl rfl ?_
  refine Go.getF X18 hx hZ hown (host := "") (Or.inl (wd 37 rfl)) Via.refl e18 F13 (hb hby d4_113) rfl ?_
  intro T19 X19 e19
  refine Go.dupX1 X19 hx (hb hby d4_116) rfl rfl rfl ?_
  refine Go.iconst X19 hx (hb hby d4_117) rfl (1 : Int32) rfl ?_
  refine Go.iadd X19 hx (hb hby d4_118) rfl ?_
  show Go p e below _ T19 (mkF m 119 #[.val (.ref a), .val (.int x), .val (.int (7 : Int32)), .val (.int j5)] [(.int ((2 : Int32) + (1 : Int32))), (.ref a), (.int (2 : Int32)), (.ref eb)])
  rw [show ((2 : Int32) + (1 : Int32)) = (3 : Int32) from by decide]
  refine Go.putF X19 hx hZ hown (host := "") (Or.inl (wd 37 rfl)) Via.refl e19 F13 E11 (Or.inl (wd 38 rfl)) (wd 7 rfl) (ty := .int) (by decide) rfl rfl (hb hby d4_119) rfl ?_
  intro T20 h20 X20 e20 W20 F21
  have K22 := K8.wr W20 (Or.inl (List.mem_of_getElem? (i := 0) rfl))
  have O23 := O9.wr W20 ga
  have N24 := Fr.snoc X20 N10 ga
  have E25 := E11.wr W20
  have F26 := F12.other W20 (Or.inr (slot_ne (Or.inl (wd 18 rfl)) (Or.inl (wd 38 rfl)) (by decide) (t := (.array .int)) (t' := .int) (by decide) (by decide)))
  have F27 := F14.other W20 (Or.inr (slot_ne (Or.inl (wd 20 rfl)) (Or.inl (wd 38 rfl)) (by decide) (t := (.array .int)) (t' := .int) (by decide) (by decide)))
  have V28 := V15.other W20 (Ne.symm n_a_eb)
  have V29 := V7.other W20 (Ne.symm n_a_sl)
  refine Go.iloadN X20 hx (hb hby d4_122) rfl rfl  ?_
  refine Go.iastore X20 hx hZ V28 e20 ⟨by decide, by decide⟩ 2 (by decide) (Nat.le_of_ble_eq_true rfl)  (hb hby d4_123) rfl ?_
  intro T30 h30 X30 e30 W30 V30'
  have V30 : Arv Z h30 eb kb .int (4 : Int32) [(.int u0), (.int u1), (.int x), (.int w3)] (.int (0 : Int32)) := V30'
  have K31 := K22.wr W30 (Or.inl (List.mem_of_getElem? (i := 1) rfl))
  have O32 := O23.wr W30 gb
  have N33 := Fr.snoc X30 N24 gb
  have E34 := E25.wr W30
  have F35 := F26.other W30 (Or.inl n_a_eb)
  have F36 := F21.other W30 (Or.inl n_a_eb)
  have F37 := F27.other W30 (Or.inl n_a_eb)
  have V38 := V29.other W30 (Ne.symm n_eb_sl)
  refine Go.aloadN X30 hx (hb hby d4_124) rfl rfl rfl ?_
  refine Go.getF X30 hx hZ hown (host := "") (Or.inl (wd 37 rfl)) Via.refl e30 F36 (hb hby d4_125) rfl ?_
  intro T39 X39 e39
  refine Go.iconst X39 hx (hb hby d4_128) rfl (2 : Int32) rfl ?_
  refine Go.imul X39 hx (hb hby d4_129) rfl ?_
  show Go p e below _ T39 (mkF m 130 #[.val (.ref a), .val (.int x), .val (.int (7 : Int32)), .val (.int j5)] [(.int ((3 : Int32) * (2 : Int32)))])
  rw [show ((3 : Int32) * (2 : Int32)) = (6 : Int32) from by decide]
  refine Go.aloadN X39 hx (hb hby d4_130) rfl rfl rfl ?_
  refine Go.getF X39 hx hZ hown (host := "") (Or.inl (wd 19 rfl)) Via.refl e39 F37 (hb hby d4_131) rfl ?_
  intro T40 X40 e40
  refine Go.alen X40 hx hZ V38 e40 (hb hby d4_134) rfl ?_
  refine Go.icmpYes X40 hx (hb hby d4_135) rfl 149 (flt (by decide : ¬ ((8 : Int32) < (6 : Int32)))).2.2.2 (by decide) (by decide) ?_
  refine Go.iconst X40 hx (hb hby d4_149) rfl (1 : Int32) rfl ?_
  exact Go.retZ X40 hx (z' := (1 : Int32)) hret hlk (hb hby d4_150) rfl (by decide) (by rw [e40]; exact ⟨rfl, N33, K31, E34, F35, F36, F37, V30, V38⟩) (Nat.le_of_ble_eq_true rfl) (Nat.le_of_ble_eq_true rfl)
set_option maxRecDepth 65536 in
set_option maxHeartbeats 40000000 in
theorem isAddF (l : Launch) (Z : State) (a0 : Array Value) (hw : ∀ d ∈ tables_1, d.before a0 Z = true) (a sl : Addr) (ks : ClassId) (x : Int32) (t : List Int32) (a_NONE : Addr) (k_NONE : ClassId) (h0 : Heap) (O0 : Old Z Z.heap.size h0) (FF : Facts Z a_NONE k_NONE) (Fs : Fld Z h0 a "com/example/overrule/overrule/engine/IntSet" "slots" "[I" (.ref sl)) (hsn : ¬ sl = a_NONE) (Vs : Arv Z h0 sl ks .int (8 : Int32) (t.map Value.int) (.int (0 : Int32))) (hl : lookN t 8 x 8 (hsh (7 : Int32) x) = true) : Ctr l Z (⟨"com/example/overrule/overrule/engine/IntSet", "add", "(I)Z"⟩ : MethodName) prog_46_method_2_code 4 (some .boolean) ({ frames := 3, cells := 2, slots := 24, locals := 60 } : Room) #[(.ref a), (.int x)] h0 (fun v h L => v = some (.int (0 : Int32)) ∧ L = [] ∧ h = h0) := by
  refine Ctr.of (plainFor_of_name pn_5) ?_
  have wd : ∀ {d : Jvm.Cond} (i : Nat), tables_1[i]? = some d → d.before a0 Z = true := fun i q => hw _ (List.mem_of_getElem? q)
  intro p e s m below meth c s₁ hx hby hml hown hnm hret hlk hZ X0 e0
  have FF' := FF
  obtain ⟨S_NONE, V_NONE⟩ := FF'
  refine Go.cast (ef_4 m a x) ?_
  show Go p e below _ s₁ (mkF m 0 #[.val (.ref a), .val (.int x), .unset, .unset] [])
  refine Go.aloadN X0 hx (hb hby d4_0) rfl rfl rfl ?_
  refine Go.getF X0 hx hZ hown (host := "") (Or.inl (wd 19 rfl)) Via.refl e0 Fs (hb hby d4_1) rfl ?_
  intro T1 X1 e1
  refine Go.getS X1 hx hZ hown (host := "") (Or.inl (wd 15 rfl)) Via.refl e1 (S_NONE.ext O0.2) (hb hby d4_4) rfl ?_
  intro T2 X2 e2
  refine Go.acmp X2 hx (hb hby d4_7) rfl rfl rfl false (decide_eq_false fun q => hsn (Value.ref.inj q)) 26 (by decide) (by decide) ?_
  refine Go.aloadN X2 hx (hb hby d4_26) rfl rfl rfl ?_
  refine Go.getF X2 hx hZ hown (host := "") (Or.inl (wd 19 rfl)) Via.refl e2 Fs (hb hby d4_27) rfl ?_
  intro T3 X3 e3
  refine Go.alen X3 hx hZ Vs e3 (hb hby d4_30) rfl ?_
  refine Go.iconst X3 hx (hb hby d4_31) rfl (1 : Int32) rfl ?_
  refine Go.isub X3 hx (hb hby d4_32) rfl ?_
  show Go p e below _ T3 (mkF m 33 #[.val (.ref a), .val (.int x), .unset, .unset] [(.int ((8 : Int32) - (1 : Int32)))])
  rw [show ((8 : Int32) - (1 : Int32)) = (7 : Int32) from by decide]
  refine Go.istoreN X3 hx (hb hby d4_33) rfl  #[.val (.ref a), .val (.int x), .val (.int (7 : Int32)), .unset] rfl ?_
  refine Go.iloadN X3 hx (hb hby d4_34) rfl rfl  ?_
  refine Go.iloadN X3 hx (hb hby d4_35) rfl rfl  ?_
  refine Go.pureS X3 hx hZ hown (wd 33 rfl) (wd 34 rfl) (wd 8 rfl) (wd 35 rfl) (by decide) [(.int x), (.int (7 : Int32))] [] (isSlot l Z a0 hw x (7 : Int32) h0) e3 rfl (by rw [hml]; rfl) pd_2 rfl (hb hby d4_36) (Nat.le_of_ble_eq_true rfl) (Nat.le_of_ble_eq_true rfl) (Nat.le_of_ble_eq_true rfl) (Nat.le_of_ble_eq_true rfl) ?_
  intro T4 X4 e4
  refine Go.istoreN X4 hx (hb hby d4_39) rfl  #[.val (.ref a), .val (.int x), .val (.int (7 : Int32)), .val (.int (slotv x (7 : Int32)))] rfl ?_
  show Go p e below _ T4 (mkF m 40 #[.val (.ref a), .val (.int x), .val (.int (7 : Int32)), .val (.int (slotv x (7 : Int32)))] [])
  refine isFound hw hx hby hml hown hZ a sl ks x t h0 Fs Vs 8 _ _ _ X4 e4 (ix_slot (b := 3) (by decide) rfl (by decide) (by decide) x) hl ?_
  intro T5 j5 X5 e5
  show Go p e below _ T5 (mkF m 60 #[.val (.ref a), .val (.int x), .val (.int (7 : Int32)), .val (.int j5)] [])
  refine Go.iconst X5 hx (hb hby d4_60) rfl (0 : Int32) rfl ?_
  exact Go.retZ X5 hx (z' := (0 : Int32)) hret hlk (hb hby d4_61) rfl (by decide) (by rw [e5]; exact ⟨rfl, rfl, rfl⟩) (Nat.le_of_ble_eq_true rfl) (Nat.le_of_ble_eq_true rfl)
set_option maxRecDepth 65536 in
set_option maxHeartbeats 40000000 in
theorem isAddR (l : Launch) (Z : State) (a0 : Array Value) (hw : ∀ d ∈ tables_1, d.before a0 Z = true) (a : Addr) (x : Int32) (a_NONE : Addr) (k_NONE : ClassId) (es : List Int32) (h0 : Heap) (O0 : Old Z Z.heap.size h0) (FF : Facts Z a_NONE k_NONE) (R : Rep Z a_NONE h0 a es) (hx0 : 0 ≤ x.toInt) (hl : es.length ≤ 2) : Ctr l Z (⟨"com/example/overrule/overrule/engine/IntSet", "add", "(I)Z"⟩ : MethodName) prog_46_method_2_code 4 (some .boolean) ({ frames := 3, cells := 2, slots := 24, locals := 60 } : Room) #[(.ref a), (.int x)] h0 (fun v h L => v = some (.int (if x ∈ es then 0 else 1)) ∧ Fr Z.heap.size L ∧ Blw a h0 h ∧ Rep Z a_NONE h a (addL es x)) := by
  obtain ⟨ga, hg, Ea, ⟨rfl, Fe, Fn, Fs⟩ | ⟨he, h4, eb, sl, kb, ks, pad, l1, l2, ne, lp, Fe, Fn, Fs, Vb, Vs⟩ | ⟨h5, -⟩⟩ := R
  · refine (isAdd0 l Z a0 hw a x a_NONE k_NONE h0 O0 FF Ea ga hg hx0 List.not_mem_nil Fe Fn Fs).mono ?_
    rintro v h L ⟨rfl, N, K, E, eb, sl, kb, ks, s1, s2, ne, F1, F2, F3, V1, V2⟩
    exact ⟨by simp, N, Blw.of K (by simp), ga, good_addL hg hx0, E, Or.inr (Or.inl ⟨by simp [addL], by simp [addL], eb, sl, kb, ks, [0, 0, 0], Nat.lt_of_lt_of_le Ea.lt s1, Nat.lt_of_lt_of_le Ea.lt s2, ne, rfl, F1, F2, F3, V1, V2⟩)⟩
  · have FF' := FF
    obtain ⟨S_NONE, V_NONE⟩ := FF'
    have hsn : ¬ sl = a_NONE := fun q => by have h1 := V_NONE.lt; have h2 := Nat.lt_of_le_of_lt ga l2; rw [q] at h2; exact absurd (Nat.lt_trans h1 h2) (Nat.lt_irrefl _)
    have gb : Z.heap.size ≤ eb := Nat.le_trans ga (Nat.le_of_lt l1)
    have gs : Z.heap.size ≤ sl := Nat.le_trans ga (Nat.le_of_lt l2)
    by_cases hx : x ∈ es
    · refine (isAddF l Z a0 hw a sl ks x (tab 8 (hsh (7 : Int32)) es) a_NONE k_NONE h0 O0 FF Fs hsn Vs (by rw [rep_look8 x hg (by omega)]; exact decide_eq_true hx)).mono ?_
      rintro v h L ⟨rfl, rfl, rfl⟩
      rw [if_pos hx, show addL es x = es from if_pos hx]
      exact ⟨rfl, Fr.nil _, Blw.refl _ _, ga, hg, Ea, Or.inr (Or.inl ⟨he, h4, eb, sl, kb, ks, pad, l1, l2, ne, lp, Fe, Fn, Fs, Vb, Vs⟩)⟩
    · have hg' := good_addL hg hx0
      rw [show addL es x = es ++ [x] from if_neg hx] at hg' ⊢
      rw [if_neg hx]
      rcases es with _ | ⟨u0, _ | ⟨u1, _ | ⟨u2, es⟩⟩⟩
      · exact absurd rfl he
      · obtain ⟨w1, w2, w3, rfl⟩ := len_3 (l := pad) (by simpa using lp)
        refine (isAdd1 l Z a0 hw a x a_NONE k_NONE eb sl kb ks u0 w1 w2 w3 h0 O0 FF Ea ga hg hx0 hx Fe Fn Fs gb gs (Nat.ne_of_lt l1) (Nat.ne_of_lt l2) ne hsn Vb Vs).mono ?_
        rintro v h L ⟨rfl, N, K, E, F1, F2, F3, V1, V2⟩
        exact ⟨rfl, N, Blw.of K (by simp [Nat.le_of_lt l1, Nat.le_of_lt l2]), ga, hg', E, Or.inr (Or.inl ⟨by simp, by simp, eb, sl, kb, ks, [w2, w3], l1, l2, ne, rfl, F1, F2, F3, V1, V2⟩)⟩
      · obtain ⟨w2, w3, rfl⟩ := len_2 (l := pad) (by simpa using lp)
        refine (isAdd2 l Z a0 hw a x a_NONE k_NONE eb sl kb ks u0 u1 w2 w3 h0 O0 FF Ea ga hg hx0 hx Fe Fn Fs gb gs (Nat.ne_of_lt l1) (Nat.ne_of_lt l2) ne hsn Vb Vs).mono ?_
        rintro v h L ⟨rfl, N, K, E, F1, F2, F3, V1, V2⟩
        exact ⟨rfl, N, Blw.of K (by simp [Nat.le_of_lt l1, Nat.le_of_lt l2]), ga, hg', E, Or.inr (Or.inl ⟨by simp, by simp, eb, sl, kb, ks, [w3], l1, l2, ne, rfl, F1, F2, F3, V1, V2⟩)⟩
      · exact absurd hl (by simp <;> omega)
  · omega
theorem d10_0 : decode prog_46_method_3_code 0 = .ok (.aload_n 0, 1) := by decide +kernel
theorem d10_1 : decode prog_46_method_3_code 1 = .ok (.getfield 27, 3) := by decide +kernel
theorem d10_4 : decode prog_46_method_3_code 4 = .ok (.ifCond .ne 5, 3) := by decide +kernel
theorem d10_7 : decode prog_46_method_3_code 7 = .ok (.iconst 0, 1) := by decide +kernel
theorem d10_8 : decode prog_46_method_3_code 8 = .ok (.ireturn, 1) := by decide +kernel
theorem d10_9 : decode prog_46_method_3_code 9 = .ok (.aload_n 0, 1) := by decide +kernel
theorem d10_10 : decode prog_46_method_3_code 10 = .ok (.getfield 16, 3) := by decide +kernel
theorem d10_13 : decode prog_46_method_3_code 13 = .ok (.arraylength, 1) := by decide +kernel
theorem d10_14 : decode prog_46_method_3_code 14 = .ok (.iconst 1, 1) := by decide +kernel
theorem d10_15 : decode prog_46_method_3_code 15 = .ok (.isub, 1) := by decide +kernel
theorem d10_16 : decode prog_46_method_3_code 16 = .ok (.istore_n 2, 1) := by decide +kernel
theorem d10_17 : decode prog_46_method_3_code 17 = .ok (.iload_n 1, 1) := by decide +kernel
theorem d10_18 : decode prog_46_method_3_code 18 = .ok (.iload_n 2, 1) := by decide +kernel
theorem d10_19 : decode prog_46_method_3_code 19 = .ok (.invokestatic 23, 3) := by decide +kernel
theorem d10_22 : decode prog_46_method_3_code 22 = .ok (.istore_n 3, 1) := by decide +kernel
theorem d10_23 : decode prog_46_method_3_code 23 = .ok (.aload_n 0, 1) := by decide +kernel
theorem d10_24 : decode prog_46_method_3_code 24 = .ok (.getfield 16, 3) := by decide +kernel
theorem d10_27 : decode prog_46_method_3_code 27 = .ok (.iload_n 3, 1) := by decide +kernel
theorem d10_28 : decode prog_46_method_3_code 28 = .ok (.iaload, 1) := by decide +kernel
theorem d10_29 : decode prog_46_method_3_code 29 = .ok (.iconst (-1), 1) := by decide +kernel
theorem d10_30 : decode prog_46_method_3_code 30 = .ok (.if_icmp .eq 24, 3) := by decide +kernel
theorem d10_33 : decode prog_46_method_3_code 33 = .ok (.aload_n 0, 1) := by decide +kernel
theorem d10_34 : decode prog_46_method_3_code 34 = .ok (.getfield 16, 3) := by decide +kernel
theorem d10_37 : decode prog_46_method_3_code 37 = .ok (.iload_n 3, 1) := by decide +kernel
theorem d10_38 : decode prog_46_method_3_code 38 = .ok (.iaload, 1) := by decide +kernel
theorem d10_39 : decode prog_46_method_3_code 39 = .ok (.iload_n 1, 1) := by decide +kernel
theorem d10_40 : decode prog_46_method_3_code 40 = .ok (.if_icmp .ne 5, 3) := by decide +kernel
theorem d10_43 : decode prog_46_method_3_code 43 = .ok (.iconst 1, 1) := by decide +kernel
theorem d10_44 : decode prog_46_method_3_code 44 = .ok (.ireturn, 1) := by decide +kernel
theorem d10_45 : decode prog_46_method_3_code 45 = .ok (.iload_n 3, 1) := by decide +kernel
theorem d10_46 : decode prog_46_method_3_code 46 = .ok (.iconst 1, 1) := by decide +kernel
theorem d10_47 : decode prog_46_method_3_code 47 = .ok (.iadd, 1) := by decide +kernel
theorem d10_48 : decode prog_46_method_3_code 48 = .ok (.iload_n 2, 1) := by decide +kernel
theorem d10_49 : decode prog_46_method_3_code 49 = .ok (.iand, 1) := by decide +kernel
theorem d10_50 : decode prog_46_method_3_code 50 = .ok (.istore_n 3, 1) := by decide +kernel
theorem d10_51 : decode prog_46_method_3_code 51 = .ok (.goto (-28), 3) := by decide +kernel
theorem d10_54 : decode prog_46_method_3_code 54 = .ok (.iconst 0, 1) := by decide +kernel
theorem d10_55 : decode prog_46_method_3_code 55 = .ok (.ireturn, 1) := by decide +kernel
theorem ef_10 (m : MethodId) (x0 : Addr) (x1 : Int32) : entryFrame m #[(.ref x0), (.int x1)] 4 = mkF m 0 #[.val (.ref x0), .val (.int x1), .unset, .unset] [] := by first | (simp [entryFrame, mkF, argsToLocals, Value.category]; done) | rfl
set_option maxRecDepth 65536 in
set_option maxHeartbeats 40000000 in
theorem isHas8 (l : Launch) (Z : State) (a0 : Array Value) (hw : ∀ d ∈ tables_1, d.before a0 Z = true) (a sl : Addr) (ks : ClassId) (n x : Int32) (t : List Int32) (h0 : Heap) (Fn : Fld Z h0 a "com/example/overrule/overrule/engine/IntSet" "size" "I" (.int n)) (hn : ¬ n = 0) (Fs : Fld Z h0 a "com/example/overrule/overrule/engine/IntSet" "slots" "[I" (.ref sl)) (Vs : Arv Z h0 sl ks .int (8 : Int32) (t.map Value.int) (.int (0 : Int32))) (hf : ∃ d, d < 8 ∧ t.getD ((hsh (7 : Int32) x + d) % 8) 0 = -1) : Pur l Z (⟨"com/example/overrule/overrule/engine/IntSet", "contains", "(I)Z"⟩ : MethodName) prog_46_method_3_code 4 (some .boolean) 1 14 #[(.ref a), (.int x)] h0 (some (.int (if lookN t 8 x 8 (hsh (7 : Int32) x) = true then 1 else 0 : Int32))) := by
  refine Ctr.of (plainFor_of_name pn_5) ?_
  have wd : ∀ {d : Jvm.Cond} (i : Nat), tables_1[i]? = some d → d.before a0 Z = true := fun i q => hw _ (List.mem_of_getElem? q)
  intro p e s m below meth c s₁ hx hby hml hown hnm hret hlk hZ X0 e0
  refine Go.cast (ef_10 m a x) ?_
  show Go p e below _ s₁ (mkF m 0 #[.val (.ref a), .val (.int x), .unset, .unset] [])
  refine Go.aloadN X0 hx (hb hby d10_0) rfl rfl rfl ?_
  refine Go.getF X0 hx hZ hown (host := "") (Or.inl (wd 37 rfl)) Via.refl e0 Fn (hb hby d10_1) rfl ?_
  intro T1 X1 e1
  refine Go.ifYes X1 hx (hb hby d10_4) rfl 9 ((if0 _ _).trans (feq hn).2) (by decide) (by decide) ?_
  refine Go.aloadN X1 hx (hb hby d10_9) rfl rfl rfl ?_
  refine Go.getF X1 hx hZ hown (host := "") (Or.inl (wd 19 rfl)) Via.refl e1 Fs (hb hby d10_10) rfl ?_
  intro T2 X2 e2
  refine Go.alen X2 hx hZ Vs e2 (hb hby d10_13) rfl ?_
  refine Go.iconst X2 hx (hb hby d10_14) rfl (1 : Int32) rfl ?_
  refine Go.isub X2 hx (hb hby d10_15) rfl ?_
  show Go p e below _ T2 (mkF m 16 #[.val (.ref a), .val (.int x), .unset, .unset] [(.int ((8 : Int32) - (1 : Int32)))])
  rw [show ((8 : Int32) - (1 : Int32)) = (7 : Int32) from by decide]
  refine Go.istoreN X2 hx (hb hby d10_16) rfl  #[.val (.ref a), .val (.int x), .val (.int (7 : Int32)), .unset] rfl ?_
  refine Go.iloadN X2 hx (hb hby d10_17) rfl rfl  ?_
  refine Go.iloadN X2 hx (hb hby d10_18) rfl rfl  ?_
  refine Go.pureS X2 hx hZ hown (wd 33 rfl) (wd 34 rfl) (wd 8 rfl) (wd 35 rfl) (by decide) [(.int x), (.int (7 : Int32))] [] (isSlot l Z a0 hw x (7 : Int32) h0) e2 rfl (by rw [hml]; rfl) pd_2 rfl (hb hby d10_19) (Nat.le_of_ble_eq_true rfl) (Nat.le_of_ble_eq_true rfl) (Nat.le_of_ble_eq_true rfl) (Nat.le_of_ble_eq_true rfl) ?_
  intro T3 X3 e3
  refine Go.istoreN X3 hx (hb hby d10_22) rfl  #[.val (.ref a), .val (.int x), .val (.int (7 : Int32)), .val (.int (slotv x (7 : Int32)))] rfl ?_
  have loop : ∀ (k : Nat) (j : Int32) (i : Nat) (T : State), Stand p l e ({ frames := 1, cells := 0, slots := 0, locals := 14 } : Room) s m #[(.ref a), (.int x)] below meth c T [] 0 0 → T.heap = h0 → Ix (8 : Int32) j i → (∃ d, d < k ∧ t.getD ((i + d) % 8) 0 = -1) → lookN t 8 x k i = lookN t 8 x 8 (hsh (7 : Int32) x) → Go p e below (OwnEnd (fun v h' L => v = some (.int (if lookN t 8 x 8 (hsh (7 : Int32) x) = true then 1 else 0 : Int32)) ∧ L = [] ∧ h' = h0) s 0 0) T (mkF m 23 #[.val (.ref a), .val (.int x), .val (.int (7 : Int32)), .val (.int j)] []) := by
    intro k
    induction k with
    | zero => rintro j i T X e hj ⟨d, hd, -⟩; omega
    | succ k ih =>
      intro j i T9 X9 e9 hj hf hl
      have hi : i < 8 := by have := hj.int; have h2 := Int32.lt_iff_toInt_lt.mp hj.2.1; rw [show ((8 : Int32)).toInt = 8 from by decide] at h2; omega
      show Go p e below _ T9 (mkF m 23 #[.val (.ref a), .val (.int x), .val (.int (7 : Int32)), .val (.int j)] [])
      refine Go.aloadN X9 hx (hb hby d10_23) rfl rfl rfl ?_
      refine Go.getF X9 hx hZ hown (host := "") (Or.inl (wd 19 rfl)) Via.refl e9 Fs (hb hby d10_24) rfl ?_
      intro T4 X4 e4
      refine Go.iloadN X4 hx (hb hby d10_27) rfl rfl  ?_
      refine Go.iaload X4 hx hZ (.int (t.getD i 0)) Vs e4  ⟨hj.1, hj.2.1⟩ (own_getD hj.2.2) (hb hby d10_28) rfl ?_
      refine Go.iconst X4 hx (hb hby d10_29) rfl (-1 : Int32) rfl ?_
      by_cases hc5 : (t.getD i 0) = (-1 : Int32)
      · refine Go.icmpYes X4 hx (hb hby d10_30) rfl 54 (teq hc5).1 (by decide) (by decide) ?_
        refine Go.iconst X4 hx (hb hby d10_54) rfl (0 : Int32) rfl ?_
        exact Go.retZ X4 hx (z' := (0 : Int32)) hret hlk (hb hby d10_55) rfl (by decide) (by rw [e4]; exact ⟨by rw [← hl]; unfold lookN; rw [if_pos hc5]; rfl, rfl, rfl⟩) (Nat.le_of_ble_eq_true rfl) (Nat.le_of_ble_eq_true rfl)
      · refine Go.icmpNo X4 hx (hb hby d10_30) rfl (feq hc5).1 ?_
        refine Go.aloadN X4 hx (hb hby d10_33) rfl rfl rfl ?_
        refine Go.getF X4 hx hZ hown (host := "") (Or.inl (wd 19 rfl)) Via.refl e4 Fs (hb hby d10_34) rfl ?_
        intro T6 X6 e6
        refine Go.iloadN X6 hx (hb hby d10_37) rfl rfl  ?_
        refine Go.iaload X6 hx hZ (.int (t.getD i 0)) Vs e6  ⟨hj.1, hj.2.1⟩ (own_getD hj.2.2) (hb hby d10_38) rfl ?_
        refine Go.iloadN X6 hx (hb hby d10_39) rfl rfl  ?_
        by_cases hc7 : (t.getD i 0) = x
        · refine Go.icmpNo X6 hx (hb hby d10_40) rfl (teq hc7).2 ?_
          refine Go.iconst X6 hx (hb hby d10_43) rfl (1 : Int32) rfl ?_
          exact Go.retZ X6 hx (z' := (1 : Int32)) hret hlk (hb hby d10_44) rfl (by decide) (by rw [e6]; exact ⟨by rw [← hl]; unfold lookN; rw [if_neg hc5, if_pos hc7]; rfl, rfl, rfl⟩) (Nat.le_of_ble_eq_true rfl) (Nat.le_of_ble_eq_true rfl)
        · refine Go.icmpYes X6 hx (hb hby d10_40) rfl 45 (feq hc7).2 (by decide) (by decide) ?_
          refine Go.iloadN X6 hx (hb hby d10_45) rfl rfl  ?_
          refine Go.iconst X6 hx (hb hby d10_46) rfl (1 : Int32) rfl ?_
          refine Go.iadd X6 hx (hb hby d10_47) rfl ?_
          refine Go.iloadN X6 hx (hb hby d10_48) rfl rfl  ?_
          refine Go.iand X6 hx (hb hby d10_49) rfl ?_
          refine Go.istoreN X6 hx (hb hby d10_50) rfl  #[.val (.ref a), .val (.int x), .val (.int (7 : Int32)), .val (.int ((j + (1 : Int32)) &&& (7 : Int32)))] rfl ?_
          refine Go.goto X6 hx (hb hby d10_51) rfl 23 (by decide) (by decide) ?_
          show Go p e below _ T6 (mkF m 23 #[.val (.ref a), .val (.int x), .val (.int (7 : Int32)), .val (.int ((j + (1 : Int32)) &&& (7 : Int32)))] [])
          refine ih _ ((i + 1) % 8) _ X6 e6 (ix_next (b := 3) (by decide) rfl (by decide) (by decide) hj) ?_ ?_
          · obtain ⟨d, hd, hv⟩ := hf
            cases d with
            | zero => rw [Nat.add_zero, Nat.mod_eq_of_lt hi] at hv; exact absurd hv hc5
            | succ d => exact ⟨d, by omega, by rw [step_mod]; exact hv⟩
          · rw [← hl]; conv => rhs; unfold lookN
            rw [if_neg hc5, if_neg hc7]
  show Go p e below _ T3 (mkF m 23 #[.val (.ref a), .val (.int x), .val (.int (7 : Int32)), .val (.int (slotv x (7 : Int32)))] [])
  exact loop 8 _ _ _ X3 e3 (ix_slot (b := 3) (by decide) rfl (by decide) (by decide) x) hf rfl
set_option maxRecDepth 65536 in
set_option maxHeartbeats 40000000 in
theorem isHas0 (l : Launch) (Z : State) (a0 : Array Value) (hw : ∀ d ∈ tables_1, d.before a0 Z = true) (a : Addr) (x : Int32) (h0 : Heap) (Fn : Fld Z h0 a "com/example/overrule/overrule/engine/IntSet" "size" "I" (.int (0 : Int32))) : Pur l Z (⟨"com/example/overrule/overrule/engine/IntSet", "contains", "(I)Z"⟩ : MethodName) prog_46_method_3_code 4 (some .boolean) 1 14 #[(.ref a), (.int x)] h0 (some (.int (0 : Int32))) := by
  refine Ctr.of (plainFor_of_name pn_5) ?_
  have wd : ∀ {d : Jvm.Cond} (i : Nat), tables_1[i]? = some d → d.before a0 Z = true := fun i q => hw _ (List.mem_of_getElem? q)
  intro p e s m below meth c s₁ hx hby hml hown hnm hret hlk hZ X0 e0
  refine Go.cast (ef_10 m a x) ?_
  show Go p e below _ s₁ (mkF m 0 #[.val (.ref a), .val (.int x), .unset, .unset] [])
  refine Go.aloadN X0 hx (hb hby d10_0) rfl rfl rfl ?_
  refine Go.getF X0 hx hZ hown (host := "") (Or.inl (wd 37 rfl)) Via.refl e0 Fn (hb hby d10_1) rfl ?_
  intro T1 X1 e1
  refine Go.ifNo X1 hx (hb hby d10_4) rfl ((if0 _ _).trans (teq (by decide : (0 : Int32) = (0 : Int32))).2) ?_
  refine Go.iconst X1 hx (hb hby d10_7) rfl (0 : Int32) rfl ?_
  exact Go.retZ X1 hx (z' := (0 : Int32)) hret hlk (hb hby d10_8) rfl (by decide) ⟨by first | rfl | simp [], rfl, e1⟩ (Nat.le_of_ble_eq_true rfl) (Nat.le_of_ble_eq_true rfl)
set_option maxRecDepth 65536 in
set_option maxHeartbeats 40000000 in
theorem isHasR (l : Launch) (Z : State) (a0 : Array Value) (hw : ∀ d ∈ tables_1, d.before a0 Z = true) (a aN : Addr) (x : Int32) (es : List Int32) (h0 : Heap) (hg : Good es) (R : RepN Z aN h0 a ∧ es = [] ∨ (es.length ≤ 4 ∧ RepA Z h0 a es 4 8 7 4 8)) : Pur l Z (⟨"com/example/overrule/overrule/engine/IntSet", "contains", "(I)Z"⟩ : MethodName) prog_46_method_3_code 4 (some .boolean) 1 14 #[(.ref a), (.int x)] h0 (some (.int (if x ∈ es then 1 else 0 : Int32))) := by
  obtain ⟨⟨-, Fn, -⟩, rfl⟩ | ⟨h4, eb, sl, kb, ks, pad, l1, l2, ne, lp, Fe, Fn, Fs, Vb, Vs⟩ := R
  · rw [if_neg List.not_mem_nil]; exact isHas0 l Z a0 hw a x h0 Fn
  · by_cases he : es = []
    · subst he; rw [if_neg List.not_mem_nil]; exact isHas0 l Z a0 hw a x h0 Fn
    · have hn : ¬ Int32.ofNat es.length = 0 := own_ofNat (fun q => he (List.eq_nil_of_length_eq_zero q)) (by omega)
      have C := isHas8 l Z a0 hw a sl ks (Int32.ofNat es.length) x _ h0 Fn hn Fs Vs (free_at (inv8 hg (by omega)) (by omega) _)
      rw [rep_look8 x hg (by omega)] at C
      by_cases hx : x ∈ es
      · rw [if_pos hx]; rw [decide_eq_true hx] at C; exact C
      · rw [if_neg hx]; rw [decide_eq_false hx] at C; exact C
theorem d8_0 : decode prog_46_method_4_code 0 = .ok (.aload_n 1, 1) := by decide +kernel
theorem d8_1 : decode prog_46_method_4_code 1 = .ok (.astore_n 2, 1) := by decide +kernel
theorem d8_2 : decode prog_46_method_4_code 2 = .ok (.aload_n 2, 1) := by decide +kernel
theorem d8_3 : decode prog_46_method_4_code 3 = .ok (.arraylength, 1) := by decide +kernel
theorem d8_4 : decode prog_46_method_4_code 4 = .ok (.istore_n 3, 1) := by decide +kernel
theorem d8_5 : decode prog_46_method_4_code 5 = .ok (.iconst 0, 1) := by decide +kernel
theorem d8_6 : decode prog_46_method_4_code 6 = .ok (.istore 4, 2) := by decide +kernel
theorem d8_8 : decode prog_46_method_4_code 8 = .ok (.iload 4, 2) := by decide +kernel
theorem d8_10 : decode prog_46_method_4_code 10 = .ok (.iload_n 3, 1) := by decide +kernel
theorem d8_11 : decode prog_46_method_4_code 11 = .ok (.if_icmp .ge 26, 3) := by decide +kernel
theorem d8_14 : decode prog_46_method_4_code 14 = .ok (.aload_n 2, 1) := by decide +kernel
theorem d8_15 : decode prog_46_method_4_code 15 = .ok (.iload 4, 2) := by decide +kernel
theorem d8_17 : decode prog_46_method_4_code 17 = .ok (.iaload, 1) := by decide +kernel
theorem d8_18 : decode prog_46_method_4_code 18 = .ok (.istore 5, 2) := by decide +kernel
theorem d8_20 : decode prog_46_method_4_code 20 = .ok (.aload_n 0, 1) := by decide +kernel
theorem d8_21 : decode prog_46_method_4_code 21 = .ok (.iload 5, 2) := by decide +kernel
theorem d8_23 : decode prog_46_method_4_code 23 = .ok (.invokevirtual 41, 3) := by decide +kernel
theorem d8_26 : decode prog_46_method_4_code 26 = .ok (.ifCond .ne 5, 3) := by decide +kernel
theorem d8_29 : decode prog_46_method_4_code 29 = .ok (.iconst 0, 1) := by decide +kernel
theorem d8_30 : decode prog_46_method_4_code 30 = .ok (.ireturn, 1) := by decide +kernel
theorem d8_31 : decode prog_46_method_4_code 31 = .ok (.iinc 4 1, 3) := by decide +kernel
theorem d8_34 : decode prog_46_method_4_code 34 = .ok (.goto (-26), 3) := by decide +kernel
theorem d8_37 : decode prog_46_method_4_code 37 = .ok (.iconst 1, 1) := by decide +kernel
theorem d8_38 : decode prog_46_method_4_code 38 = .ok (.ireturn, 1) := by decide +kernel
theorem ef_8 (m : MethodId) (x0 : Addr) (x1 : Addr) : entryFrame m #[(.ref x0), (.ref x1)] 6 = mkF m 0 #[.val (.ref x0), .val (.ref x1), .unset, .unset, .unset, .unset] [] := by first | (simp [entryFrame, mkF, argsToLocals, Value.category]; done) | rfl
set_option maxRecDepth 65536 in
set_option maxHeartbeats 40000000 in
theorem isAll0 (l : Launch) (Z : State) (a0 : Array Value) (hw : ∀ d ∈ tables_1, d.before a0 Z = true) (a aN g : Addr) (kg : ClassId) (es : List Int32) (h0 : Heap) (Ea : Exa Z h0 a "com/example/overrule/overrule/engine/IntSet") (hg : Good es) (R : RepN Z aN h0 a ∧ es = [] ∨ (es.length ≤ 4 ∧ RepA Z h0 a es 4 8 7 4 8)) (Vg : Arv Z h0 g kg .int (0 : Int32) [] (.int (0 : Int32))) : Pur l Z (⟨"com/example/overrule/overrule/engine/IntSet", "containsAll", "([I)Z"⟩ : MethodName) prog_46_method_4_code 6 (some .boolean) 0 0 #[(.ref a), (.ref g)] h0 (some (.int (1 : Int32))) := by
  refine Ctr.of (plainFor_of_name pn_5) ?_
  have wd : ∀ {d : Jvm.Cond} (i : Nat), tables_1[i]? = some d → d.before a0 Z = true := fun i q => hw _ (List.mem_of_getElem? q)
  intro p e s m below meth c s₁ hx hby hml hown hnm hret hlk hZ X0 e0
  refine Go.cast (ef_8 m a g) ?_
  show Go p e below _ s₁ (mkF m 0 #[.val (.ref a), .val (.ref g), .unset, .unset, .unset, .unset] [])
  refine Go.aloadN X0 hx (hb hby d8_0) rfl rfl rfl ?_
  refine Go.astoreN X0 hx (hb hby d8_1) rfl rfl #[.val (.ref a), .val (.ref g), .val (.ref g), .unset, .unset, .unset] rfl ?_
  refine Go.aloadN X0 hx (hb hby d8_2) rfl rfl rfl ?_
  refine Go.alen X0 hx hZ Vg e0 (hb hby d8_3) rfl ?_
  refine Go.istoreN X0 hx (hb hby d8_4) rfl  #[.val (.ref a), .val (.ref g), .val (.ref g), .val (.int (0 : Int32)), .unset, .unset] rfl ?_
  refine Go.iconst X0 hx (hb hby d8_5) rfl (0 : Int32) rfl ?_
  refine Go.istore X0 hx (hb hby d8_6) rfl  #[.val (.ref a), .val (.ref g), .val (.ref g), .val (.int (0 : Int32)), .val (.int (0 : Int32)), .unset] rfl ?_
  refine Go.iload X0 hx (hb hby d8_8) rfl rfl  ?_
  refine Go.iloadN X0 hx (hb hby d8_10) rfl rfl  ?_
  refine Go.icmpYes X0 hx (hb hby d8_11) rfl 37 (flt (by decide : ¬ ((0 : Int32) < (0 : Int32)))).2.1 (by decide) (by decide) ?_
  refine Go.iconst X0 hx (hb hby d8_37) rfl (1 : Int32) rfl ?_
  exact Go.retZ X0 hx (z' := (1 : Int32)) hret hlk (hb hby d8_38) rfl (by decide) ⟨rfl, rfl, e0⟩ (Nat.le_of_ble_eq_true rfl) (Nat.le_of_ble_eq_true rfl)
set_option maxRecDepth 65536 in
set_option maxHeartbeats 40000000 in
theorem isAll1 (l : Launch) (Z : State) (a0 : Array Value) (hw : ∀ d ∈ tables_1, d.before a0 Z = true) (a aN g : Addr) (kg : ClassId) (u0 : Int32) (es : List Int32) (h0 : Heap) (Ea : Exa Z h0 a "com/example/overrule/overrule/engine/IntSet") (hg : Good es) (R : RepN Z aN h0 a ∧ es = [] ∨ (es.length ≤ 4 ∧ RepA Z h0 a es 4 8 7 4 8)) (Vg : Arv Z h0 g kg .int (1 : Int32) [(.int u0)] (.int (0 : Int32))) : Pur l Z (⟨"com/example/overrule/overrule/engine/IntSet", "containsAll", "([I)Z"⟩ : MethodName) prog_46_method_4_code 6 (some .boolean) 2 29 #[(.ref a), (.ref g)] h0 (some (.int (if (if u0 ∈ es then 1 else 0 : Int32) = (0 : Int32) then (0 : Int32) else (1 : Int32)))) := by
  refine Ctr.of (plainFor_of_name pn_5) ?_
  have wd : ∀ {d : Jvm.Cond} (i : Nat), tables_1[i]? = some d → d.before a0 Z = true := fun i q => hw _ (List.mem_of_getElem? q)
  intro p e s m below meth c s₁ hx hby hml hown hnm hret hlk hZ X0 e0
  refine Go.cast (ef_8 m a g) ?_
  show Go p e below _ s₁ (mkF m 0 #[.val (.ref a), .val (.ref g), .unset, .unset, .unset, .unset] [])
  refine Go.aloadN X0 hx (hb hby d8_0) rfl rfl rfl ?_
  refine Go.astoreN X0 hx (hb hby d8_1) rfl rfl #[.val (.ref a), .val (.ref g), .val (.ref g), .unset, .unset, .unset] rfl ?_
  refine Go.aloadN X0 hx (hb hby d8_2) rfl rfl rfl ?_
  refine Go.alen X0 hx hZ Vg e0 (hb hby d8_3) rfl ?_
  refine Go.istoreN X0 hx (hb hby d8_4) rfl  #[.val (.ref a), .val (.ref g), .val (.ref g), .val (.int (1 : Int32)), .unset, .unset] rfl ?_
  refine Go.iconst X0 hx (hb hby d8_5) rfl (0 : Int32) rfl ?_
  refine Go.istore X0 hx (hb hby d8_6) rfl  #[.val (.ref a), .val (.ref g), .val (.ref g), .val (.int (1 : Int32)), .val (.int (0 : Int32)), .unset] rfl ?_
  refine Go.iload X0 hx (hb hby d8_8) rfl rfl  ?_
  refine Go.iloadN X0 hx (hb hby d8_10) rfl rfl  ?_
  refine Go.icmpNo X0 hx (hb hby d8_11) rfl (tlt (by decide : (0 : Int32) < (1 : Int32))).2.1 ?_
  refine Go.aloadN X0 hx (hb hby d8_14) rfl rfl rfl ?_
  refine Go.iload X0 hx (hb hby d8_15) rfl rfl  ?_
  refine Go.iaload X0 hx hZ (.int u0) Vg e0  ⟨by decide, by decide⟩ rfl (hb hby d8_17) rfl ?_
  refine Go.istore X0 hx (hb hby d8_18) rfl  #[.val (.ref a), .val (.ref g), .val (.ref g), .val (.int (1 : Int32)), .val (.int (0 : Int32)), .val (.int u0)] rfl ?_
  refine Go.aloadN X0 hx (hb hby d8_20) rfl rfl rfl ?_
  refine Go.iload X0 hx (hb hby d8_21) rfl rfl  ?_
  refine Go.pureV X0 hx hZ hown (wd 47 rfl) (wd 48 rfl) (notFace_of_selects (args := #[]) (mvT hZ (wd 50 rfl))) (wd 50 rfl) (wd 49 rfl) (wd 8 rfl) (wd 51 rfl) (by decide) [(.int u0)] [] Ea (isHasR l Z a0 hw a aN u0 es h0 hg R) e0 rfl (by rw [hml]; rfl) pd_3 rfl (hb hby d8_23) (Nat.le_of_ble_eq_true rfl) (Nat.le_of_ble_eq_true rfl) (Nat.le_of_ble_eq_true rfl) (Nat.le_of_ble_eq_true rfl) ?_
  intro T1 X1 e1
  by_cases hc2 : (if u0 ∈ es then 1 else 0 : Int32) = (0 : Int32)
  · refine Go.ifNo X1 hx (hb hby d8_26) rfl ((if0 _ _).trans (teq hc2).2) ?_
    refine Go.iconst X1 hx (hb hby d8_29) rfl (0 : Int32) rfl ?_
    exact Go.retZ X1 hx (z' := (0 : Int32)) hret hlk (hb hby d8_30) rfl (by decide) ⟨by rw [if_pos hc2], rfl, e1⟩ (Nat.le_of_ble_eq_true rfl) (Nat.le_of_ble_eq_true rfl)
  · refine Go.ifYes X1 hx (hb hby d8_26) rfl 31 ((if0 _ _).trans (feq hc2).2) (by decide) (by decide) ?_
    refine Go.iinc X1 hx (hb hby d8_31) rfl rfl #[.val (.ref a), .val (.ref g), .val (.ref g), .val (.int (1 : Int32)), .val (.int ((0 : Int32) + (1 : Int32))), .val (.int u0)] rfl ?_
    show Go p e below _ T1 (mkF m 34 #[.val (.ref a), .val (.ref g), .val (.ref g), .val (.int (1 : Int32)), .val (.int ((0 : Int32) + (1 : Int32))), .val (.int u0)] [])
    rw [show ((0 : Int32) + (1 : Int32)) = (1 : Int32) from by decide]
    show Go p e below _ T1 (mkF m 34 #[.val (.ref a), .val (.ref g), .val (.ref g), .val (.int (1 : Int32)), .val (.int (1 : Int32)), .val (.int u0)] [])
    refine Go.goto X1 hx (hb hby d8_34) rfl 8 (by decide) (by decide) ?_
    refine Go.iload X1 hx (hb hby d8_8) rfl rfl  ?_
    refine Go.iloadN X1 hx (hb hby d8_10) rfl rfl  ?_
    refine Go.icmpYes X1 hx (hb hby d8_11) rfl 37 (flt (by decide : ¬ ((1 : Int32) < (1 : Int32)))).2.1 (by decide) (by decide) ?_
    refine Go.iconst X1 hx (hb hby d8_37) rfl (1 : Int32) rfl ?_
    exact Go.retZ X1 hx (z' := (1 : Int32)) hret hlk (hb hby d8_38) rfl (by decide) ⟨by rw [if_neg hc2], rfl, e1⟩ (Nat.le_of_ble_eq_true rfl) (Nat.le_of_ble_eq_true rfl)
set_option maxRecDepth 65536 in
set_option maxHeartbeats 40000000 in
theorem isAll2 (l : Launch) (Z : State) (a0 : Array Value) (hw : ∀ d ∈ tables_1, d.before a0 Z = true) (a aN g : Addr) (kg : ClassId) (u0 u1 : Int32) (es : List Int32) (h0 : Heap) (Ea : Exa Z h0 a "com/example/overrule/overrule/engine/IntSet") (hg : Good es) (R : RepN Z aN h0 a ∧ es = [] ∨ (es.length ≤ 4 ∧ RepA Z h0 a es 4 8 7 4 8)) (Vg : Arv Z h0 g kg .int (2 : Int32) [(.int u0), (.int u1)] (.int (0 : Int32))) : Pur l Z (⟨"com/example/overrule/overrule/engine/IntSet", "containsAll", "([I)Z"⟩ : MethodName) prog_46_method_4_code 6 (some .boolean) 2 29 #[(.ref a), (.ref g)] h0 (some (.int (if (if u0 ∈ es then 1 else 0 : Int32) = (0 : Int32) then (0 : Int32) else if (if u1 ∈ es then 1 else 0 : Int32) = (0 : Int32) then (0 : Int32) else (1 : Int32)))) := by
  refine Ctr.of (plainFor_of_name pn_5) ?_
  have wd : ∀ {d : Jvm.Cond} (i : Nat), tables_1[i]? = some d → d.before a0 Z = true := fun i q => hw _ (List.mem_of_getElem? q)
  intro p e s m below meth c s₁ hx hby hml hown hnm hret hlk hZ X0 e0
  refine Go.cast (ef_8 m a g) ?_
  show Go p e below _ s₁ (mkF m 0 #[.val (.ref a), .val (.ref g), .unset, .unset, .unset, .unset] [])
  refine Go.aloadN X0 hx (hb hby d8_0) rfl rfl rfl ?_
  refine Go.astoreN X0 hx (hb hby d8_1) rfl rfl #[.val (.ref a), .val (.ref g), .val (.ref g), .unset, .unset, .unset] rfl ?_
  refine Go.aloadN X0 hx (hb hby d8_2) rfl rfl rfl ?_
  refine Go.alen X0 hx hZ Vg e0 (hb hby d8_3) rfl ?_
  refine Go.istoreN X0 hx (hb hby d8_4) rfl  #[.val (.ref a), .val (.ref g), .val (.ref g), .val (.int (2 : Int32)), .unset, .unset] rfl ?_
  refine Go.iconst X0 hx (hb hby d8_5) rfl (0 : Int32) rfl ?_
  refine Go.istore X0 hx (hb hby d8_6) rfl  #[.val (.ref a), .val (.ref g), .val (.ref g), .val (.int (2 : Int32)), .val (.int (0 : Int32)), .unset] rfl ?_
  refine Go.iload X0 hx (hb hby d8_8) rfl rfl  ?_
  refine Go.iloadN X0 hx (hb hby d8_10) rfl rfl  ?_
  refine Go.icmpNo X0 hx (hb hby d8_11) rfl (tlt (by decide : (0 : Int32) < (2 : Int32))).2.1 ?_
  refine Go.aloadN X0 hx (hb hby d8_14) rfl rfl rfl ?_
  refine Go.iload X0 hx (hb hby d8_15) rfl rfl  ?_
  refine Go.iaload X0 hx hZ (.int u0) Vg e0  ⟨by decide, by decide⟩ rfl (hb hby d8_17) rfl ?_
  refine Go.istore X0 hx (hb hby d8_18) rfl  #[.val (.ref a), .val (.ref g), .val (.ref g), .val (.int (2 : Int32)), .val (.int (0 : Int32)), .val (.int u0)] rfl ?_
  refine Go.aloadN X0 hx (hb hby d8_20) rfl rfl rfl ?_
  refine Go.iload X0 hx (hb hby d8_21) rfl rfl  ?_
  refine Go.pureV X0 hx hZ hown (wd 47 rfl) (wd 48 rfl) (notFace_of_selects (args := #[]) (mvT hZ (wd 50 rfl))) (wd 50 rfl) (wd 49 rfl) (wd 8 rfl) (wd 51 rfl) (by decide) [(.int u0)] [] Ea (isHasR l Z a0 hw a aN u0 es h0 hg R) e0 rfl (by rw [hml]; rfl) pd_3 rfl (hb hby d8_23) (Nat.le_of_ble_eq_true rfl) (Nat.le_of_ble_eq_true rfl) (Nat.le_of_ble_eq_true rfl) (Nat.le_of_ble_eq_true rfl) ?_
  intro T1 X1 e1
  by_cases hc2 : (if u0 ∈ es then 1 else 0 : Int32) = (0 : Int32)
  · refine Go.ifNo X1 hx (hb hby d8_26) rfl ((if0 _ _).trans (teq hc2).2) ?_
    refine Go.iconst X1 hx (hb hby d8_29) rfl (0 : Int32) rfl ?_
    exact Go.retZ X1 hx (z' := (0 : Int32)) hret hlk (hb hby d8_30) rfl (by decide) ⟨by rw [if_pos hc2], rfl, e1⟩ (Nat.le_of_ble_eq_true rfl) (Nat.le_of_ble_eq_true rfl)
  · refine Go.ifYes X1 hx (hb hby d8_26) rfl 31 ((if0 _ _).trans (feq hc2).2) (by decide) (by decide) ?_
    refine Go.iinc X1 hx (hb hby d8_31) rfl rfl #[.val (.ref a), .val (.ref g), .val (.ref g), .val (.int (2 : Int32)), .val (.int ((0 : Int32) + (1 : Int32))), .val (.int u0)] rfl ?_
    show Go p e below _ T1 (mkF m 34 #[.val (.ref a), .val (.ref g), .val (.ref g), .val (.int (2 : Int32)), .val (.int ((0 : Int32) + (1 : Int32))), .val (.int u0)] [])
    rw [show ((0 : Int32) + (1 : Int32)) = (1 : Int32) from by decide]
    show Go p e below _ T1 (mkF m 34 #[.val (.ref a), .val (.ref g), .val (.ref g), .val (.int (2 : Int32)), .val (.int (1 : Int32)), .val (.int u0)] [])
    refine Go.goto X1 hx (hb hby d8_34) rfl 8 (by decide) (by decide) ?_
    refine Go.iload X1 hx (hb hby d8_8) rfl rfl  ?_
    refine Go.iloadN X1 hx (hb hby d8_10) rfl rfl  ?_
    refine Go.icmpNo X1 hx (hb hby d8_11) rfl (tlt (by decide : (1 : Int32) < (2 : Int32))).2.1 ?_
    refine Go.aloadN X1 hx (hb hby d8_14) rfl rfl rfl ?_
    refine Go.iload X1 hx (hb hby d8_15) rfl rfl  ?_
    refine Go.iaload X1 hx hZ (.int u1) Vg e1  ⟨by decide, by decide⟩ rfl (hb hby d8_17) rfl ?_
    refine Go.istore X1 hx (hb hby d8_18) rfl  #[.val (.ref a), .val (.ref g), .val (.ref g), .val (.int (2 : Int32)), .val (.int (1 : Int32)), .val (.int u1)] rfl ?_
    refine Go.aloadN X1 hx (hb hby d8_20) rfl rfl rfl ?_
    refine Go.iload X1 hx (hb hby d8_21) rfl rfl  ?_
    refine Go.pureV X1 hx hZ hown (wd 47 rfl) (wd 48 rfl) (notFace_of_selects (args := #[]) (mvT hZ (wd 50 rfl))) (wd 50 rfl) (wd 49 rfl) (wd 8 rfl) (wd 51 rfl) (by decide) [(.int u1)] [] Ea (isHasR l Z a0 hw a aN u1 es h0 hg R) e1 rfl (by rw [hml]; rfl) pd_3 rfl (hb hby d8_23) (Nat.le_of_ble_eq_true rfl) (Nat.le_of_ble_eq_true rfl) (Nat.le_of_ble_eq_true rfl) (Nat.le_of_ble_eq_true rfl) ?_
    intro T3 X3 e3
    by_cases hc4 : (if u1 ∈ es then 1 else 0 : Int32) = (0 : Int32)
    · refine Go.ifNo X3 hx (hb hby d8_26) rfl ((if0 _ _).trans (teq hc4).2) ?_
      refine Go.iconst X3 hx (hb hby d8_29) rfl (0 : Int32) rfl ?_
      exact Go.retZ X3 hx (z' := (0 : Int32)) hret hlk (hb hby d8_30) rfl (by decide) ⟨by rw [if_neg hc2, if_pos hc4], rfl, e3⟩ (Nat.le_of_ble_eq_true rfl) (Nat.le_of_ble_eq_true rfl)
    · refine Go.ifYes X3 hx (hb hby d8_26) rfl 31 ((if0 _ _).trans (feq hc4).2) (by decide) (by decide) ?_
      refine Go.iinc X3 hx (hb hby d8_31) rfl rfl #[.val (.ref a), .val (.ref g), .val (.ref g), .val (.int (2 : Int32)), .val (.int ((1 : Int32) + (1 : Int32))), .val (.int u1)] rfl ?_
      show Go p e below _ T3 (mkF m 34 #[.val (.ref a), .val (.ref g), .val (.ref g), .val (.int (2 : Int32)), .val (.int ((1 : Int32) + (1 : Int32))), .val (.int u1)] [])
      rw [show ((1 : Int32) + (1 : Int32)) = (2 : Int32) from by decide]
      show Go p e below _ T3 (mkF m 34 #[.val (.ref a), .val (.ref g), .val (.ref g), .val (.int (2 : Int32)), .val (.int (2 : Int32)), .val (.int u1)] [])
      refine Go.goto X3 hx (hb hby d8_34) rfl 8 (by decide) (by decide) ?_
      refine Go.iload X3 hx (hb hby d8_8) rfl rfl  ?_
      refine Go.iloadN X3 hx (hb hby d8_10) rfl rfl  ?_
      refine Go.icmpYes X3 hx (hb hby d8_11) rfl 37 (flt (by decide : ¬ ((2 : Int32) < (2 : Int32)))).2.1 (by decide) (by decide) ?_
      refine Go.iconst X3 hx (hb hby d8_37) rfl (1 : Int32) rfl ?_
      exact Go.retZ X3 hx (z' := (1 : Int32)) hret hlk (hb hby d8_38) rfl (by decide) ⟨by rw [if_neg hc2, if_neg hc4], rfl, e3⟩ (Nat.le_of_ble_eq_true rfl) (Nat.le_of_ble_eq_true rfl)
set_option maxRecDepth 65536 in
set_option maxHeartbeats 40000000 in
theorem isAll3 (l : Launch) (Z : State) (a0 : Array Value) (hw : ∀ d ∈ tables_1, d.before a0 Z = true) (a aN g : Addr) (kg : ClassId) (u0 u1 u2 : Int32) (es : List Int32) (h0 : Heap) (Ea : Exa Z h0 a "com/example/overrule/overrule/engine/IntSet") (hg : Good es) (R : RepN Z aN h0 a ∧ es = [] ∨ (es.length ≤ 4 ∧ RepA Z h0 a es 4 8 7 4 8)) (Vg : Arv Z h0 g kg .int (3 : Int32) [(.int u0), (.int u1), (.int u2)] (.int (0 : Int32))) : Pur l Z (⟨"com/example/overrule/overrule/engine/IntSet", "containsAll", "([I)Z"⟩ : MethodName) prog_46_method_4_code 6 (some .boolean) 2 29 #[(.ref a), (.ref g)] h0 (some (.int (if (if u0 ∈ es then 1 else 0 : Int32) = (0 : Int32) then (0 : Int32) else if (if u1 ∈ es then 1 else 0 : Int32) = (0 : Int32) then (0 : Int32) else if (if u2 ∈ es then 1 else 0 : Int32) = (0 : Int32) then (0 : Int32) else (1 : Int32)))) := by
  refine Ctr.of (plainFor_of_name pn_5) ?_
  have wd : ∀ {d : Jvm.Cond} (i : Nat), tables_1[i]? = some d → d.before a0 Z = true := fun i q => hw _ (List.mem_of_getElem? q)
  intro p e s m below meth c s₁ hx hby hml hown hnm hret hlk hZ X0 e0
  refine Go.cast (ef_8 m a g) ?_
  show Go p e below _ s₁ (mkF m 0 #[.val (.ref a), .val (.ref g), .unset, .unset, .unset, .unset] [])
  refine Go.aloadN X0 hx (hb hby d8_0) rfl rfl rfl ?_
  refine Go.astoreN X0 hx (hb hby d8_1) rfl rfl #[.val (.ref a), .val (.ref g), .val (.ref g), .unset, .unset, .unset] rfl ?_
  refine Go.aloadN X0 hx (hb hby d8_2) rfl rfl rfl ?_
  refine Go.alen X0 hx hZ Vg e0 (hb hby d8_3) rfl ?_
  refine Go.istoreN X0 hx (hb hby d8_4) rfl  #[.val (.ref a), .val (.ref g), .val (.ref g), .val (.int (3 : Int32)), .unset, .unset] rfl ?_
  refine Go.iconst X0 hx (hb hby d8_5) rfl (0 : Int32) rfl ?_
  refine Go.istore X0 hx (hb hby d8_6) rfl  #[.val (.ref a), .val (.ref g), .val (.ref g), .val (.int (3 : Int32)), .val (.int (0 : Int32)), .unset] rfl ?_
  refine Go.iload X0 hx (hb hby d8_8) rfl rfl  ?_
  refine Go.iloadN X0 hx (hb hby d8_10) rfl rfl  ?_
  refine Go.icmpNo X0 hx (hb hby d8_11) rfl (tlt (by decide : (0 : Int32) < (3 : Int32))).2.1 ?_
  refine Go.aloadN X0 hx (hb hby d8_14) rfl rfl rfl ?_
  refine Go.iload X0 hx (hb hby d8_15) rfl rfl  ?_
  refine Go.iaload X0 hx hZ (.int u0) Vg e0  ⟨by decide, by decide⟩ rfl (hb hby d8_17) rfl ?_
  refine Go.istore X0 hx (hb hby d8_18) rfl  #[.val (.ref a), .val (.ref g), .val (.ref g), .val (.int (3 : Int32)), .val (.int (0 : Int32)), .val (.int u0)] rfl ?_
  refine Go.aloadN X0 hx (hb hby d8_20) rfl rfl rfl ?_
  refine Go.iload X0 hx (hb hby d8_21) rfl rfl  ?_
  refine Go.pureV X0 hx hZ hown (wd 47 rfl) (wd 48 rfl) (notFace_of_selects (args := #[]) (mvT hZ (wd 50 rfl))) (wd 50 rfl) (wd 49 rfl) (wd 8 rfl) (wd 51 rfl) (by decide) [(.int u0)] [] Ea (isHasR l Z a0 hw a aN u0 es h0 hg R) e0 rfl (by rw [hml]; rfl) pd_3 rfl (hb hby d8_23) (Nat.le_of_ble_eq_true rfl) (Nat.le_of_ble_eq_true rfl) (Nat.le_of_ble_eq_true rfl) (Nat.le_of_ble_eq_true rfl) ?_
  intro T1 X1 e1
  by_cases hc2 : (if u0 ∈ es then 1 else 0 : Int32) = (0 : Int32)
  · refine Go.ifNo X1 hx (hb hby d8_26) rfl ((if0 _ _).trans (teq hc2).2) ?_
    refine Go.iconst X1 hx (hb hby d8_29) rfl (0 : Int32) rfl ?_
    exact Go.retZ X1 hx (z' := (0 : Int32)) hret hlk (hb hby d8_30) rfl (by decide) ⟨by rw [if_pos hc2], rfl, e1⟩ (Nat.le_of_ble_eq_true rfl) (Nat.le_of_ble_eq_true rfl)
  · refine Go.ifYes X1 hx (hb hby d8_26) rfl 31 ((if0 _ _).trans (feq hc2).2) (by decide) (by decide) ?_
    refine Go.iinc X1 hx (hb hby d8_31) rfl rfl #[.val (.ref a), .val (.ref g), .val (.ref g), .val (.int (3 : Int32)), .val (.int ((0 : Int32) + (1 : Int32))), .val (.int u0)] rfl ?_
    show Go p e below _ T1 (mkF m 34 #[.val (.ref a), .val (.ref g), .val (.ref g), .val (.int (3 : Int32)), .val (.int ((0 : Int32) + (1 : Int32))), .val (.int u0)] [])
    rw [show ((0 : Int32) + (1 : Int32)) = (1 : Int32) from by decide]
    show Go p e below _ T1 (mkF m 34 #[.val (.ref a), .val (.ref g), .val (.ref g), .val (.int (3 : Int32)), .val (.int (1 : Int32)), .val (.int u0)] [])
    refine Go.goto X1 hx (hb hby d8_34) rfl 8 (by decide) (by decide) ?_
    refine Go.iload X1 hx (hb hby d8_8) rfl rfl  ?_
    refine Go.iloadN X1 hx (hb hby d8_10) rfl rfl  ?_
    refine Go.icmpNo X1 hx (hb hby d8_11) rfl (tlt (by decide : (1 : Int32) < (3 : Int32))).2.1 ?_
    refine Go.aloadN X1 hx (hb hby d8_14) rfl rfl rfl ?_
    refine Go.iload X1 hx (hb hby d8_15) rfl rfl  ?_
    refine Go.iaload X1 hx hZ (.int u1) Vg e1  ⟨by decide, by decide⟩ rfl (hb hby d8_17) rfl ?_
    refine Go.istore X1 hx (hb hby d8_18) rfl  #[.val (.ref a), .val (.ref g), .val (.ref g), .val (.int (3 : Int32)), .val (.int (1 : Int32)), .val (.int u1)] rfl ?_
    refine Go.aloadN X1 hx (hb hby d8_20) rfl rfl rfl ?_
    refine Go.iload X1 hx (hb hby d8_21) rfl rfl  ?_
    refine Go.pureV X1 hx hZ hown (wd 47 rfl) (wd 48 rfl) (notFace_of_selects (args := #[]) (mvT hZ (wd 50 rfl))) (wd 50 rfl) (wd 49 rfl) (wd 8 rfl) (wd 51 rfl) (by decide) [(.int u1)] [] Ea (isHasR l Z a0 hw a aN u1 es h0 hg R) e1 rfl (by rw [hml]; rfl) pd_3 rfl (hb hby d8_23) (Nat.le_of_ble_eq_true rfl) (Nat.le_of_ble_eq_true rfl) (Nat.le_of_ble_eq_true rfl) (Nat.le_of_ble_eq_true rfl) ?_
    intro T3 X3 e3
    by_cases hc4 : (if u1 ∈ es then 1 else 0 : Int32) = (0 : Int32)
    · refine Go.ifNo X3 hx (hb hby d8_26) rfl ((if0 _ _).trans (teq hc4).2) ?_
      refine Go.iconst X3 hx (hb hby d8_29) rfl (0 : Int32) rfl ?_
      exact Go.retZ X3 hx (z' := (0 : Int32)) hret hlk (hb hby d8_30) rfl (by decide) ⟨by rw [if_neg hc2, if_pos hc4], rfl, e3⟩ (Nat.le_of_ble_eq_true rfl) (Nat.le_of_ble_eq_true rfl)
    · refine Go.ifYes X3 hx (hb hby d8_26) rfl 31 ((if0 _ _).trans (feq hc4).2) (by decide) (by decide) ?_
      refine Go.iinc X3 hx (hb hby d8_31) rfl rfl #[.val (.ref a), .val (.ref g), .val (.ref g), .val (.int (3 : Int32)), .val (.int ((1 : Int32) + (1 : Int32))), .val (.int u1)] rfl ?_
      show Go p e below _ T3 (mkF m 34 #[.val (.ref a), .val (.ref g), .val (.ref g), .val (.int (3 : Int32)), .val (.int ((1 : Int32) + (1 : Int32))), .val (.int u1)] [])
      rw [show ((1 : Int32) + (1 : Int32)) = (2 : Int32) from by decide]
      show Go p e below _ T3 (mkF m 34 #[.val (.ref a), .val (.ref g), .val (.ref g), .val (.int (3 : Int32)), .val (.int (2 : Int32)), .val (.int u1)] [])
      refine Go.goto X3 hx (hb hby d8_34) rfl 8 (by decide) (by decide) ?_
      refine Go.iload X3 hx (hb hby d8_8) rfl rfl  ?_
      refine Go.iloadN X3 hx (hb hby d8_10) rfl rfl  ?_
      refine Go.icmpNo X3 hx (hb hby d8_11) rfl (tlt (by decide : (2 : Int32) < (3 : Int32))).2.1 ?_
      refine Go.aloadN X3 hx (hb hby d8_14) rfl rfl rfl ?_
      refine Go.iload X3 hx (hb hby d8_15) rfl rfl  ?_
      refine Go.iaload X3 hx hZ (.int u2) Vg e3  ⟨by decide, by decide⟩ rfl (hb hby d8_17) rfl ?_
      refine Go.istore X3 hx (hb hby d8_18) rfl  #[.val (.ref a), .val (.ref g), .val (.ref g), .val (.int (3 : Int32)), .val (.int (2 : Int32)), .val (.int u2)] rfl ?_
      refine Go.aloadN X3 hx (hb hby d8_20) rfl rfl rfl ?_
      refine Go.iload X3 hx (hb hby d8_21) rfl rfl  ?_
      refine Go.pureV X3 hx hZ hown (wd 47 rfl) (wd 48 rfl) (notFace_of_selects (args := #[]) (mvT hZ (wd 50 rfl))) (wd 50 rfl) (wd 49 rfl) (wd 8 rfl) (wd 51 rfl) (by decide) [(.int u2)] [] Ea (isHasR l Z a0 hw a aN u2 es h0 hg R) e3 rfl (by rw [hml]; rfl) pd_3 rfl (hb hby d8_23) (Nat.le_of_ble_eq_true rfl) (Nat.le_of_ble_eq_true rfl) (Nat.le_of_ble_eq_true rfl) (Nat.le_of_ble_eq_true rfl) ?_
      intro T5 X5 e5
      by_cases hc6 : (if u2 ∈ es then 1 else 0 : Int32) = (0 : Int32)
      · refine Go.ifNo X5 hx (hb hby d8_26) rfl ((if0 _ _).trans (teq hc6).2) ?_
        refine Go.iconst X5 hx (hb hby d8_29) rfl (0 : Int32) rfl ?_
        exact Go.retZ X5 hx (z' := (0 : Int32)) hret hlk (hb hby d8_30) rfl (by decide) ⟨by rw [if_neg hc2, if_neg hc4, if_pos hc6], rfl, e5⟩ (Nat.le_of_ble_eq_true rfl) (Nat.le_of_ble_eq_true rfl)
      · refine Go.ifYes X5 hx (hb hby d8_26) rfl 31 ((if0 _ _).trans (feq hc6).2) (by decide) (by decide) ?_
        refine Go.iinc X5 hx (hb hby d8_31) rfl rfl #[.val (.ref a), .val (.ref g), .val (.ref g), .val (.int (3 : Int32)), .val (.int ((2 : Int32) + (1 : Int32))), .val (.int u2)] rfl ?_
        show Go p e below _ T5 (mkF m 34 #[.val (.ref a), .val (.ref g), .val (.ref g), .val (.int (3 : Int32)), .val (.int ((2 : Int32) + (1 : Int32))), .val (.int u2)] [])
        rw [show ((2 : Int32) + (1 : Int32)) = (3 : Int32) from by decide]
        show Go p e below _ T5 (mkF m 34 #[.val (.ref a), .val (.ref g), .val (.ref g), .val (.int (3 : Int32)), .val (.int (3 : Int32)), .val (.int u2)] [])
        refine Go.goto X5 hx (hb hby d8_34) rfl 8 (by decide) (by decide) ?_
        refine Go.iload X5 hx (hb hby d8_8) rfl rfl  ?_
        refine Go.iloadN X5 hx (hb hby d8_10) rfl rfl  ?_
        refine Go.icmpYes X5 hx (hb hby d8_11) rfl 37 (flt (by decide : ¬ ((3 : Int32) < (3 : Int32)))).2.1 (by decide) (by decide) ?_
        refine Go.iconst X5 hx (hb hby d8_37) rfl (1 : Int32) rfl ?_
        exact Go.retZ X5 hx (z' := (1 : Int32)) hret hlk (hb hby d8_38) rfl (by decide) ⟨by rw [if_neg hc2, if_neg hc4, if_neg hc6], rfl, e5⟩ (Nat.le_of_ble_eq_true rfl) (Nat.le_of_ble_eq_true rfl)
theorem d1_0 : decode method_2_code 0 = .ok (.iload_n 0, 1) := by decide +kernel
theorem d1_1 : decode method_2_code 1 = .ok (.ifCond .ne 5, 3) := by decide +kernel
theorem d1_4 : decode method_2_code 4 = .ok (.iload_n 1, 1) := by decide +kernel
theorem d1_5 : decode method_2_code 5 = .ok (.ireturn, 1) := by decide +kernel
theorem d1_6 : decode method_2_code 6 = .ok (.iload_n 0, 1) := by decide +kernel
theorem d1_7 : decode method_2_code 7 = .ok (.iconst 1, 1) := by decide +kernel
theorem d1_8 : decode method_2_code 8 = .ok (.if_icmp .ne 5, 3) := by decide +kernel
theorem d1_11 : decode method_2_code 11 = .ok (.iload_n 2, 1) := by decide +kernel
theorem d1_12 : decode method_2_code 12 = .ok (.ireturn, 1) := by decide +kernel
theorem d1_13 : decode method_2_code 13 = .ok (.iload_n 0, 1) := by decide +kernel
theorem d1_14 : decode method_2_code 14 = .ok (.iconst 2, 1) := by decide +kernel
theorem d1_15 : decode method_2_code 15 = .ok (.if_icmp .ne 5, 3) := by decide +kernel
theorem d1_18 : decode method_2_code 18 = .ok (.iload_n 3, 1) := by decide +kernel
theorem d1_19 : decode method_2_code 19 = .ok (.ireturn, 1) := by decide +kernel
theorem d1_20 : decode method_2_code 20 = .ok (.iload 4, 2) := by decide +kernel
theorem d1_22 : decode method_2_code 22 = .ok (.ireturn, 1) := by decide +kernel
theorem pn_1 : plainName "com/example/overrule/overrule/engine/IntSetContainsAllPinLaw" = true := by first | (simp [plainName, overriddenIn]; done) | decide +kernel
theorem ef_1 (m : MethodId) (x0 : Int32) (x1 : Int32) (x2 : Int32) (x3 : Int32) (x4 : Int32) : entryFrame m #[(.int x0), (.int x1), (.int x2), (.int x3), (.int x4)] 5 = mkF m 0 #[.val (.int x0), .val (.int x1), .val (.int x2), .val (.int x3), .val (.int x4)] [] := by first | (simp [entryFrame, mkF, argsToLocals, Value.category]; done) | rfl
set_option maxRecDepth 65536 in
set_option maxHeartbeats 40000000 in
theorem lwPick (l : Launch) (Z : State) (a0 : Array Value) (hw : ∀ d ∈ tables_1, d.before a0 Z = true) (u0 u1 u2 u3 u4 : Int32) (h0 : Heap)  : Pur l Z (⟨"com/example/overrule/overrule/engine/IntSetContainsAllPinLaw", "pick", "(IIIII)I"⟩ : MethodName) method_2_code 5 (some .int) 0 0 #[(.int u0), (.int u1), (.int u2), (.int u3), (.int u4)] h0 (some (.int (pk u0 u1 u2 u3 u4))) := by
  refine Ctr.of (plainFor_of_name pn_1) ?_
  have wd : ∀ {d : Jvm.Cond} (i : Nat), tables_1[i]? = some d → d.before a0 Z = true := fun i q => hw _ (List.mem_of_getElem? q)
  intro p e s m below meth c s₁ hx hby hml hown hnm hret hlk hZ X0 e0
  refine Go.cast (ef_1 m u0 u1 u2 u3 u4) ?_
  show Go p e below _ s₁ (mkF m 0 #[.val (.int u0), .val (.int u1), .val (.int u2), .val (.int u3), .val (.int u4)] [])
  refine Go.iloadN X0 hx (hb hby d1_0) rfl rfl  ?_
  by_cases hc1 : u0 = (0 : Int32)
  · refine Go.ifNo X0 hx (hb hby d1_1) rfl ((if0 _ _).trans (teq hc1).2) ?_
    refine Go.iloadN X0 hx (hb hby d1_4) rfl rfl  ?_
    exact Go.retI X0 hx hret hlk (hb hby d1_5) rfl ⟨by rw [pk, if_pos hc1], rfl, e0⟩ (Nat.le_of_ble_eq_true rfl) (Nat.le_of_ble_eq_true rfl)
  · refine Go.ifYes X0 hx (hb hby d1_1) rfl 6 ((if0 _ _).trans (feq hc1).2) (by decide) (by decide) ?_
    refine Go.iloadN X0 hx (hb hby d1_6) rfl rfl  ?_
    refine Go.iconst X0 hx (hb hby d1_7) rfl (1 : Int32) rfl ?_
    by_cases hc2 : u0 = (1 : Int32)
    · refine Go.icmpNo X0 hx (hb hby d1_8) rfl (teq hc2).2 ?_
      refine Go.iloadN X0 hx (hb hby d1_11) rfl rfl  ?_
      exact Go.retI X0 hx hret hlk (hb hby d1_12) rfl ⟨by rw [pk, if_neg hc1, if_pos hc2], rfl, e0⟩ (Nat.le_of_ble_eq_true rfl) (Nat.le_of_ble_eq_true rfl)
    · refine Go.icmpYes X0 hx (hb hby d1_8) rfl 13 (feq hc2).2 (by decide) (by decide) ?_
      refine Go.iloadN X0 hx (hb hby d1_13) rfl rfl  ?_
      refine Go.iconst X0 hx (hb hby d1_14) rfl (2 : Int32) rfl ?_
      by_cases hc3 : u0 = (2 : Int32)
      · refine Go.icmpNo X0 hx (hb hby d1_15) rfl (teq hc3).2 ?_
        refine Go.iloadN X0 hx (hb hby d1_18) rfl rfl  ?_
        exact Go.retI X0 hx hret hlk (hb hby d1_19) rfl ⟨by rw [pk, if_neg hc1, if_neg hc2, if_pos hc3], rfl, e0⟩ (Nat.le_of_ble_eq_true rfl) (Nat.le_of_ble_eq_true rfl)
      · refine Go.icmpYes X0 hx (hb hby d1_15) rfl 20 (feq hc3).2 (by decide) (by decide) ?_
        refine Go.iload X0 hx (hb hby d1_20) rfl rfl  ?_
        exact Go.retI X0 hx hret hlk (hb hby d1_22) rfl ⟨by rw [pk, if_neg hc1, if_neg hc2, if_neg hc3], rfl, e0⟩ (Nat.le_of_ble_eq_true rfl) (Nat.le_of_ble_eq_true rfl)
theorem ef_0 (m : MethodId) (x0 : Int32) (x1 : Int32) (x2 : Int32) (x3 : Int32) (x4 : Int32) (x5 : Int32) : entryFrame m #[(.int x0), (.int x1), (.int x2), (.int x3), (.int x4), (.int x5)] maxLocals = mkF m 0 #[.val (.int x0), .val (.int x1), .val (.int x2), .val (.int x3), .val (.int x4), .val (.int x5), .unset, .unset, .unset, .unset, .unset, .unset, .unset, .unset, .unset, .unset, .unset] [] := by first | (simp [entryFrame, mkF, argsToLocals, Value.category, maxLocals]; done) | rfl
theorem d9_0 : decode method_3_code 0 = .ok (.iload_n 1, 1) := by decide +kernel
theorem d9_1 : decode method_3_code 1 = .ok (.iconst 1, 1) := by decide +kernel
theorem d9_2 : decode method_3_code 2 = .ok (.if_icmp .lt 8, 3) := by decide +kernel
theorem d9_5 : decode method_3_code 5 = .ok (.iload_n 0, 1) := by decide +kernel
theorem d9_6 : decode method_3_code 6 = .ok (.iload_n 2, 1) := by decide +kernel
theorem d9_7 : decode method_3_code 7 = .ok (.if_icmp .eq 24, 3) := by decide +kernel
theorem d9_10 : decode method_3_code 10 = .ok (.iload_n 1, 1) := by decide +kernel
theorem d9_11 : decode method_3_code 11 = .ok (.iconst 2, 1) := by decide +kernel
theorem d9_12 : decode method_3_code 12 = .ok (.if_icmp .lt 8, 3) := by decide +kernel
theorem d9_15 : decode method_3_code 15 = .ok (.iload_n 0, 1) := by decide +kernel
theorem d9_16 : decode method_3_code 16 = .ok (.iload_n 3, 1) := by decide +kernel
theorem d9_17 : decode method_3_code 17 = .ok (.if_icmp .eq 14, 3) := by decide +kernel
theorem d9_20 : decode method_3_code 20 = .ok (.iload_n 1, 1) := by decide +kernel
theorem d9_21 : decode method_3_code 21 = .ok (.iconst 3, 1) := by decide +kernel
theorem d9_22 : decode method_3_code 22 = .ok (.if_icmp .lt 13, 3) := by decide +kernel
theorem d9_25 : decode method_3_code 25 = .ok (.iload_n 0, 1) := by decide +kernel
theorem d9_26 : decode method_3_code 26 = .ok (.iload 4, 2) := by decide +kernel
theorem d9_28 : decode method_3_code 28 = .ok (.if_icmp .ne 7, 3) := by decide +kernel
theorem d9_31 : decode method_3_code 31 = .ok (.iconst 1, 1) := by decide +kernel
theorem d9_32 : decode method_3_code 32 = .ok (.goto 4, 3) := by decide +kernel
theorem d9_35 : decode method_3_code 35 = .ok (.iconst 0, 1) := by decide +kernel
theorem d9_36 : decode method_3_code 36 = .ok (.ireturn, 1) := by decide +kernel
theorem ef_9 (m : MethodId) (x0 : Int32) (x1 : Int32) (x2 : Int32) (x3 : Int32) (x4 : Int32) : entryFrame m #[(.int x0), (.int x1), (.int x2), (.int x3), (.int x4)] 5 = mkF m 0 #[.val (.int x0), .val (.int x1), .val (.int x2), .val (.int x3), .val (.int x4)] [] := by first | (simp [entryFrame, mkF, argsToLocals, Value.category]; done) | rfl
set_option maxRecDepth 65536 in
set_option maxHeartbeats 40000000 in
theorem lwIn0 (l : Launch) (Z : State) (a0 : Array Value) (hw : ∀ d ∈ tables_1, d.before a0 Z = true) (u0 u1 u2 u3 : Int32) (h0 : Heap)  : Pur l Z (⟨"com/example/overrule/overrule/engine/IntSetContainsAllPinLaw", "in", "(IIIII)Z"⟩ : MethodName) method_3_code 5 (some .boolean) 0 0 #[(.int u0), (.int (0 : Int32)), (.int u1), (.int u2), (.int u3)] h0 (some (.int (if u0 ∈ ([] : List Int32) then 1 else 0 : Int32))) := by
  refine Ctr.of (plainFor_of_name pn_1) ?_
  have wd : ∀ {d : Jvm.Cond} (i : Nat), tables_1[i]? = some d → d.before a0 Z = true := fun i q => hw _ (List.mem_of_getElem? q)
  intro p e s m below meth c s₁ hx hby hml hown hnm hret hlk hZ X0 e0
  refine Go.cast (ef_9 m u0 (0 : Int32) u1 u2 u3) ?_
  show Go p e below _ s₁ (mkF m 0 #[.val (.int u0), .val (.int (0 : Int32)), .val (.int u1), .val (.int u2), .val (.int u3)] [])
  refine Go.iloadN X0 hx (hb hby d9_0) rfl rfl  ?_
  refine Go.iconst X0 hx (hb hby d9_1) rfl (1 : Int32) rfl ?_
  refine Go.icmpYes X0 hx (hb hby d9_2) rfl 10 (tlt (by decide : (0 : Int32) < (1 : Int32))).1 (by decide) (by decide) ?_
  refine Go.iloadN X0 hx (hb hby d9_10) rfl rfl  ?_
  refine Go.iconst X0 hx (hb hby d9_11) rfl (2 : Int32) rfl ?_
  refine Go.icmpYes X0 hx (hb hby d9_12) rfl 20 (tlt (by decide : (0 : Int32) < (2 : Int32))).1 (by decide) (by decide) ?_
  refine Go.iloadN X0 hx (hb hby d9_20) rfl rfl  ?_
  refine Go.iconst X0 hx (hb hby d9_21) rfl (3 : Int32) rfl ?_
  refine Go.icmpYes X0 hx (hb hby d9_22) rfl 35 (tlt (by decide : (0 : Int32) < (3 : Int32))).1 (by decide) (by decide) ?_
  refine Go.iconst X0 hx (hb hby d9_35) rfl (0 : Int32) rfl ?_
  exact Go.retZ X0 hx (z' := (0 : Int32)) hret hlk (hb hby d9_36) rfl (by decide) ⟨by rw [if_neg (by simp [mem_addL])], rfl, e0⟩ (Nat.le_of_ble_eq_true rfl) (Nat.le_of_ble_eq_true rfl)
set_option maxRecDepth 65536 in
set_option maxHeartbeats 40000000 in
theorem lwIn1 (l : Launch) (Z : State) (a0 : Array Value) (hw : ∀ d ∈ tables_1, d.before a0 Z = true) (u0 u1 u2 u3 : Int32) (h0 : Heap)  : Pur l Z (⟨"com/example/overrule/overrule/engine/IntSetContainsAllPinLaw", "in", "(IIIII)Z"⟩ : MethodName) method_3_code 5 (some .boolean) 0 0 #[(.int u0), (.int (1 : Int32)), (.int u1), (.int u2), (.int u3)] h0 (some (.int (if u0 ∈ (addL ([] : List Int32) u1) then 1 else 0 : Int32))) := by
  refine Ctr.of (plainFor_of_name pn_1) ?_
  have wd : ∀ {d : Jvm.Cond} (i : Nat), tables_1[i]? = some d → d.before a0 Z = true := fun i q => hw _ (List.mem_of_getElem? q)
  intro p e s m below meth c s₁ hx hby hml hown hnm hret hlk hZ X0 e0
  refine Go.cast (ef_9 m u0 (1 : Int32) u1 u2 u3) ?_
  show Go p e below _ s₁ (mkF m 0 #[.val (.int u0), .val (.int (1 : Int32)), .val (.int u1), .val (.int u2), .val (.int u3)] [])
  refine Go.iloadN X0 hx (hb hby d9_0) rfl rfl  ?_
  refine Go.iconst X0 hx (hb hby d9_1) rfl (1 : Int32) rfl ?_
  refine Go.icmpNo X0 hx (hb hby d9_2) rfl (flt (by decide : ¬ ((1 : Int32) < (1 : Int32)))).1 ?_
  refine Go.iloadN X0 hx (hb hby d9_5) rfl rfl  ?_
  refine Go.iloadN X0 hx (hb hby d9_6) rfl rfl  ?_
  by_cases hc1 : u0 = u1
  · refine Go.icmpYes X0 hx (hb hby d9_7) rfl 31 (teq hc1).1 (by decide) (by decide) ?_
    refine Go.iconst X0 hx (hb hby d9_31) rfl (1 : Int32) rfl ?_
    refine Go.goto X0 hx (hb hby d9_32) rfl 36 (by decide) (by decide) ?_
    exact Go.retZ X0 hx (z' := (1 : Int32)) hret hlk (hb hby d9_36) rfl (by decide) ⟨by rw [if_pos (by simp [mem_addL, hc1])], rfl, e0⟩ (Nat.le_of_ble_eq_true rfl) (Nat.le_of_ble_eq_true rfl)
  · refine Go.icmpNo X0 hx (hb hby d9_7) rfl (feq hc1).1 ?_
    refine Go.iloadN X0 hx (hb hby d9_10) rfl rfl  ?_
    refine Go.iconst X0 hx (hb hby d9_11) rfl (2 : Int32) rfl ?_
    refine Go.icmpYes X0 hx (hb hby d9_12) rfl 20 (tlt (by decide : (1 : Int32) < (2 : Int32))).1 (by decide) (by decide) ?_
    refine Go.iloadN X0 hx (hb hby d9_20) rfl rfl  ?_
    refine Go.iconst X0 hx (hb hby d9_21) rfl (3 : Int32) rfl ?_
    refine Go.icmpYes X0 hx (hb hby d9_22) rfl 35 (tlt (by decide : (1 : Int32) < (3 : Int32))).1 (by decide) (by decide) ?_
    refine Go.iconst X0 hx (hb hby d9_35) rfl (0 : Int32) rfl ?_
    exact Go.retZ X0 hx (z' := (0 : Int32)) hret hlk (hb hby d9_36) rfl (by decide) ⟨by rw [if_neg (by simp [mem_addL, hc1])], rfl, e0⟩ (Nat.le_of_ble_eq_true rfl) (Nat.le_of_ble_eq_true rfl)
set_option maxRecDepth 65536 in
set_option maxHeartbeats 40000000 in
theorem lwIn2 (l : Launch) (Z : State) (a0 : Array Value) (hw : ∀ d ∈ tables_1, d.before a0 Z = true) (u0 u1 u2 u3 : Int32) (h0 : Heap)  : Pur l Z (⟨"com/example/overrule/overrule/engine/IntSetContainsAllPinLaw", "in", "(IIIII)Z"⟩ : MethodName) method_3_code 5 (some .boolean) 0 0 #[(.int u0), (.int (2 : Int32)), (.int u1), (.int u2), (.int u3)] h0 (some (.int (if u0 ∈ (addL (addL ([] : List Int32) u1) u2) then 1 else 0 : Int32))) := by
  refine Ctr.of (plainFor_of_name pn_1) ?_
  have wd : ∀ {d : Jvm.Cond} (i : Nat), tables_1[i]? = some d → d.before a0 Z = true := fun i q => hw _ (List.mem_of_getElem? q)
  intro p e s m below meth c s₁ hx hby hml hown hnm hret hlk hZ X0 e0
  refine Go.cast (ef_9 m u0 (2 : Int32) u1 u2 u3) ?_
  show Go p e below _ s₁ (mkF m 0 #[.val (.int u0), .val (.int (2 : Int32)), .val (.int u1), .val (.int u2), .val (.int u3)] [])
  refine Go.iloadN X0 hx (hb hby d9_0) rfl rfl  ?_
  refine Go.iconst X0 hx (hb hby d9_1) rfl (1 : Int32) rfl ?_
  refine Go.icmpNo X0 hx (hb hby d9_2) rfl (flt (by decide : ¬ ((2 : Int32) < (1 : Int32)))).1 ?_
  refine Go.iloadN X0 hx (hb hby d9_5) rfl rfl  ?_
  refine Go.iloadN X0 hx (hb hby d9_6) rfl rfl  ?_
  by_cases hc1 : u0 = u1
  · refine Go.icmpYes X0 hx (hb hby d9_7) rfl 31 (teq hc1).1 (by decide) (by decide) ?_
    refine Go.iconst X0 hx (hb hby d9_31) rfl (1 : Int32) rfl ?_
    refine Go.goto X0 hx (hb hby d9_32) rfl 36 (by decide) (by decide) ?_
    exact Go.retZ X0 hx (z' := (1 : Int32)) hret hlk (hb hby d9_36) rfl (by decide) ⟨by rw [if_pos (by simp [mem_addL, hc1])], rfl, e0⟩ (Nat.le_of_ble_eq_true rfl) (Nat.le_of_ble_eq_true rfl)
  · refine Go.icmpNo X0 hx (hb hby d9_7) rfl (feq hc1).1 ?_
    refine Go.iloadN X0 hx (hb hby d9_10) rfl rfl  ?_
    refine Go.iconst X0 hx (hb hby d9_11) rfl (2 : Int32) rfl ?_
    refine Go.icmpNo X0 hx (hb hby d9_12) rfl (flt (by decide : ¬ ((2 : Int32) < (2 : Int32)))).1 ?_
    refine Go.iloadN X0 hx (hb hby d9_15) rfl rfl  ?_
    refine Go.iloadN X0 hx (hb hby d9_16) rfl rfl  ?_
    by_cases hc2 : u0 = u2
    · refine Go.icmpYes X0 hx (hb hby d9_17) rfl 31 (teq hc2).1 (by decide) (by decide) ?_
      refine Go.iconst X0 hx (hb hby d9_31) rfl (1 : Int32) rfl ?_
      refine Go.goto X0 hx (hb hby d9_32) rfl 36 (by decide) (by decide) ?_
      exact Go.retZ X0 hx (z' := (1 : Int32)) hret hlk (hb hby d9_36) rfl (by decide) ⟨by rw [if_pos (by simp [mem_addL, hc1, hc2])], rfl, e0⟩ (Nat.le_of_ble_eq_true rfl) (Nat.le_of_ble_eq_true rfl)
    · refine Go.icmpNo X0 hx (hb hby d9_17) rfl (feq hc2).1 ?_
      refine Go.iloadN X0 hx (hb hby d9_20) rfl rfl  ?_
      refine Go.iconst X0 hx (hb hby d9_21) rfl (3 : Int32) rfl ?_
      refine Go.icmpYes X0 hx (hb hby d9_22) rfl 35 (tlt (by decide : (2 : Int32) < (3 : Int32))).1 (by decide) (by decide) ?_
      refine Go.iconst X0 hx (hb hby d9_35) rfl (0 : Int32) rfl ?_
      exact Go.retZ X0 hx (z' := (0 : Int32)) hret hlk (hb hby d9_36) rfl (by decide) ⟨by rw [if_neg (by simp [mem_addL, hc1, hc2])], rfl, e0⟩ (Nat.le_of_ble_eq_true rfl) (Nat.le_of_ble_eq_true rfl)
set_option maxRecDepth 65536 in
set_option maxHeartbeats 40000000 in
theorem lwIn3 (l : Launch) (Z : State) (a0 : Array Value) (hw : ∀ d ∈ tables_1, d.before a0 Z = true) (u0 u1 u2 u3 : Int32) (h0 : Heap)  : Pur l Z (⟨"com/example/overrule/overrule/engine/IntSetContainsAllPinLaw", "in", "(IIIII)Z"⟩ : MethodName) method_3_code 5 (some .boolean) 0 0 #[(.int u0), (.int (3 : Int32)), (.int u1), (.int u2), (.int u3)] h0 (some (.int (if u0 ∈ (addL (addL (addL ([] : List Int32) u1) u2) u3) then 1 else 0 : Int32))) := by
  refine Ctr.of (plainFor_of_name pn_1) ?_
  have wd : ∀ {d : Jvm.Cond} (i : Nat), tables_1[i]? = some d → d.before a0 Z = true := fun i q => hw _ (List.mem_of_getElem? q)
  intro p e s m below meth c s₁ hx hby hml hown hnm hret hlk hZ X0 e0
  refine Go.cast (ef_9 m u0 (3 : Int32) u1 u2 u3) ?_
  show Go p e below _ s₁ (mkF m 0 #[.val (.int u0), .val (.int (3 : Int32)), .val (.int u1), .val (.int u2), .val (.int u3)] [])
  refine Go.iloadN X0 hx (hb hby d9_0) rfl rfl  ?_
  refine Go.iconst X0 hx (hb hby d9_1) rfl (1 : Int32) rfl ?_
  refine Go.icmpNo X0 hx (hb hby d9_2) rfl (flt (by decide : ¬ ((3 : Int32) < (1 : Int32)))).1 ?_
  refine Go.iloadN X0 hx (hb hby d9_5) rfl rfl  ?_
  refine Go.iloadN X0 hx (hb hby d9_6) rfl rfl  ?_
  by_cases hc1 : u0 = u1
  · refine Go.icmpYes X0 hx (hb hby d9_7) rfl 31 (teq hc1).1 (by decide) (by decide) ?_
    refine Go.iconst X0 hx (hb hby d9_31) rfl (1 : Int32) rfl ?_
    refine Go.goto X0 hx (hb hby d9_32) rfl 36 (by decide) (by decide) ?_
    exact Go.retZ X0 hx (z' := (1 : Int32)) hret hlk (hb hby d9_36) rfl (by decide) ⟨by rw [if_pos (by simp [mem_addL, hc1])], rfl, e0⟩ (Nat.le_of_ble_eq_true rfl) (Nat.le_of_ble_eq_true rfl)
  · refine Go.icmpNo X0 hx (hb hby d9_7) rfl (feq hc1).1 ?_
    refine Go.iloadN X0 hx (hb hby d9_10) rfl rfl  ?_
    refine Go.iconst X0 hx (hb hby d9_11) rfl (2 : Int32) rfl ?_
    refine Go.icmpNo X0 hx (hb hby d9_12) rfl (flt (by decide : ¬ ((3 : Int32) < (2 : Int32)))).1 ?_
    refine Go.iloadN X0 hx (hb hby d9_15) rfl rfl  ?_
    refine Go.iloadN X0 hx (hb hby d9_16) rfl rfl  ?_
    by_cases hc2 : u0 = u2
    · refine Go.icmpYes X0 hx (hb hby d9_17) rfl 31 (teq hc2).1 (by decide) (by decide) ?_
      refine Go.iconst X0 hx (hb hby d9_31) rfl (1 : Int32) rfl ?_
      refine Go.goto X0 hx (hb hby d9_32) rfl 36 (by decide) (by decide) ?_
      exact Go.retZ X0 hx (z' := (1 : Int32)) hret hlk (hb hby d9_36) rfl (by decide) ⟨by rw [if_pos (by simp [mem_addL, hc1, hc2])], rfl, e0⟩ (Nat.le_of_ble_eq_true rfl) (Nat.le_of_ble_eq_true rfl)
    · refine Go.icmpNo X0 hx (hb hby d9_17) rfl (feq hc2).1 ?_
      refine Go.iloadN X0 hx (hb hby d9_20) rfl rfl  ?_
      refine Go.iconst X0 hx (hb hby d9_21) rfl (3 : Int32) rfl ?_
      refine Go.icmpNo X0 hx (hb hby d9_22) rfl (flt (by decide : ¬ ((3 : Int32) < (3 : Int32)))).1 ?_
      refine Go.iloadN X0 hx (hb hby d9_25) rfl rfl  ?_
      refine Go.iload X0 hx (hb hby d9_26) rfl rfl  ?_
      by_cases hc3 : u0 = u3
      · refine Go.icmpNo X0 hx (hb hby d9_28) rfl (teq hc3).2 ?_
        refine Go.iconst X0 hx (hb hby d9_31) rfl (1 : Int32) rfl ?_
        refine Go.goto X0 hx (hb hby d9_32) rfl 36 (by decide) (by decide) ?_
        exact Go.retZ X0 hx (z' := (1 : Int32)) hret hlk (hb hby d9_36) rfl (by decide) ⟨by rw [if_pos (by simp [mem_addL, hc1, hc2, hc3])], rfl, e0⟩ (Nat.le_of_ble_eq_true rfl) (Nat.le_of_ble_eq_true rfl)
      · refine Go.icmpYes X0 hx (hb hby d9_28) rfl 35 (feq hc3).2 (by decide) (by decide) ?_
        refine Go.iconst X0 hx (hb hby d9_35) rfl (0 : Int32) rfl ?_
        exact Go.retZ X0 hx (z' := (0 : Int32)) hret hlk (hb hby d9_36) rfl (by decide) ⟨by rw [if_neg (by simp [mem_addL, hc1, hc2, hc3])], rfl, e0⟩ (Nat.le_of_ble_eq_true rfl) (Nat.le_of_ble_eq_true rfl)
set_option maxRecDepth 65536 in
set_option maxHeartbeats 40000000 in
theorem rm0 (l : Launch) (Z : State) (a0 : Array Value) (hw : ∀ d ∈ tables_1, d.before a0 Z = true) (x0 : Int32) (x1 : Int32) (x2 : Int32) (x3 : Int32) (x4 : Int32) (x5 : Int32) (a_NONE : Addr) (k_NONE : ClassId) (FF : Facts Z a_NONE k_NONE) : Ctr l Z x code maxLocals ret room_1 #[(.int x0), (.int x1), (.int x2), (.int x3), (.int x4), (.int x5)] Z.heap (fun v h L => v = some (.int 1) ∧ Fr Z.heap.size L) := by
  refine Ctr.of (plainFor_of_name pn_1) ?_
  have wd : ∀ {d : Jvm.Cond} (i : Nat), tables_1[i]? = some d → d.before a0 Z = true := fun i q => hw _ (List.mem_of_getElem? q)
  intro p e s m below meth c s₁ hx hby hml hown hnm hret hlk hZ X0 e0
  have FF' := FF
  obtain ⟨S_NONE, V_NONE⟩ := FF'
  have hown : s.vm.findClass "com/example/overrule/overrule/engine/IntSetContainsAllPinLaw" = some m.cls := hown
  have O0 := Old.start Z
  refine Go.cast (ef_0 m x0 x1 x2 x3 x4 x5) ?_
  show Go p e below _ s₁ (mkF m 0 #[.val (.int x0), .val (.int x1), .val (.int x2), .val (.int x3), .val (.int x4), .val (.int x5), .unset, .unset, .unset, .unset, .unset, .unset, .unset, .unset, .unset, .unset, .unset] [])
  refine Go.iloadN X0 hx (hb hby at_0) rfl rfl  ?_
  refine Go.ldc X0 hx hZ hown (wd 0 rfl) (hb hby at_1) rfl ?_
  refine Go.iand X0 hx (hb hby at_3) rfl ?_
  refine Go.istore X0 hx (hb hby at_4) rfl  #[.val (.int x0), .val (.int x1), .val (.int x2), .val (.int x3), .val (.int x4), .val (.int x5), .val (.int (x0 &&& (2147483647 : Int32))), .unset, .unset, .unset, .unset, .unset, .unset, .unset, .unset, .unset, .unset] rfl ?_
  refine Go.iloadN X0 hx (hb hby at_6) rfl rfl  ?_
  refine Go.ldc X0 hx hZ hown (wd 0 rfl) (hb hby at_7) rfl ?_
  refine Go.iand X0 hx (hb hby at_9) rfl ?_
  refine Go.istore X0 hx (hb hby at_10) rfl  #[.val (.int x0), .val (.int x1), .val (.int x2), .val (.int x3), .val (.int x4), .val (.int x5), .val (.int (x0 &&& (2147483647 : Int32))), .val (.int (x1 &&& (2147483647 : Int32))), .unset, .unset, .unset, .unset, .unset, .unset, .unset, .unset, .unset] rfl ?_
  refine Go.iloadN X0 hx (hb hby at_12) rfl rfl  ?_
  refine Go.ldc X0 hx hZ hown (wd 0 rfl) (hb hby at_13) rfl ?_
  refine Go.iand X0 hx (hb hby at_15) rfl ?_
  refine Go.istore X0 hx (hb hby at_16) rfl  #[.val (.int x0), .val (.int x1), .val (.int x2), .val (.int x3), .val (.int x4), .val (.int x5), .val (.int (x0 &&& (2147483647 : Int32))), .val (.int (x1 &&& (2147483647 : Int32))), .val (.int (x2 &&& (2147483647 : Int32))), .unset, .unset, .unset, .unset, .unset, .unset, .unset, .unset] rfl ?_
  refine Go.iload X0 hx (hb hby at_18) rfl rfl  ?_
  refine Go.iconst X0 hx (hb hby at_20) rfl (3 : Int32) rfl ?_
  refine Go.iand X0 hx (hb hby at_21) rfl ?_
  refine Go.istore X0 hx (hb hby at_22) rfl  #[.val (.int x0), .val (.int x1), .val (.int x2), .val (.int x3), .val (.int x4), .val (.int x5), .val (.int (x0 &&& (2147483647 : Int32))), .val (.int (x1 &&& (2147483647 : Int32))), .val (.int (x2 &&& (2147483647 : Int32))), .val (.int (x5 &&& (3 : Int32))), .unset, .unset, .unset, .unset, .unset, .unset, .unset] rfl ?_
  refine Go.iload X0 hx (hb hby at_24) rfl rfl  ?_
  refine Go.iconst X0 hx (hb hby at_26) rfl (2 : Int32) rfl ?_
  refine Go.iushr X0 hx (hb hby at_27) rfl ?_
  refine Go.iconst X0 hx (hb hby at_28) rfl (3 : Int32) rfl ?_
  refine Go.iand X0 hx (hb hby at_29) rfl ?_
  refine Go.istore X0 hx (hb hby at_30) rfl  #[.val (.int x0), .val (.int x1), .val (.int x2), .val (.int x3), .val (.int x4), .val (.int x5), .val (.int (x0 &&& (2147483647 : Int32))), .val (.int (x1 &&& (2147483647 : Int32))), .val (.int (x2 &&& (2147483647 : Int32))), .val (.int (x5 &&& (3 : Int32))), .val (.int ((((x5).toUInt32 >>> ((2 : Int32) &&& 31).toUInt32).toInt32) &&& (3 : Int32))), .unset, .unset, .unset, .unset, .unset, .unset] rfl ?_
  refine Go.iload X0 hx (hb hby at_32) rfl rfl  ?_
  refine Go.iconst X0 hx (hb hby at_34) rfl (4 : Int32) rfl ?_
  refine Go.iushr X0 hx (hb hby at_35) rfl ?_
  refine Go.iconst X0 hx (hb hby at_36) rfl (3 : Int32) rfl ?_
  refine Go.iand X0 hx (hb hby at_37) rfl ?_
  refine Go.iload X0 hx (hb hby at_38) rfl rfl  ?_
  refine Go.iload X0 hx (hb hby at_40) rfl rfl  ?_
  refine Go.iload X0 hx (hb hby at_42) rfl rfl  ?_
  refine Go.iloadN X0 hx (hb hby at_44) rfl rfl  ?_
  refine Go.pureS X0 hx hZ hown (wd 1 rfl) (wd 2 rfl) (wd 3 rfl) (wd 4 rfl) (by decide) [(.int ((((x5).toUInt32 >>> ((4 : Int32) &&& 31).toUInt32).toInt32) &&& (3 : Int32))), (.int (x0 &&& (2147483647 : Int32))), (.int (x1 &&& (2147483647 : Int32))), (.int (x2 &&& (2147483647 : Int32))), (.int x3)] [] (lwPick l Z a0 hw ((((x5).toUInt32 >>> ((4 : Int32) &&& 31).toUInt32).toInt32) &&& (3 : Int32)) (x0 &&& (2147483647 : Int32)) (x1 &&& (2147483647 : Int32)) (x2 &&& (2147483647 : Int32)) x3 Z.heap) e0 rfl (by rw [hml]; rfl) pd_4 rfl (hb hby at_45) (Nat.le_of_ble_eq_true rfl) (Nat.le_of_ble_eq_true rfl) (Nat.le_of_ble_eq_true rfl) (Nat.le_of_ble_eq_true rfl) ?_
  intro T1 X1 e1
  refine Go.istore X1 hx (hb hby at_48) rfl  #[.val (.int x0), .val (.int x1), .val (.int x2), .val (.int x3), .val (.int x4), .val (.int x5), .val (.int (x0 &&& (2147483647 : Int32))), .val (.int (x1 &&& (2147483647 : Int32))), .val (.int (x2 &&& (2147483647 : Int32))), .val (.int (x5 &&& (3 : Int32))), .val (.int ((((x5).toUInt32 >>> ((2 : Int32) &&& 31).toUInt32).toInt32) &&& (3 : Int32))), .val (.int (pk ((((x5).toUInt32 >>> ((4 : Int32) &&& 31).toUInt32).toInt32) &&& (3 : Int32)) (x0 &&& (2147483647 : Int32)) (x1 &&& (2147483647 : Int32)) (x2 &&& (2147483647 : Int32)) x3)), .unset, .unset, .unset, .unset, .unset] rfl ?_
  refine Go.iload X1 hx (hb hby at_50) rfl rfl  ?_
  refine Go.bipush X1 hx (hb hby at_52) rfl (6 : Int32) rfl ?_
  refine Go.iushr X1 hx (hb hby at_54) rfl ?_
  refine Go.iconst X1 hx (hb hby at_55) rfl (3 : Int32) rfl ?_
  refine Go.iand X1 hx (hb hby at_56) rfl ?_
  refine Go.iload X1 hx (hb hby at_57) rfl rfl  ?_
  refine Go.iload X1 hx (hb hby at_59) rfl rfl  ?_
  refine Go.iload X1 hx (hb hby at_61) rfl rfl  ?_
  refine Go.iload X1 hx (hb hby at_63) rfl rfl  ?_
  refine Go.pureS X1 hx hZ hown (wd 1 rfl) (wd 2 rfl) (wd 3 rfl) (wd 4 rfl) (by decide) [(.int ((((x5).toUInt32 >>> ((6 : Int32) &&& 31).toUInt32).toInt32) &&& (3 : Int32))), (.int (x0 &&& (2147483647 : Int32))), (.int (x1 &&& (2147483647 : Int32))), (.int (x2 &&& (2147483647 : Int32))), (.int x4)] [] (lwPick l Z a0 hw ((((x5).toUInt32 >>> ((6 : Int32) &&& 31).toUInt32).toInt32) &&& (3 : Int32)) (x0 &&& (2147483647 : Int32)) (x1 &&& (2147483647 : Int32)) (x2 &&& (2147483647 : Int32)) x4 Z.heap) e1 rfl (by rw [hml]; rfl) pd_4 rfl (hb hby at_65) (Nat.le_of_ble_eq_true rfl) (Nat.le_of_ble_eq_true rfl) (Nat.le_of_ble_eq_true rfl) (Nat.le_of_ble_eq_true rfl) ?_
  intro T2 X2 e2
  refine Go.istore X2 hx (hb hby at_68) rfl  #[.val (.int x0), .val (.int x1), .val (.int x2), .val (.int x3), .val (.int x4), .val (.int x5), .val (.int (x0 &&& (2147483647 : Int32))), .val (.int (x1 &&& (2147483647 : Int32))), .val (.int (x2 &&& (2147483647 : Int32))), .val (.int (x5 &&& (3 : Int32))), .val (.int ((((x5).toUInt32 >>> ((2 : Int32) &&& 31).toUInt32).toInt32) &&& (3 : Int32))), .val (.int (pk ((((x5).toUInt32 >>> ((4 : Int32) &&& 31).toUInt32).toInt32) &&& (3 : Int32)) (x0 &&& (2147483647 : Int32)) (x1 &&& (2147483647 : Int32)) (x2 &&& (2147483647 : Int32)) x3)), .val (.int (pk ((((x5).toUInt32 >>> ((6 : Int32) &&& 31).toUInt32).toInt32) &&& (3 : Int32)) (x0 &&& (2147483647 : Int32)) (x1 &&& (2147483647 : Int32)) (x2 &&& (2147483647 : Int32)) x4)), .unset, .unset, .unset, .unset] rfl ?_
  refine Go.iload X2 hx (hb hby at_70) rfl rfl  ?_
  refine Go.bipush X2 hx (hb hby at_72) rfl (8 : Int32) rfl ?_
  refine Go.iushr X2 hx (hb hby at_74) rfl ?_
  refine Go.iconst X2 hx (hb hby at_75) rfl (3 : Int32) rfl ?_
  refine Go.iand X2 hx (hb hby at_76) rfl ?_
  refine Go.iload X2 hx (hb hby at_77) rfl rfl  ?_
  refine Go.iload X2 hx (hb hby at_79) rfl rfl  ?_
  refine Go.iload X2 hx (hb hby at_81) rfl rfl  ?_
  refine Go.iloadN X2 hx (hb hby at_83) rfl rfl  ?_
  refine Go.iload X2 hx (hb hby at_84) rfl rfl  ?_
  refine Go.ixor X2 hx (hb hby at_86) rfl ?_
  refine Go.pureS X2 hx hZ hown (wd 1 rfl) (wd 2 rfl) (wd 3 rfl) (wd 4 rfl) (by decide) [(.int ((((x5).toUInt32 >>> ((8 : Int32) &&& 31).toUInt32).toInt32) &&& (3 : Int32))), (.int (x0 &&& (2147483647 : Int32))), (.int (x1 &&& (2147483647 : Int32))), (.int (x2 &&& (2147483647 : Int32))), (.int (x3 ^^^ x4))] [] (lwPick l Z a0 hw ((((x5).toUInt32 >>> ((8 : Int32) &&& 31).toUInt32).toInt32) &&& (3 : Int32)) (x0 &&& (2147483647 : Int32)) (x1 &&& (2147483647 : Int32)) (x2 &&& (2147483647 : Int32)) (x3 ^^^ x4) Z.heap) e2 rfl (by rw [hml]; rfl) pd_4 rfl (hb hby at_87) (Nat.le_of_ble_eq_true rfl) (Nat.le_of_ble_eq_true rfl) (Nat.le_of_ble_eq_true rfl) (Nat.le_of_ble_eq_true rfl) ?_
  intro T3 X3 e3
  refine Go.istore X3 hx (hb hby at_90) rfl  #[.val (.int x0), .val (.int x1), .val (.int x2), .val (.int x3), .val (.int x4), .val (.int x5), .val (.int (x0 &&& (2147483647 : Int32))), .val (.int (x1 &&& (2147483647 : Int32))), .val (.int (x2 &&& (2147483647 : Int32))), .val (.int (x5 &&& (3 : Int32))), .val (.int ((((x5).toUInt32 >>> ((2 : Int32) &&& 31).toUInt32).toInt32) &&& (3 : Int32))), .val (.int (pk ((((x5).toUInt32 >>> ((4 : Int32) &&& 31).toUInt32).toInt32) &&& (3 : Int32)) (x0 &&& (2147483647 : Int32)) (x1 &&& (2147483647 : Int32)) (x2 &&& (2147483647 : Int32)) x3)), .val (.int (pk ((((x5).toUInt32 >>> ((6 : Int32) &&& 31).toUInt32).toInt32) &&& (3 : Int32)) (x0 &&& (2147483647 : Int32)) (x1 &&& (2147483647 : Int32)) (x2 &&& (2147483647 : Int32)) x4)), .val (.int (pk ((((x5).toUInt32 >>> ((8 : Int32) &&& 31).toUInt32).toInt32) &&& (3 : Int32)) (x0 &&& (2147483647 : Int32)) (x1 &&& (2147483647 : Int32)) (x2 &&& (2147483647 : Int32)) (x3 ^^^ x4))), .unset, .unset, .unset] rfl ?_
  show Go p e below _ T3 (mkF m 92 #[.val (.int x0), .val (.int x1), .val (.int x2), .val (.int x3), .val (.int x4), .val (.int x5), .val (.int (x0 &&& (2147483647 : Int32))), .val (.int (x1 &&& (2147483647 : Int32))), .val (.int (x2 &&& (2147483647 : Int32))), .val (.int (x5 &&& (3 : Int32))), .val (.int ((((x5).toUInt32 >>> ((2 : Int32) &&& 31).toUInt32).toInt32) &&& (3 : Int32))), .val (.int (pk ((((x5).toUInt32 >>> ((4 : Int32) &&& 31).toUInt32).toInt32) &&& (3 : Int32)) (x0 &&& (2147483647 : Int32)) (x1 &&& (2147483647 : Int32)) (x2 &&& (2147483647 : Int32)) x3)), .val (.int (pk ((((x5).toUInt32 >>> ((6 : Int32) &&& 31).toUInt32).toInt32) &&& (3 : Int32)) (x0 &&& (2147483647 : Int32)) (x1 &&& (2147483647 : Int32)) (x2 &&& (2147483647 : Int32)) x4)), .val (.int (pk ((((x5).toUInt32 >>> ((8 : Int32) &&& 31).toUInt32).toInt32) &&& (3 : Int32)) (x0 &&& (2147483647 : Int32)) (x1 &&& (2147483647 : Int32)) (x2 &&& (2147483647 : Int32)) (x3 ^^^ x4))), .unset, .unset, .unset] [])
  rcases own_and3 (((x5).toUInt32 >>> ((2 : Int32) &&& 31).toUInt32).toInt32) with hk | hk | hk | hk
  · rw [hk]
    refine Go.iload X3 hx (hb hby at_92) rfl rfl  ?_
    refine Go.newP X3 hx hZ (wd 5 rfl) e3 0 (by decide) 0 (by decide) (by decide) (Nat.le_of_ble_eq_true rfl) (Nat.le_of_ble_eq_true rfl) "[I" (by decide) (hb hby at_94) rfl ?_
    intro T4 h4 b4 k4 g4 X4 e4 E4 V4' A4
    have V4 : Arv Z h4 b4 k4 .int (0 : Int32) [] (.int (0 : Int32)) := V4'
    have q4 : Z.heap.size ≤ b4 := Nat.le_trans O0.2.1 (Nat.le_of_eq g4.symm)
    have O5 := O0.ext E4
    refine Go.astore X4 hx (hb hby at_96) rfl rfl #[.val (.int x0), .val (.int x1), .val (.int x2), .val (.int x3), .val (.int x4), .val (.int x5), .val (.int (x0 &&& (2147483647 : Int32))), .val (.int (x1 &&& (2147483647 : Int32))), .val (.int (x2 &&& (2147483647 : Int32))), .val (.int (x5 &&& (3 : Int32))), .val (.int (0 : Int32)), .val (.int (pk ((((x5).toUInt32 >>> ((4 : Int32) &&& 31).toUInt32).toInt32) &&& (3 : Int32)) (x0 &&& (2147483647 : Int32)) (x1 &&& (2147483647 : Int32)) (x2 &&& (2147483647 : Int32)) x3)), .val (.int (pk ((((x5).toUInt32 >>> ((6 : Int32) &&& 31).toUInt32).toInt32) &&& (3 : Int32)) (x0 &&& (2147483647 : Int32)) (x1 &&& (2147483647 : Int32)) (x2 &&& (2147483647 : Int32)) x4)), .val (.int (pk ((((x5).toUInt32 >>> ((8 : Int32) &&& 31).toUInt32).toInt32) &&& (3 : Int32)) (x0 &&& (2147483647 : Int32)) (x1 &&& (2147483647 : Int32)) (x2 &&& (2147483647 : Int32)) (x3 ^^^ x4))), .val (.ref b4), .unset, .unset] rfl ?_
    refine Go.iload X4 hx (hb hby at_98) rfl rfl  ?_
    refine Go.iconst X4 hx (hb hby at_100) rfl (1 : Int32) rfl ?_
    refine Go.icmpYes X4 hx (hb hby at_101) rfl 110 (tlt (by decide : (0 : Int32) < (1 : Int32))).1 (by decide) (by decide) ?_
    refine Go.iload X4 hx (hb hby at_110) rfl rfl  ?_
    refine Go.iconst X4 hx (hb hby at_112) rfl (2 : Int32) rfl ?_
    refine Go.icmpYes X4 hx (hb hby at_113) rfl 122 (tlt (by decide : (0 : Int32) < (2 : Int32))).1 (by decide) (by decide) ?_
    refine Go.iload X4 hx (hb hby at_122) rfl rfl  ?_
    refine Go.iconst X4 hx (hb hby at_124) rfl (3 : Int32) rfl ?_
    refine Go.icmpYes X4 hx (hb hby at_125) rfl 134 (tlt (by decide : (0 : Int32) < (3 : Int32))).1 (by decide) (by decide) ?_
    refine Go.newO X4 hx hZ hown (wd 6 rfl) (wd 7 rfl) (wd 8 rfl) e4 (hb hby at_134) rfl (Nat.le_of_ble_eq_true rfl) (Nat.le_of_ble_eq_true rfl) ?_
    intro T6 h6 b6 g6 X6 e6 E6 A6 D6
    have F7 : Fld Z h6 b6 "com/example/overrule/overrule/engine/IntSet" "elements" "[I" .null := D6 (Or.inl (wd 18 rfl)) (ty := (.array .int)) (by decide)
    have F8 : Fld Z h6 b6 "com/example/overrule/overrule/engine/IntSet" "slots" "[I" .null := D6 (Or.inl (wd 20 rfl)) (ty := (.array .int)) (by decide)
    have F9 : Fld Z h6 b6 "com/example/overrule/overrule/engine/IntSet" "size" "I" (.int (0 : Int32)) := D6 (Or.inl (wd 38 rfl)) (ty := .int) (by decide)
    have q6 : Z.heap.size ≤ b6 := Nat.le_trans O5.2.1 (Nat.le_of_eq g6.symm)
    have ne_b4_b6 : b4 ≠ b6 := Nat.ne_of_lt (Nat.lt_of_lt_of_le V4.lt (Nat.le_of_eq g6.symm))
    have O10 := O5.ext E6
    have V11 := V4.ext E6
    refine Go.dup X6 hx (hb hby at_137) rfl rfl ?_
    refine Go.callI X6 hx hZ rfl hown (wd 9 rfl) (wd 10 rfl) (wd 8 rfl) (wd 11 rfl) (by decide) [] [(.ref b6)] (isInit l Z a0 hw b6 a_NONE k_NONE h6 O10 FF A6 q6 F7 F9 F8) e6 rfl (by rw [hml]; rfl) pd_5 rfl (hb hby at_138) (Nat.le_of_ble_eq_true rfl) (Nat.le_of_ble_eq_true rfl) (Nat.le_of_ble_eq_true rfl) (Nat.le_of_ble_eq_true rfl) ?_
    rintro vv12 T12 L12 X12 Q12
    obtain ⟨rfl, N12, K12, Y12, Fe12, Fn12, Fs12⟩ := Q12
    have M13 := Fr.app (Fr.nil _) N12
    have O14 := O10.keep K12 (allS q6 (all0))
    have V15 := V11.keep K12 (ninS ne_b4_b6 (nin0))
    have E16 := A6.keep K12
    have R17 : Rep Z a_NONE T12.heap b6 ([] : List Int32) := ⟨q6, good_nil, Y12, Or.inl ⟨rfl, Fe12, Fn12, Fs12⟩⟩
    show Go p e below _ T12 (mkF m 141 #[.val (.int x0), .val (.int x1), .val (.int x2), .val (.int x3), .val (.int x4), .val (.int x5), .val (.int (x0 &&& (2147483647 : Int32))), .val (.int (x1 &&& (2147483647 : Int32))), .val (.int (x2 &&& (2147483647 : Int32))), .val (.int (x5 &&& (3 : Int32))), .val (.int (0 : Int32)), .val (.int (pk ((((x5).toUInt32 >>> ((4 : Int32) &&& 31).toUInt32).toInt32) &&& (3 : Int32)) (x0 &&& (2147483647 : Int32)) (x1 &&& (2147483647 : Int32)) (x2 &&& (2147483647 : Int32)) x3)), .val (.int (pk ((((x5).toUInt32 >>> ((6 : Int32) &&& 31).toUInt32).toInt32) &&& (3 : Int32)) (x0 &&& (2147483647 : Int32)) (x1 &&& (2147483647 : Int32)) (x2 &&& (2147483647 : Int32)) x4)), .val (.int (pk ((((x5).toUInt32 >>> ((8 : Int32) &&& 31).toUInt32).toInt32) &&& (3 : Int32)) (x0 &&& (2147483647 : Int32)) (x1 &&& (2147483647 : Int32)) (x2 &&& (2147483647 : Int32)) (x3 ^^^ x4))), .val (.ref b4), .unset, .unset] [(.ref b6)])
    refine Go.astore X12 hx (hb hby at_141) rfl rfl #[.val (.int x0), .val (.int x1), .val (.int x2), .val (.int x3), .val (.int x4), .val (.int x5), .val (.int (x0 &&& (2147483647 : Int32))), .val (.int (x1 &&& (2147483647 : Int32))), .val (.int (x2 &&& (2147483647 : Int32))), .val (.int (x5 &&& (3 : Int32))), .val (.int (0 : Int32)), .val (.int (pk ((((x5).toUInt32 >>> ((4 : Int32) &&& 31).toUInt32).toInt32) &&& (3 : Int32)) (x0 &&& (2147483647 : Int32)) (x1 &&& (2147483647 : Int32)) (x2 &&& (2147483647 : Int32)) x3)), .val (.int (pk ((((x5).toUInt32 >>> ((6 : Int32) &&& 31).toUInt32).toInt32) &&& (3 : Int32)) (x0 &&& (2147483647 : Int32)) (x1 &&& (2147483647 : Int32)) (x2 &&& (2147483647 : Int32)) x4)), .val (.int (pk ((((x5).toUInt32 >>> ((8 : Int32) &&& 31).toUInt32).toInt32) &&& (3 : Int32)) (x0 &&& (2147483647 : Int32)) (x1 &&& (2147483647 : Int32)) (x2 &&& (2147483647 : Int32)) (x3 ^^^ x4))), .val (.ref b4), .val (.ref b6), .unset] rfl ?_
    show Go p e below _ T12 (mkF m 143 #[.val (.int x0), .val (.int x1), .val (.int x2), .val (.int x3), .val (.int x4), .val (.int x5), .val (.int (x0 &&& (2147483647 : Int32))), .val (.int (x1 &&& (2147483647 : Int32))), .val (.int (x2 &&& (2147483647 : Int32))), .val (.int (x5 &&& (3 : Int32))), .val (.int (0 : Int32)), .val (.int (pk ((((x5).toUInt32 >>> ((4 : Int32) &&& 31).toUInt32).toInt32) &&& (3 : Int32)) (x0 &&& (2147483647 : Int32)) (x1 &&& (2147483647 : Int32)) (x2 &&& (2147483647 : Int32)) x3)), .val (.int (pk ((((x5).toUInt32 >>> ((6 : Int32) &&& 31).toUInt32).toInt32) &&& (3 : Int32)) (x0 &&& (2147483647 : Int32)) (x1 &&& (2147483647 : Int32)) (x2 &&& (2147483647 : Int32)) x4)), .val (.int (pk ((((x5).toUInt32 >>> ((8 : Int32) &&& 31).toUInt32).toInt32) &&& (3 : Int32)) (x0 &&& (2147483647 : Int32)) (x1 &&& (2147483647 : Int32)) (x2 &&& (2147483647 : Int32)) (x3 ^^^ x4))), .val (.ref b4), .val (.ref b6), .unset] [])
    rcases own_and3 x5 with hk | hk | hk | hk
    · rw [hk]
      refine Go.iload X12 hx (hb hby at_143) rfl rfl  ?_
      refine Go.iconst X12 hx (hb hby at_145) rfl (1 : Int32) rfl ?_
      refine Go.icmpYes X12 hx (hb hby at_146) rfl 157 (tlt (by decide : (0 : Int32) < (1 : Int32))).1 (by decide) (by decide) ?_
      refine Go.iload X12 hx (hb hby at_157) rfl rfl  ?_
      refine Go.iconst X12 hx (hb hby at_159) rfl (2 : Int32) rfl ?_
      refine Go.icmpYes X12 hx (hb hby at_160) rfl 171 (tlt (by decide : (0 : Int32) < (2 : Int32))).1 (by decide) (by decide) ?_
      refine Go.iload X12 hx (hb hby at_171) rfl rfl  ?_
      refine Go.iconst X12 hx (hb hby at_173) rfl (3 : Int32) rfl ?_
      refine Go.icmpYes X12 hx (hb hby at_174) rfl 185 (tlt (by decide : (0 : Int32) < (3 : Int32))).1 (by decide) (by decide) ?_
      show Go p e below _ T12 (mkF m 185 #[.val (.int x0), .val (.int x1), .val (.int x2), .val (.int x3), .val (.int x4), .val (.int x5), .val (.int (x0 &&& (2147483647 : Int32))), .val (.int (x1 &&& (2147483647 : Int32))), .val (.int (x2 &&& (2147483647 : Int32))), .val (.int (0 : Int32)), .val (.int (0 : Int32)), .val (.int (pk ((((x5).toUInt32 >>> ((4 : Int32) &&& 31).toUInt32).toInt32) &&& (3 : Int32)) (x0 &&& (2147483647 : Int32)) (x1 &&& (2147483647 : Int32)) (x2 &&& (2147483647 : Int32)) x3)), .val (.int (pk ((((x5).toUInt32 >>> ((6 : Int32) &&& 31).toUInt32).toInt32) &&& (3 : Int32)) (x0 &&& (2147483647 : Int32)) (x1 &&& (2147483647 : Int32)) (x2 &&& (2147483647 : Int32)) x4)), .val (.int (pk ((((x5).toUInt32 >>> ((8 : Int32) &&& 31).toUInt32).toInt32) &&& (3 : Int32)) (x0 &&& (2147483647 : Int32)) (x1 &&& (2147483647 : Int32)) (x2 &&& (2147483647 : Int32)) (x3 ^^^ x4))), .val (.ref b4), .val (.ref b6), .unset] [])
      refine Go.iload X12 hx (hb hby at_185) rfl rfl  ?_
      refine Go.iconst X12 hx (hb hby at_187) rfl (1 : Int32) rfl ?_
      refine Go.icmpYes X12 hx (hb hby at_188) rfl 207 (tlt (by decide : (0 : Int32) < (1 : Int32))).1 (by decide) (by decide) ?_
      refine Go.iload X12 hx (hb hby at_207) rfl rfl  ?_
      refine Go.iconst X12 hx (hb hby at_209) rfl (2 : Int32) rfl ?_
      refine Go.icmpYes X12 hx (hb hby at_210) rfl 229 (tlt (by decide : (0 : Int32) < (2 : Int32))).1 (by decide) (by decide) ?_
      refine Go.iload X12 hx (hb hby at_229) rfl rfl  ?_
      refine Go.iconst X12 hx (hb hby at_231) rfl (3 : Int32) rfl ?_
      refine Go.icmpYes X12 hx (hb hby at_232) rfl 251 (tlt (by decide : (0 : Int32) < (3 : Int32))).1 (by decide) (by decide) ?_
      refine Go.iconst X12 hx (hb hby at_251) rfl (1 : Int32) rfl ?_
      refine Go.goto X12 hx (hb hby at_252) rfl 256 (by decide) (by decide) ?_
      refine Go.istore X12 hx (hb hby at_256) rfl  #[.val (.int x0), .val (.int x1), .val (.int x2), .val (.int x3), .val (.int x4), .val (.int x5), .val (.int (x0 &&& (2147483647 : Int32))), .val (.int (x1 &&& (2147483647 : Int32))), .val (.int (x2 &&& (2147483647 : Int32))), .val (.int (0 : Int32)), .val (.int (0 : Int32)), .val (.int (pk ((((x5).toUInt32 >>> ((4 : Int32) &&& 31).toUInt32).toInt32) &&& (3 : Int32)) (x0 &&& (2147483647 : Int32)) (x1 &&& (2147483647 : Int32)) (x2 &&& (2147483647 : Int32)) x3)), .val (.int (pk ((((x5).toUInt32 >>> ((6 : Int32) &&& 31).toUInt32).toInt32) &&& (3 : Int32)) (x0 &&& (2147483647 : Int32)) (x1 &&& (2147483647 : Int32)) (x2 &&& (2147483647 : Int32)) x4)), .val (.int (pk ((((x5).toUInt32 >>> ((8 : Int32) &&& 31).toUInt32).toInt32) &&& (3 : Int32)) (x0 &&& (2147483647 : Int32)) (x1 &&& (2147483647 : Int32)) (x2 &&& (2147483647 : Int32)) (x3 ^^^ x4))), .val (.ref b4), .val (.ref b6), .val (.int (1 : Int32))] rfl ?_
      refine Go.aload X12 hx (hb hby at_258) rfl rfl rfl ?_
      refine Go.aload X12 hx (hb hby at_260) rfl rfl rfl ?_
      refine Go.pureV X12 hx hZ hown (wd 39 rfl) (wd 40 rfl) (notFace_of_selects (args := #[]) (mvT hZ (wd 42 rfl))) (wd 42 rfl) (wd 41 rfl) (wd 8 rfl) (wd 43 rfl) (by decide) [(.ref b4)] [] Y12 (isAll0 l Z a0 hw b6 a_NONE b4 k4  ([] : List Int32) T12.heap Y12 R17.2.1 (rep_read4 R17 (Nat.le_trans (Nat.le_refl 0) (Nat.le_of_ble_eq_true rfl))) V15) rfl rfl (by rw [hml]; rfl) pd_6 rfl (hb hby at_262) (Nat.le_of_ble_eq_true rfl) (Nat.le_of_ble_eq_true rfl) (Nat.le_of_ble_eq_true rfl) (Nat.le_of_ble_eq_true rfl) ?_
      intro T18 X18 e18
      show Go p e below _ T18 (mkF m 265 #[.val (.int x0), .val (.int x1), .val (.int x2), .val (.int x3), .val (.int x4), .val (.int x5), .val (.int (x0 &&& (2147483647 : Int32))), .val (.int (x1 &&& (2147483647 : Int32))), .val (.int (x2 &&& (2147483647 : Int32))), .val (.int (0 : Int32)), .val (.int (0 : Int32)), .val (.int (pk ((((x5).toUInt32 >>> ((4 : Int32) &&& 31).toUInt32).toInt32) &&& (3 : Int32)) (x0 &&& (2147483647 : Int32)) (x1 &&& (2147483647 : Int32)) (x2 &&& (2147483647 : Int32)) x3)), .val (.int (pk ((((x5).toUInt32 >>> ((6 : Int32) &&& 31).toUInt32).toInt32) &&& (3 : Int32)) (x0 &&& (2147483647 : Int32)) (x1 &&& (2147483647 : Int32)) (x2 &&& (2147483647 : Int32)) x4)), .val (.int (pk ((((x5).toUInt32 >>> ((8 : Int32) &&& 31).toUInt32).toInt32) &&& (3 : Int32)) (x0 &&& (2147483647 : Int32)) (x1 &&& (2147483647 : Int32)) (x2 &&& (2147483647 : Int32)) (x3 ^^^ x4))), .val (.ref b4), .val (.ref b6), .val (.int (1 : Int32))] [(.int (1 : Int32))])
      refine Go.iload X18 hx (hb hby at_265) rfl rfl  ?_
      refine Go.icmpNo X18 hx (hb hby at_267) rfl (teq (by decide : (1 : Int32) = (1 : Int32))).2 ?_
      refine Go.iconst X18 hx (hb hby at_270) rfl (1 : Int32) rfl ?_
      refine Go.goto X18 hx (hb hby at_271) rfl 275 (by decide) (by decide) ?_
      exact Go.retZ X18 hx (z' := (1 : Int32)) hret hlk (hb hby at_275) rfl (by decide) ⟨by first | rfl | simp [], M13⟩ (Nat.le_of_ble_eq_true rfl) (Nat.le_of_ble_eq_true rfl)
    · rw [hk]
      refine Go.iload X12 hx (hb hby at_143) rfl rfl  ?_
      refine Go.iconst X12 hx (hb hby at_145) rfl (1 : Int32) rfl ?_
      refine Go.icmpNo X12 hx (hb hby at_146) rfl (flt (by decide : ¬ ((1 : Int32) < (1 : Int32)))).1 ?_
      refine Go.aload X12 hx (hb hby at_149) rfl rfl rfl ?_
      refine Go.iload X12 hx (hb hby at_151) rfl rfl  ?_
      refine Go.callV X12 hx hZ hown (wd 21 rfl) (wd 22 rfl) (notFace_of_selects (args := #[]) (mvT hZ (wd 24 rfl))) (wd 24 rfl) (wd 23 rfl) (wd 8 rfl) (wd 25 rfl) (by decide) [(.int (x0 &&& (2147483647 : Int32)))] [] Y12 (isAddR l Z a0 hw b6 (x0 &&& (2147483647 : Int32)) a_NONE k_NONE ([] : List Int32) T12.heap O14 FF R17 (own_nn x0) (Nat.le_trans (Nat.le_refl 0) (Nat.le_of_ble_eq_true rfl))) rfl rfl (by rw [hml]; rfl) pd_3 rfl (hb hby at_153) (Nat.le_of_ble_eq_true rfl) (Nat.le_of_ble_eq_true rfl) (Nat.le_of_ble_eq_true rfl) (Nat.le_of_ble_eq_true rfl) ?_
      rintro vv19 T19 L19 X19 Q19
      obtain ⟨rfl, N19, B19, R19⟩ := Q19
      have M20 := Fr.app M13 N19
      have O21 := Blw.old B19 q6 O14
      have V22 := Arv.blw V15 B19 (Nat.lt_of_lt_of_le V4.lt (Nat.le_of_eq g6.symm))
      have E23 := R19.2.2.1
      refine Go.pop X19 hx (hb hby at_156) rfl rfl ?_
      refine Go.iload X19 hx (hb hby at_157) rfl rfl  ?_
      refine Go.iconst X19 hx (hb hby at_159) rfl (2 : Int32) rfl ?_
      refine Go.icmpYes X19 hx (hb hby at_160) rfl 171 (tlt (by decide : (1 : Int32) < (2 : Int32))).1 (by decide) (by decide) ?_
      refine Go.iload X19 hx (hb hby at_171) rfl rfl  ?_
      refine Go.iconst X19 hx (hb hby at_173) rfl (3 : Int32) rfl ?_
      refine Go.icmpYes X19 hx (hb hby at_174) rfl 185 (tlt (by decide : (1 : Int32) < (3 : Int32))).1 (by decide) (by decide) ?_
      show Go p e below _ T19 (mkF m 185 #[.val (.int x0), .val (.int x1), .val (.int x2), .val (.int x3), .val (.int x4), .val (.int x5), .val (.int (x0 &&& (2147483647 : Int32))), .val (.int (x1 &&& (2147483647 : Int32))), .val (.int (x2 &&& (2147483647 : Int32))), .val (.int (1 : Int32)), .val (.int (0 : Int32)), .val (.int (pk ((((x5).toUInt32 >>> ((4 : Int32) &&& 31).toUInt32).toInt32) &&& (3 : Int32)) (x0 &&& (2147483647 : Int32)) (x1 &&& (2147483647 : Int32)) (x2 &&& (2147483647 : Int32)) x3)), .val (.int (pk ((((x5).toUInt32 >>> ((6 : Int32) &&& 31).toUInt32).toInt32) &&& (3 : Int32)) (x0 &&& (2147483647 : Int32)) (x1 &&& (2147483647 : Int32)) (x2 &&& (2147483647 : Int32)) x4)), .val (.int (pk ((((x5).toUInt32 >>> ((8 : Int32) &&& 31).toUInt32).toInt32) &&& (3 : Int32)) (x0 &&& (2147483647 : Int32)) (x1 &&& (2147483647 : Int32)) (x2 &&& (2147483647 : Int32)) (x3 ^^^ x4))), .val (.ref b4), .val (.ref b6), .unset] [])
      refine Go.iload X19 hx (hb hby at_185) rfl rfl  ?_
      refine Go.iconst X19 hx (hb hby at_187) rfl (1 : Int32) rfl ?_
      refine Go.icmpYes X19 hx (hb hby at_188) rfl 207 (tlt (by decide : (0 : Int32) < (1 : Int32))).1 (by decide) (by decide) ?_
      refine Go.iload X19 hx (hb hby at_207) rfl rfl  ?_
      refine Go.iconst X19 hx (hb hby at_209) rfl (2 : Int32) rfl ?_
      refine Go.icmpYes X19 hx (hb hby at_210) rfl 229 (tlt (by decide : (0 : Int32) < (2 : Int32))).1 (by decide) (by decide) ?_
      refine Go.iload X19 hx (hb hby at_229) rfl rfl  ?_
      refine Go.iconst X19 hx (hb hby at_231) rfl (3 : Int32) rfl ?_
      refine Go.icmpYes X19 hx (hb hby at_232) rfl 251 (tlt (by decide : (0 : Int32) < (3 : Int32))).1 (by decide) (by decide) ?_
      refine Go.iconst X19 hx (hb hby at_251) rfl (1 : Int32) rfl ?_
      refine Go.goto X19 hx (hb hby at_252) rfl 256 (by decide) (by decide) ?_
      refine Go.istore X19 hx (hb hby at_256) rfl  #[.val (.int x0), .val (.int x1), .val (.int x2), .val (.int x3), .val (.int x4), .val (.int x5), .val (.int (x0 &&& (2147483647 : Int32))), .val (.int (x1 &&& (2147483647 : Int32))), .val (.int (x2 &&& (2147483647 : Int32))), .val (.int (1 : Int32)), .val (.int (0 : Int32)), .val (.int (pk ((((x5).toUInt32 >>> ((4 : Int32) &&& 31).toUInt32).toInt32) &&& (3 : Int32)) (x0 &&& (2147483647 : Int32)) (x1 &&& (2147483647 : Int32)) (x2 &&& (2147483647 : Int32)) x3)), .val (.int (pk ((((x5).toUInt32 >>> ((6 : Int32) &&& 31).toUInt32).toInt32) &&& (3 : Int32)) (x0 &&& (2147483647 : Int32)) (x1 &&& (2147483647 : Int32)) (x2 &&& (2147483647 : Int32)) x4)), .val (.int (pk ((((x5).toUInt32 >>> ((8 : Int32) &&& 31).toUInt32).toInt32) &&& (3 : Int32)) (x0 &&& (2147483647 : Int32)) (x1 &&& (2147483647 : Int32)) (x2 &&& (2147483647 : Int32)) (x3 ^^^ x4))), .val (.ref b4), .val (.ref b6), .val (.int (1 : Int32))] rfl ?_
      refine Go.aload X19 hx (hb hby at_258) rfl rfl rfl ?_
      refine Go.aload X19 hx (hb hby at_260) rfl rfl rfl ?_
      refine Go.pureV X19 hx hZ hown (wd 39 rfl) (wd 40 rfl) (notFace_of_selects (args := #[]) (mvT hZ (wd 42 rfl))) (wd 42 rfl) (wd 41 rfl) (wd 8 rfl) (wd 43 rfl) (by decide) [(.ref b4)] [] E23 (isAll0 l Z a0 hw b6 a_NONE b4 k4  (addL ([] : List Int32) (x0 &&& (2147483647 : Int32))) T19.heap E23 R19.2.1 (rep_read4 R19 (Nat.le_trans (Nat.le_trans (addL_len _ _) (Nat.succ_le_succ (Nat.le_refl 0))) (Nat.le_of_ble_eq_true rfl))) V22) rfl rfl (by rw [hml]; rfl) pd_6 rfl (hb hby at_262) (Nat.le_of_ble_eq_true rfl) (Nat.le_of_ble_eq_true rfl) (Nat.le_of_ble_eq_true rfl) (Nat.le_of_ble_eq_true rfl) ?_
      intro T24 X24 e24
      show Go p e below _ T24 (mkF m 265 #[.val (.int x0), .val (.int x1), .val (.int x2), .val (.int x3), .val (.int x4), .val (.int x5), .val (.int (x0 &&& (2147483647 : Int32))), .val (.int (x1 &&& (2147483647 : Int32))), .val (.int (x2 &&& (2147483647 : Int32))), .val (.int (1 : Int32)), .val (.int (0 : Int32)), .val (.int (pk ((((x5).toUInt32 >>> ((4 : Int32) &&& 31).toUInt32).toInt32) &&& (3 : Int32)) (x0 &&& (2147483647 : Int32)) (x1 &&& (2147483647 : Int32)) (x2 &&& (2147483647 : Int32)) x3)), .val (.int (pk ((((x5).toUInt32 >>> ((6 : Int32) &&& 31).toUInt32).toInt32) &&& (3 : Int32)) (x0 &&& (2147483647 : Int32)) (x1 &&& (2147483647 : Int32)) (x2 &&& (2147483647 : Int32)) x4)), .val (.int (pk ((((x5).toUInt32 >>> ((8 : Int32) &&& 31).toUInt32).toInt32) &&& (3 : Int32)) (x0 &&& (2147483647 : Int32)) (x1 &&& (2147483647 : Int32)) (x2 &&& (2147483647 : Int32)) (x3 ^^^ x4))), .val (.ref b4), .val (.ref b6), .val (.int (1 : Int32))] [(.int (1 : Int32))])
      refine Go.iload X24 hx (hb hby at_265) rfl rfl  ?_
      refine Go.icmpNo X24 hx (hb hby at_267) rfl (teq (by decide : (1 : Int32) = (1 : Int32))).2 ?_
      refine Go.iconst X24 hx (hb hby at_270) rfl (1 : Int32) rfl ?_
      refine Go.goto X24 hx (hb hby at_271) rfl 275 (by decide) (by decide) ?_
      exact Go.retZ X24 hx (z' := (1 : Int32)) hret hlk (hb hby at_275) rfl (by decide) ⟨by first | rfl | simp [], M20⟩ (Nat.le_of_ble_eq_true rfl) (Nat.le_of_ble_eq_true rfl)
    · rw [hk]
      refine Go.iload X12 hx (hb hby at_143) rfl rfl  ?_
      refine Go.iconst X12 hx (hb hby at_145) rfl (1 : Int32) rfl ?_
      refine Go.icmpNo X12 hx (hb hby at_146) rfl (flt (by decide : ¬ ((2 : Int32) < (1 : Int32)))).1 ?_
      refine Go.aload X12 hx (hb hby at_149) rfl rfl rfl ?_
      refine Go.iload X12 hx (hb hby at_151) rfl rfl  ?_
      refine Go.callV X12 hx hZ hown (wd 21 rfl) (wd 22 rfl) (notFace_of_selects (args := #[]) (mvT hZ (wd 24 rfl))) (wd 24 rfl) (wd 23 rfl) (wd 8 rfl) (wd 25 rfl) (by decide) [(.int (x0 &&& (2147483647 : Int32)))] [] Y12 (isAddR l Z a0 hw b6 (x0 &&& (2147483647 : Int32)) a_NONE k_NONE ([] : List Int32) T12.heap O14 FF R17 (own_nn x0) (Nat.le_trans (Nat.le_refl 0) (Nat.le_of_ble_eq_true rfl))) rfl rfl (by rw [hml]; rfl) pd_3 rfl (hb hby at_153) (Nat.le_of_ble_eq_true rfl) (Nat.le_of_ble_eq_true rfl) (Nat.le_of_ble_eq_true rfl) (Nat.le_of_ble_eq_true rfl) ?_
      rintro vv25 T25 L25 X25 Q25
      obtain ⟨rfl, N25, B25, R25⟩ := Q25
      have M26 := Fr.app M13 N25
      have O27 := Blw.old B25 q6 O14
      have V28 := Arv.blw V15 B25 (Nat.lt_of_lt_of_le V4.lt (Nat.le_of_eq g6.symm))
      have E29 := R25.2.2.1
      refine Go.pop X25 hx (hb hby at_156) rfl rfl ?_
      refine Go.iload X25 hx (hb hby at_157) rfl rfl  ?_
      refine Go.iconst X25 hx (hb hby at_159) rfl (2 : Int32) rfl ?_
      refine Go.icmpNo X25 hx (hb hby at_160) rfl (flt (by decide : ¬ ((2 : Int32) < (2 : Int32)))).1 ?_
      refine Go.aload X25 hx (hb hby at_163) rfl rfl rfl ?_
      refine Go.iload X25 hx (hb hby at_165) rfl rfl  ?_
      refine Go.callV X25 hx hZ hown (wd 21 rfl) (wd 22 rfl) (notFace_of_selects (args := #[]) (mvT hZ (wd 24 rfl))) (wd 24 rfl) (wd 23 rfl) (wd 8 rfl) (wd 25 rfl) (by decide) [(.int (x1 &&& (2147483647 : Int32)))] [] E29 (isAddR l Z a0 hw b6 (x1 &&& (2147483647 : Int32)) a_NONE k_NONE (addL ([] : List Int32) (x0 &&& (2147483647 : Int32))) T25.heap O27 FF R25 (own_nn x1) (Nat.le_trans (Nat.le_trans (addL_len _ _) (Nat.succ_le_succ (Nat.le_refl 0))) (Nat.le_of_ble_eq_true rfl))) rfl rfl (by rw [hml]; rfl) pd_3 rfl (hb hby at_167) (Nat.le_of_ble_eq_true rfl) (Nat.le_of_ble_eq_true rfl) (Nat.le_of_ble_eq_true rfl) (Nat.le_of_ble_eq_true rfl) ?_
      rintro vv30 T30 L30 X30 Q30
      obtain ⟨rfl, N30, B30, R30⟩ := Q30
      have M31 := Fr.app M26 N30
      have O32 := Blw.old B30 q6 O27
      have V33 := Arv.blw V28 B30 (Nat.lt_of_lt_of_le V4.lt (Nat.le_of_eq g6.symm))
      have E34 := R30.2.2.1
      refine Go.pop X30 hx (hb hby at_170) rfl rfl ?_
      refine Go.iload X30 hx (hb hby at_171) rfl rfl  ?_
      refine Go.iconst X30 hx (hb hby at_173) rfl (3 : Int32) rfl ?_
      refine Go.icmpYes X30 hx (hb hby at_174) rfl 185 (tlt (by decide : (2 : Int32) < (3 : Int32))).1 (by decide) (by decide) ?_
      show Go p e below _ T30 (mkF m 185 #[.val (.int x0), .val (.int x1), .val (.int x2), .val (.int x3), .val (.int x4), .val (.int x5), .val (.int (x0 &&& (2147483647 : Int32))), .val (.int (x1 &&& (2147483647 : Int32))), .val (.int (x2 &&& (2147483647 : Int32))), .val (.int (2 : Int32)), .val (.int (0 : Int32)), .val (.int (pk ((((x5).toUInt32 >>> ((4 : Int32) &&& 31).toUInt32).toInt32) &&& (3 : Int32)) (x0 &&& (2147483647 : Int32)) (x1 &&& (2147483647 : Int32)) (x2 &&& (2147483647 : Int32)) x3)), .val (.int (pk ((((x5).toUInt32 >>> ((6 : Int32) &&& 31).toUInt32).toInt32) &&& (3 : Int32)) (x0 &&& (2147483647 : Int32)) (x1 &&& (2147483647 : Int32)) (x2 &&& (2147483647 : Int32)) x4)), .val (.int (pk ((((x5).toUInt32 >>> ((8 : Int32) &&& 31).toUInt32).toInt32) &&& (3 : Int32)) (x0 &&& (2147483647 : Int32)) (x1 &&& (2147483647 : Int32)) (x2 &&& (2147483647 : Int32)) (x3 ^^^ x4))), .val (.ref b4), .val (.ref b6), .unset] [])
      refine Go.iload X30 hx (hb hby at_185) rfl rfl  ?_
      refine Go.iconst X30 hx (hb hby at_187) rfl (1 : Int32) rfl ?_
      refine Go.icmpYes X30 hx (hb hby at_188) rfl 207 (tlt (by decide : (0 : Int32) < (1 : Int32))).1 (by decide) (by decide) ?_
      refine Go.iload X30 hx (hb hby at_207) rfl rfl  ?_
      refine Go.iconst X30 hx (hb hby at_209) rfl (2 : Int32) rfl ?_
      refine Go.icmpYes X30 hx (hb hby at_210) rfl 229 (tlt (by decide : (0 : Int32) < (2 : Int32))).1 (by decide) (by decide) ?_
      refine Go.iload X30 hx (hb hby at_229) rfl rfl  ?_
      refine Go.iconst X30 hx (hb hby at_231) rfl (3 : Int32) rfl ?_
      refine Go.icmpYes X30 hx (hb hby at_232) rfl 251 (tlt (by decide : (0 : Int32) < (3 : Int32))).1 (by decide) (by decide) ?_
      refine Go.iconst X30 hx (hb hby at_251) rfl (1 : Int32) rfl ?_
      refine Go.goto X30 hx (hb hby at_252) rfl 256 (by decide) (by decide) ?_
      refine Go.istore X30 hx (hb hby at_256) rfl  #[.val (.int x0), .val (.int x1), .val (.int x2), .val (.int x3), .val (.int x4), .val (.int x5), .val (.int (x0 &&& (2147483647 : Int32))), .val (.int (x1 &&& (2147483647 : Int32))), .val (.int (x2 &&& (2147483647 : Int32))), .val (.int (2 : Int32)), .val (.int (0 : Int32)), .val (.int (pk ((((x5).toUInt32 >>> ((4 : Int32) &&& 31).toUInt32).toInt32) &&& (3 : Int32)) (x0 &&& (2147483647 : Int32)) (x1 &&& (2147483647 : Int32)) (x2 &&& (2147483647 : Int32)) x3)), .val (.int (pk ((((x5).toUInt32 >>> ((6 : Int32) &&& 31).toUInt32).toInt32) &&& (3 : Int32)) (x0 &&& (2147483647 : Int32)) (x1 &&& (2147483647 : Int32)) (x2 &&& (2147483647 : Int32)) x4)), .val (.int (pk ((((x5).toUInt32 >>> ((8 : Int32) &&& 31).toUInt32).toInt32) &&& (3 : Int32)) (x0 &&& (2147483647 : Int32)) (x1 &&& (2147483647 : Int32)) (x2 &&& (2147483647 : Int32)) (x3 ^^^ x4))), .val (.ref b4), .val (.ref b6), .val (.int (1 : Int32))] rfl ?_
      refine Go.aload X30 hx (hb hby at_258) rfl rfl rfl ?_
      refine Go.aload X30 hx (hb hby at_260) rfl rfl rfl ?_
      refine Go.pureV X30 hx hZ hown (wd 39 rfl) (wd 40 rfl) (notFace_of_selects (args := #[]) (mvT hZ (wd 42 rfl))) (wd 42 rfl) (wd 41 rfl) (wd 8 rfl) (wd 43 rfl) (by decide) [(.ref b4)] [] E34 (isAll0 l Z a0 hw b6 a_NONE b4 k4  (addL (addL ([] : List Int32) (x0 &&& (2147483647 : Int32))) (x1 &&& (2147483647 : Int32))) T30.heap E34 R30.2.1 (rep_read4 R30 (Nat.le_trans (Nat.le_trans (addL_len _ _) (Nat.succ_le_succ (Nat.le_trans (addL_len _ _) (Nat.succ_le_succ (Nat.le_refl 0))))) (Nat.le_of_ble_eq_true rfl))) V33) rfl rfl (by rw [hml]; rfl) pd_6 rfl (hb hby at_262) (Nat.le_of_ble_eq_true rfl) (Nat.le_of_ble_eq_true rfl) (Nat.le_of_ble_eq_true rfl) (Nat.le_of_ble_eq_true rfl) ?_
      intro T35 X35 e35
      show Go p e below _ T35 (mkF m 265 #[.val (.int x0), .val (.int x1), .val (.int x2), .val (.int x3), .val (.int x4), .val (.int x5), .val (.int (x0 &&& (2147483647 : Int32))), .val (.int (x1 &&& (2147483647 : Int32))), .val (.int (x2 &&& (2147483647 : Int32))), .val (.int (2 : Int32)), .val (.int (0 : Int32)), .val (.int (pk ((((x5).toUInt32 >>> ((4 : Int32) &&& 31).toUInt32).toInt32) &&& (3 : Int32)) (x0 &&& (2147483647 : Int32)) (x1 &&& (2147483647 : Int32)) (x2 &&& (2147483647 : Int32)) x3)), .val (.int (pk ((((x5).toUInt32 >>> ((6 : Int32) &&& 31).toUInt32).toInt32) &&& (3 : Int32)) (x0 &&& (2147483647 : Int32)) (x1 &&& (2147483647 : Int32)) (x2 &&& (2147483647 : Int32)) x4)), .val (.int (pk ((((x5).toUInt32 >>> ((8 : Int32) &&& 31).toUInt32).toInt32) &&& (3 : Int32)) (x0 &&& (2147483647 : Int32)) (x1 &&& (2147483647 : Int32)) (x2 &&& (2147483647 : Int32)) (x3 ^^^ x4))), .val (.ref b4), .val (.ref b6), .val (.int (1 : Int32))] [(.int (1 : Int32))])
      refine Go.iload X35 hx (hb hby at_265) rfl rfl  ?_
      refine Go.icmpNo X35 hx (hb hby at_267) rfl (teq (by decide : (1 : Int32) = (1 : Int32))).2 ?_
      refine Go.iconst X35 hx (hb hby at_270) rfl (1 : Int32) rfl ?_
      refine Go.goto X35 hx (hb hby at_271) rfl 275 (by decide) (by decide) ?_
      exact Go.retZ X35 hx (z' := (1 : Int32)) hret hlk (hb hby at_275) rfl (by decide) ⟨by first | rfl | simp [], M31⟩ (Nat.le_of_ble_eq_true rfl) (Nat.le_of_ble_eq_true rfl)
    · rw [hk]
      refine Go.iload X12 hx (hb hby at_143) rfl rfl  ?_
      refine Go.iconst X12 hx (hb hby at_145) rfl (1 : Int32) rfl ?_
      refine Go.icmpNo X12 hx (hb hby at_146) rfl (flt (by decide : ¬ ((3 : Int32) < (1 : Int32)))).1 ?_
      refine Go.aload X12 hx (hb hby at_149) rfl rfl rfl ?_
      refine Go.iload X12 hx (hb hby at_151) rfl rfl  ?_
      refine Go.callV X12 hx hZ hown (wd 21 rfl) (wd 22 rfl) (notFace_of_selects (args := #[]) (mvT hZ (wd 24 rfl))) (wd 24 rfl) (wd 23 rfl) (wd 8 rfl) (wd 25 rfl) (by decide) [(.int (x0 &&& (2147483647 : Int32)))] [] Y12 (isAddR l Z a0 hw b6 (x0 &&& (2147483647 : Int32)) a_NONE k_NONE ([] : List Int32) T12.heap O14 FF R17 (own_nn x0) (Nat.le_trans (Nat.le_refl 0) (Nat.le_of_ble_eq_true rfl))) rfl rfl (by rw [hml]; rfl) pd_3 rfl (hb hby at_153) (Nat.le_of_ble_eq_true rfl) (Nat.le_of_ble_eq_true rfl) (Nat.le_of_ble_eq_true rfl) (Nat.le_of_ble_eq_true rfl) ?_
      rintro vv36 T36 L36 X36 Q36
      obtain ⟨rfl, N36, B36, R36⟩ := Q36
      have M37 := Fr.app M13 N36
      have O38 := Blw.old B36 q6 O14
      have V39 := Arv.blw V15 B36 (Nat.lt_of_lt_of_le V4.lt (Nat.le_of_eq g6.symm))
      have E40 := R36.2.2.1
      refine Go.pop X36 hx (hb hby at_156) rfl rfl ?_
      refine Go.iload X36 hx (hb hby at_157) rfl rfl  ?_
      refine Go.iconst X36 hx (hb hby at_159) rfl (2 : Int32) rfl ?_
      refine Go.icmpNo X36 hx (hb hby at_160) rfl (flt (by decide : ¬ ((3 : Int32) < (2 : Int32)))).1 ?_
      refine Go.aload X36 hx (hb hby at_163) rfl rfl rfl ?_
      refine Go.iload X36 hx (hb hby at_165) rfl rfl  ?_
      refine Go.callV X36 hx hZ hown (wd 21 rfl) (wd 22 rfl) (notFace_of_selects (args := #[]) (mvT hZ (wd 24 rfl))) (wd 24 rfl) (wd 23 rfl) (wd 8 rfl) (wd 25 rfl) (by decide) [(.int (x1 &&& (2147483647 : Int32)))] [] E40 (isAddR l Z a0 hw b6 (x1 &&& (2147483647 : Int32)) a_NONE k_NONE (addL ([] : List Int32) (x0 &&& (2147483647 : Int32))) T36.heap O38 FF R36 (own_nn x1) (Nat.le_trans (Nat.le_trans (addL_len _ _) (Nat.succ_le_succ (Nat.le_refl 0))) (Nat.le_of_ble_eq_true rfl))) rfl rfl (by rw [hml]; rfl) pd_3 rfl (hb hby at_167) (Nat.le_of_ble_eq_true rfl) (Nat.le_of_ble_eq_true rfl) (Nat.le_of_ble_eq_true rfl) (Nat.le_of_ble_eq_true rfl) ?_
      rintro vv41 T41 L41 X41 Q41
      obtain ⟨rfl, N41, B41, R41⟩ := Q41
      have M42 := Fr.app M37 N41
      have O43 := Blw.old B41 q6 O38
      have V44 := Arv.blw V39 B41 (Nat.lt_of_lt_of_le V4.lt (Nat.le_of_eq g6.symm))
      have E45 := R41.2.2.1
      refine Go.pop X41 hx (hb hby at_170) rfl rfl ?_
      refine Go.iload X41 hx (hb hby at_171) rfl rfl  ?_
      refine Go.iconst X41 hx (hb hby at_173) rfl (3 : Int32) rfl ?_
      refine Go.icmpNo X41 hx (hb hby at_174) rfl (flt (by decide : ¬ ((3 : Int32) < (3 : Int32)))).1 ?_
      refine Go.aload X41 hx (hb hby at_177) rfl rfl rfl ?_
      refine Go.iload X41 hx (hb hby at_179) rfl rfl  ?_
      refine Go.callV X41 hx hZ hown (wd 21 rfl) (wd 22 rfl) (notFace_of_selects (args := #[]) (mvT hZ (wd 24 rfl))) (wd 24 rfl) (wd 23 rfl) (wd 8 rfl) (wd 25 rfl) (by decide) [(.int (x2 &&& (2147483647 : Int32)))] [] E45 (isAddR l Z a0 hw b6 (x2 &&& (2147483647 : Int32)) a_NONE k_NONE (addL (addL ([] : List Int32) (x0 &&& (2147483647 : Int32))) (x1 &&& (2147483647 : Int32))) T41.heap O43 FF R41 (own_nn x2) (Nat.le_trans (Nat.le_trans (addL_len _ _) (Nat.succ_le_succ (Nat.le_trans (addL_len _ _) (Nat.succ_le_succ (Nat.le_refl 0))))) (Nat.le_of_ble_eq_true rfl))) rfl rfl (by rw [hml]; rfl) pd_3 rfl (hb hby at_181) (Nat.le_of_ble_eq_true rfl) (Nat.le_of_ble_eq_true rfl) (Nat.le_of_ble_eq_true rfl) (Nat.le_of_ble_eq_true rfl) ?_
      rintro vv46 T46 L46 X46 Q46
      obtain ⟨rfl, N46, B46, R46⟩ := Q46
      have M47 := Fr.app M42 N46
      have O48 := Blw.old B46 q6 O43
      have V49 := Arv.blw V44 B46 (Nat.lt_of_lt_of_le V4.lt (Nat.le_of_eq g6.symm))
      have E50 := R46.2.2.1
      refine Go.pop X46 hx (hb hby at_184) rfl rfl ?_
      show Go p e below _ T46 (mkF m 185 #[.val (.int x0), .val (.int x1), .val (.int x2), .val (.int x3), .val (.int x4), .val (.int x5), .val (.int (x0 &&& (2147483647 : Int32))), .val (.int (x1 &&& (2147483647 : Int32))), .val (.int (x2 &&& (2147483647 : Int32))), .val (.int (3 : Int32)), .val (.int (0 : Int32)), .val (.int (pk ((((x5).toUInt32 >>> ((4 : Int32) &&& 31).toUInt32).toInt32) &&& (3 : Int32)) (x0 &&& (2147483647 : Int32)) (x1 &&& (2147483647 : Int32)) (x2 &&& (2147483647 : Int32)) x3)), .val (.int (pk ((((x5).toUInt32 >>> ((6 : Int32) &&& 31).toUInt32).toInt32) &&& (3 : Int32)) (x0 &&& (2147483647 : Int32)) (x1 &&& (2147483647 : Int32)) (x2 &&& (2147483647 : Int32)) x4)), .val (.int (pk ((((x5).toUInt32 >>> ((8 : Int32) &&& 31).toUInt32).toInt32) &&& (3 : Int32)) (x0 &&& (2147483647 : Int32)) (x1 &&& (2147483647 : Int32)) (x2 &&& (2147483647 : Int32)) (x3 ^^^ x4))), .val (.ref b4), .val (.ref b6), .unset] [])
      refine Go.iload X46 hx (hb hby at_185) rfl rfl  ?_
      refine Go.iconst X46 hx (hb hby at_187) rfl (1 : Int32) rfl ?_
      refine Go.icmpYes X46 hx (hb hby at_188) rfl 207 (tlt (by decide : (0 : Int32) < (1 : Int32))).1 (by decide) (by decide) ?_
      refine Go.iload X46 hx (hb hby at_207) rfl rfl  ?_
      refine Go.iconst X46 hx (hb hby at_209) rfl (2 : Int32) rfl ?_
      refine Go.icmpYes X46 hx (hb hby at_210) rfl 229 (tlt (by decide : (0 : Int32) < (2 : Int32))).1 (by decide) (by decide) ?_
      refine Go.iload X46 hx (hb hby at_229) rfl rfl  ?_
      refine Go.iconst X46 hx (hb hby at_231) rfl (3 : Int32) rfl ?_
      refine Go.icmpYes X46 hx (hb hby at_232) rfl 251 (tlt (by decide : (0 : Int32) < (3 : Int32))).1 (by decide) (by decide) ?_
      refine Go.iconst X46 hx (hb hby at_251) rfl (1 : Int32) rfl ?_
      refine Go.goto X46 hx (hb hby at_252) rfl 256 (by decide) (by decide) ?_
      refine Go.istore X46 hx (hb hby at_256) rfl  #[.val (.int x0), .val (.int x1), .val (.int x2), .val (.int x3), .val (.int x4), .val (.int x5), .val (.int (x0 &&& (2147483647 : Int32))), .val (.int (x1 &&& (2147483647 : Int32))), .val (.int (x2 &&& (2147483647 : Int32))), .val (.int (3 : Int32)), .val (.int (0 : Int32)), .val (.int (pk ((((x5).toUInt32 >>> ((4 : Int32) &&& 31).toUInt32).toInt32) &&& (3 : Int32)) (x0 &&& (2147483647 : Int32)) (x1 &&& (2147483647 : Int32)) (x2 &&& (2147483647 : Int32)) x3)), .val (.int (pk ((((x5).toUInt32 >>> ((6 : Int32) &&& 31).toUInt32).toInt32) &&& (3 : Int32)) (x0 &&& (2147483647 : Int32)) (x1 &&& (2147483647 : Int32)) (x2 &&& (2147483647 : Int32)) x4)), .val (.int (pk ((((x5).toUInt32 >>> ((8 : Int32) &&& 31).toUInt32).toInt32) &&& (3 : Int32)) (x0 &&& (2147483647 : Int32)) (x1 &&& (2147483647 : Int32)) (x2 &&& (2147483647 : Int32)) (x3 ^^^ x4))), .val (.ref b4), .val (.ref b6), .val (.int (1 : Int32))] rfl ?_
      refine Go.aload X46 hx (hb hby at_258) rfl rfl rfl ?_
      refine Go.aload X46 hx (hb hby at_260) rfl rfl rfl ?_
      refine Go.pureV X46 hx hZ hown (wd 39 rfl) (wd 40 rfl) (notFace_of_selects (args := #[]) (mvT hZ (wd 42 rfl))) (wd 42 rfl) (wd 41 rfl) (wd 8 rfl) (wd 43 rfl) (by decide) [(.ref b4)] [] E50 (isAll0 l Z a0 hw b6 a_NONE b4 k4  (addL (addL (addL ([] : List Int32) (x0 &&& (2147483647 : Int32))) (x1 &&& (2147483647 : Int32))) (x2 &&& (2147483647 : Int32))) T46.heap E50 R46.2.1 (rep_read4 R46 (Nat.le_trans (Nat.le_trans (addL_len _ _) (Nat.succ_le_succ (Nat.le_trans (addL_len _ _) (Nat.succ_le_succ (Nat.le_trans (addL_len _ _) (Nat.succ_le_succ (Nat.le_refl 0))))))) (Nat.le_of_ble_eq_true rfl))) V49) rfl rfl (by rw [hml]; rfl) pd_6 rfl (hb hby at_262) (Nat.le_of_ble_eq_true rfl) (Nat.le_of_ble_eq_true rfl) (Nat.le_of_ble_eq_true rfl) (Nat.le_of_ble_eq_true rfl) ?_
      intro T51 X51 e51
      show Go p e below _ T51 (mkF m 265 #[.val (.int x0), .val (.int x1), .val (.int x2), .val (.int x3), .val (.int x4), .val (.int x5), .val (.int (x0 &&& (2147483647 : Int32))), .val (.int (x1 &&& (2147483647 : Int32))), .val (.int (x2 &&& (2147483647 : Int32))), .val (.int (3 : Int32)), .val (.int (0 : Int32)), .val (.int (pk ((((x5).toUInt32 >>> ((4 : Int32) &&& 31).toUInt32).toInt32) &&& (3 : Int32)) (x0 &&& (2147483647 : Int32)) (x1 &&& (2147483647 : Int32)) (x2 &&& (2147483647 : Int32)) x3)), .val (.int (pk ((((x5).toUInt32 >>> ((6 : Int32) &&& 31).toUInt32).toInt32) &&& (3 : Int32)) (x0 &&& (2147483647 : Int32)) (x1 &&& (2147483647 : Int32)) (x2 &&& (2147483647 : Int32)) x4)), .val (.int (pk ((((x5).toUInt32 >>> ((8 : Int32) &&& 31).toUInt32).toInt32) &&& (3 : Int32)) (x0 &&& (2147483647 : Int32)) (x1 &&& (2147483647 : Int32)) (x2 &&& (2147483647 : Int32)) (x3 ^^^ x4))), .val (.ref b4), .val (.ref b6), .val (.int (1 : Int32))] [(.int (1 : Int32))])
      refine Go.iload X51 hx (hb hby at_265) rfl rfl  ?_
      refine Go.icmpNo X51 hx (hb hby at_267) rfl (teq (by decide : (1 : Int32) = (1 : Int32))).2 ?_
      refine Go.iconst X51 hx (hb hby at_270) rfl (1 : Int32) rfl ?_
      refine Go.goto X51 hx (hb hby at_271) rfl 275 (by decide) (by decide) ?_
      exact Go.retZ X51 hx (z' := (1 : Int32)) hret hlk (hb hby at_275) rfl (by decide) ⟨by first | rfl | simp [], M47⟩ (Nat.le_of_ble_eq_true rfl) (Nat.le_of_ble_eq_true rfl)
  · rw [hk]
    refine Go.iload X3 hx (hb hby at_92) rfl rfl  ?_
    refine Go.newP X3 hx hZ (wd 5 rfl) e3 1 (by decide) 1 (by decide) (by decide) (Nat.le_of_ble_eq_true rfl) (Nat.le_of_ble_eq_true rfl) "[I" (by decide) (hb hby at_94) rfl ?_
    intro T52 h52 b52 k52 g52 X52 e52 E52 V52' A52
    have V52 : Arv Z h52 b52 k52 .int (1 : Int32) [(.int (0 : Int32))] (.int (0 : Int32)) := V52'
    have q52 : Z.heap.size ≤ b52 := Nat.le_trans O0.2.1 (Nat.le_of_eq g52.symm)
    have O53 := O0.ext E52
    refine Go.astore X52 hx (hb hby at_96) rfl rfl #[.val (.int x0), .val (.int x1), .val (.int x2), .val (.int x3), .val (.int x4), .val (.int x5), .val (.int (x0 &&& (2147483647 : Int32))), .val (.int (x1 &&& (2147483647 : Int32))), .val (.int (x2 &&& (2147483647 : Int32))), .val (.int (x5 &&& (3 : Int32))), .val (.int (1 : Int32)), .val (.int (pk ((((x5).toUInt32 >>> ((4 : Int32) &&& 31).toUInt32).toInt32) &&& (3 : Int32)) (x0 &&& (2147483647 : Int32)) (x1 &&& (2147483647 : Int32)) (x2 &&& (2147483647 : Int32)) x3)), .val (.int (pk ((((x5).toUInt32 >>> ((6 : Int32) &&& 31).toUInt32).toInt32) &&& (3 : Int32)) (x0 &&& (2147483647 : Int32)) (x1 &&& (2147483647 : Int32)) (x2 &&& (2147483647 : Int32)) x4)), .val (.int (pk ((((x5).toUInt32 >>> ((8 : Int32) &&& 31).toUInt32).toInt32) &&& (3 : Int32)) (x0 &&& (2147483647 : Int32)) (x1 &&& (2147483647 : Int32)) (x2 &&& (2147483647 : Int32)) (x3 ^^^ x4))), .val (.ref b52), .unset, .unset] rfl ?_
    refine Go.iload X52 hx (hb hby at_98) rfl rfl  ?_
    refine Go.iconst X52 hx (hb hby at_100) rfl (1 : Int32) rfl ?_
    refine Go.icmpNo X52 hx (hb hby at_101) rfl (flt (by decide : ¬ ((1 : Int32) < (1 : Int32)))).1 ?_
    refine Go.aload X52 hx (hb hby at_104) rfl rfl rfl ?_
    refine Go.iconst X52 hx (hb hby at_106) rfl (0 : Int32) rfl ?_
    refine Go.iload X52 hx (hb hby at_107) rfl rfl  ?_
    refine Go.iastore X52 hx hZ V52 e52 ⟨by decide, by decide⟩ 0 (by decide) (Nat.le_of_ble_eq_true rfl)  (hb hby at_109) rfl ?_
    intro T54 h54 X54 e54 W54 V54'
    have V54 : Arv Z h54 b52 k52 .int (1 : Int32) [(.int (pk ((((x5).toUInt32 >>> ((4 : Int32) &&& 31).toUInt32).toInt32) &&& (3 : Int32)) (x0 &&& (2147483647 : Int32)) (x1 &&& (2147483647 : Int32)) (x2 &&& (2147483647 : Int32)) x3))] (.int (0 : Int32)) := V54'
    have O55 := O53.wr W54 q52
    have N56 := Fr.snoc X54 (Fr.nil _) q52
    refine Go.iload X54 hx (hb hby at_110) rfl rfl  ?_
    refine Go.iconst X54 hx (hb hby at_112) rfl (2 : Int32) rfl ?_
    refine Go.icmpYes X54 hx (hb hby at_113) rfl 122 (tlt (by decide : (1 : Int32) < (2 : Int32))).1 (by decide) (by decide) ?_
    refine Go.iload X54 hx (hb hby at_122) rfl rfl  ?_
    refine Go.iconst X54 hx (hb hby at_124) rfl (3 : Int32) rfl ?_
    refine Go.icmpYes X54 hx (hb hby at_125) rfl 134 (tlt (by decide : (1 : Int32) < (3 : Int32))).1 (by decide) (by decide) ?_
    refine Go.newO X54 hx hZ hown (wd 6 rfl) (wd 7 rfl) (wd 8 rfl) e54 (hb hby at_134) rfl (Nat.le_of_ble_eq_true rfl) (Nat.le_of_ble_eq_true rfl) ?_
    intro T57 h57 b57 g57 X57 e57 E57 A57 D57
    have F58 : Fld Z h57 b57 "com/example/overrule/overrule/engine/IntSet" "elements" "[I" .null := D57 (Or.inl (wd 18 rfl)) (ty := (.array .int)) (by decide)
    have F59 : Fld Z h57 b57 "com/example/overrule/overrule/engine/IntSet" "slots" "[I" .null := D57 (Or.inl (wd 20 rfl)) (ty := (.array .int)) (by decide)
    have F60 : Fld Z h57 b57 "com/example/overrule/overrule/engine/IntSet" "size" "I" (.int (0 : Int32)) := D57 (Or.inl (wd 38 rfl)) (ty := .int) (by decide)
    have q57 : Z.heap.size ≤ b57 := Nat.le_trans O55.2.1 (Nat.le_of_eq g57.symm)
    have ne_b52_b57 : b52 ≠ b57 := Nat.ne_of_lt (Nat.lt_of_lt_of_le V54.lt (Nat.le_of_eq g57.symm))
    have O61 := O55.ext E57
    have V62 := V54.ext E57
    refine Go.dup X57 hx (hb hby at_137) rfl rfl ?_
    refine Go.callI X57 hx hZ rfl hown (wd 9 rfl) (wd 10 rfl) (wd 8 rfl) (wd 11 rfl) (by decide) [] [(.ref b57)] (isInit l Z a0 hw b57 a_NONE k_NONE h57 O61 FF A57 q57 F58 F60 F59) e57 rfl (by rw [hml]; rfl) pd_5 rfl (hb hby at_138) (Nat.le_of_ble_eq_true rfl) (Nat.le_of_ble_eq_true rfl) (Nat.le_of_ble_eq_true rfl) (Nat.le_of_ble_eq_true rfl) ?_
    rintro vv63 T63 L63 X63 Q63
    obtain ⟨rfl, N63, K63, Y63, Fe63, Fn63, Fs63⟩ := Q63
    have M64 := Fr.app N56 N63
    have O65 := O61.keep K63 (allS q57 (all0))
    have V66 := V62.keep K63 (ninS ne_b52_b57 (nin0))
    have E67 := A57.keep K63
    have R68 : Rep Z a_NONE T63.heap b57 ([] : List Int32) := ⟨q57, good_nil, Y63, Or.inl ⟨rfl, Fe63, Fn63, Fs63⟩⟩
    show Go p e below _ T63 (mkF m 141 #[.val (.int x0), .val (.int x1), .val (.int x2), .val (.int x3), .val (.int x4), .val (.int x5), .val (.int (x0 &&& (2147483647 : Int32))), .val (.int (x1 &&& (2147483647 : Int32))), .val (.int (x2 &&& (2147483647 : Int32))), .val (.int (x5 &&& (3 : Int32))), .val (.int (1 : Int32)), .val (.int (pk ((((x5).toUInt32 >>> ((4 : Int32) &&& 31).toUInt32).toInt32) &&& (3 : Int32)) (x0 &&& (2147483647 : Int32)) (x1 &&& (2147483647 : Int32)) (x2 &&& (2147483647 : Int32)) x3)), .val (.int (pk ((((x5).toUInt32 >>> ((6 : Int32) &&& 31).toUInt32).toInt32) &&& (3 : Int32)) (x0 &&& (2147483647 : Int32)) (x1 &&& (2147483647 : Int32)) (x2 &&& (2147483647 : Int32)) x4)), .val (.int (pk ((((x5).toUInt32 >>> ((8 : Int32) &&& 31).toUInt32).toInt32) &&& (3 : Int32)) (x0 &&& (2147483647 : Int32)) (x1 &&& (2147483647 : Int32)) (x2 &&& (2147483647 : Int32)) (x3 ^^^ x4))), .val (.ref b52), .unset, .unset] [(.ref b57)])
    refine Go.astore X63 hx (hb hby at_141) rfl rfl #[.val (.int x0), .val (.int x1), .val (.int x2), .val (.int x3), .val (.int x4), .val (.int x5), .val (.int (x0 &&& (2147483647 : Int32))), .val (.int (x1 &&& (2147483647 : Int32))), .val (.int (x2 &&& (2147483647 : Int32))), .val (.int (x5 &&& (3 : Int32))), .val (.int (1 : Int32)), .val (.int (pk ((((x5).toUInt32 >>> ((4 : Int32) &&& 31).toUInt32).toInt32) &&& (3 : Int32)) (x0 &&& (2147483647 : Int32)) (x1 &&& (2147483647 : Int32)) (x2 &&& (2147483647 : Int32)) x3)), .val (.int (pk ((((x5).toUInt32 >>> ((6 : Int32) &&& 31).toUInt32).toInt32) &&& (3 : Int32)) (x0 &&& (2147483647 : Int32)) (x1 &&& (2147483647 : Int32)) (x2 &&& (2147483647 : Int32)) x4)), .val (.int (pk ((((x5).toUInt32 >>> ((8 : Int32) &&& 31).toUInt32).toInt32) &&& (3 : Int32)) (x0 &&& (2147483647 : Int32)) (x1 &&& (2147483647 : Int32)) (x2 &&& (2147483647 : Int32)) (x3 ^^^ x4))), .val (.ref b52), .val (.ref b57), .unset] rfl ?_
    show Go p e below _ T63 (mkF m 143 #[.val (.int x0), .val (.int x1), .val (.int x2), .val (.int x3), .val (.int x4), .val (.int x5), .val (.int (x0 &&& (2147483647 : Int32))), .val (.int (x1 &&& (2147483647 : Int32))), .val (.int (x2 &&& (2147483647 : Int32))), .val (.int (x5 &&& (3 : Int32))), .val (.int (1 : Int32)), .val (.int (pk ((((x5).toUInt32 >>> ((4 : Int32) &&& 31).toUInt32).toInt32) &&& (3 : Int32)) (x0 &&& (2147483647 : Int32)) (x1 &&& (2147483647 : Int32)) (x2 &&& (2147483647 : Int32)) x3)), .val (.int (pk ((((x5).toUInt32 >>> ((6 : Int32) &&& 31).toUInt32).toInt32) &&& (3 : Int32)) (x0 &&& (2147483647 : Int32)) (x1 &&& (2147483647 : Int32)) (x2 &&& (2147483647 : Int32)) x4)), .val (.int (pk ((((x5).toUInt32 >>> ((8 : Int32) &&& 31).toUInt32).toInt32) &&& (3 : Int32)) (x0 &&& (2147483647 : Int32)) (x1 &&& (2147483647 : Int32)) (x2 &&& (2147483647 : Int32)) (x3 ^^^ x4))), .val (.ref b52), .val (.ref b57), .unset] [])
    rcases own_and3 x5 with hk | hk | hk | hk
    · rw [hk]
      refine Go.iload X63 hx (hb hby at_143) rfl rfl  ?_
      refine Go.iconst X63 hx (hb hby at_145) rfl (1 : Int32) rfl ?_
      refine Go.icmpYes X63 hx (hb hby at_146) rfl 157 (tlt (by decide : (0 : Int32) < (1 : Int32))).1 (by decide) (by decide) ?_
      refine Go.iload X63 hx (hb hby at_157) rfl rfl  ?_
      refine Go.iconst X63 hx (hb hby at_159) rfl (2 : Int32) rfl ?_
      refine Go.icmpYes X63 hx (hb hby at_160) rfl 171 (tlt (by decide : (0 : Int32) < (2 : Int32))).1 (by decide) (by decide) ?_
      refine Go.iload X63 hx (hb hby at_171) rfl rfl  ?_
      refine Go.iconst X63 hx (hb hby at_173) rfl (3 : Int32) rfl ?_
      refine Go.icmpYes X63 hx (hb hby at_174) rfl 185 (tlt (by decide : (0 : Int32) < (3 : Int32))).1 (by decide) (by decide) ?_
      show Go p e below _ T63 (mkF m 185 #[.val (.int x0), .val (.int x1), .val (.int x2), .val (.int x3), .val (.int x4), .val (.int x5), .val (.int (x0 &&& (2147483647 : Int32))), .val (.int (x1 &&& (2147483647 : Int32))), .val (.int (x2 &&& (2147483647 : Int32))), .val (.int (0 : Int32)), .val (.int (1 : Int32)), .val (.int (pk ((((x5).toUInt32 >>> ((4 : Int32) &&& 31).toUInt32).toInt32) &&& (3 : Int32)) (x0 &&& (2147483647 : Int32)) (x1 &&& (2147483647 : Int32)) (x2 &&& (2147483647 : Int32)) x3)), .val (.int (pk ((((x5).toUInt32 >>> ((6 : Int32) &&& 31).toUInt32).toInt32) &&& (3 : Int32)) (x0 &&& (2147483647 : Int32)) (x1 &&& (2147483647 : Int32)) (x2 &&& (2147483647 : Int32)) x4)), .val (.int (pk ((((x5).toUInt32 >>> ((8 : Int32) &&& 31).toUInt32).toInt32) &&& (3 : Int32)) (x0 &&& (2147483647 : Int32)) (x1 &&& (2147483647 : Int32)) (x2 &&& (2147483647 : Int32)) (x3 ^^^ x4))), .val (.ref b52), .val (.ref b57), .unset] [])
      refine Go.iload X63 hx (hb hby at_185) rfl rfl  ?_
      refine Go.iconst X63 hx (hb hby at_187) rfl (1 : Int32) rfl ?_
      refine Go.icmpNo X63 hx (hb hby at_188) rfl (flt (by decide : ¬ ((1 : Int32) < (1 : Int32)))).1 ?_
      refine Go.iload X63 hx (hb hby at_191) rfl rfl  ?_
      refine Go.iload X63 hx (hb hby at_193) rfl rfl  ?_
      refine Go.iload X63 hx (hb hby at_195) rfl rfl  ?_
      refine Go.iload X63 hx (hb hby at_197) rfl rfl  ?_
      refine Go.iload X63 hx (hb hby at_199) rfl rfl  ?_
      refine Go.pureS X63 hx hZ hown (wd 44 rfl) (wd 45 rfl) (wd 3 rfl) (wd 46 rfl) (by decide) [(.int (pk ((((x5).toUInt32 >>> ((4 : Int32) &&& 31).toUInt32).toInt32) &&& (3 : Int32)) (x0 &&& (2147483647 : Int32)) (x1 &&& (2147483647 : Int32)) (x2 &&& (2147483647 : Int32)) x3)), (.int (0 : Int32)), (.int (x0 &&& (2147483647 : Int32))), (.int (x1 &&& (2147483647 : Int32))), (.int (x2 &&& (2147483647 : Int32)))] [] (lwIn0 l Z a0 hw (pk ((((x5).toUInt32 >>> ((4 : Int32) &&& 31).toUInt32).toInt32) &&& (3 : Int32)) (x0 &&& (2147483647 : Int32)) (x1 &&& (2147483647 : Int32)) (x2 &&& (2147483647 : Int32)) x3) (x0 &&& (2147483647 : Int32)) (x1 &&& (2147483647 : Int32)) (x2 &&& (2147483647 : Int32)) T63.heap) rfl rfl (by rw [hml]; rfl) pd_7 rfl (hb hby at_201) (Nat.le_of_ble_eq_true rfl) (Nat.le_of_ble_eq_true rfl) (Nat.le_of_ble_eq_true rfl) (Nat.le_of_ble_eq_true rfl) ?_
      intro T69 X69 e69
      by_cases hc70 : (if (pk ((((x5).toUInt32 >>> ((4 : Int32) &&& 31).toUInt32).toInt32) &&& (3 : Int32)) (x0 &&& (2147483647 : Int32)) (x1 &&& (2147483647 : Int32)) (x2 &&& (2147483647 : Int32)) x3) ∈ ([] : List Int32) then 1 else 0 : Int32) = (0 : Int32)
      · refine Go.ifYes X69 hx (hb hby at_204) rfl 255 ((if0 _ _).trans (teq hc70).1) (by decide) (by decide) ?_
        refine Go.iconst X69 hx (hb hby at_255) rfl (0 : Int32) rfl ?_
        refine Go.istore X69 hx (hb hby at_256) rfl  #[.val (.int x0), .val (.int x1), .val (.int x2), .val (.int x3), .val (.int x4), .val (.int x5), .val (.int (x0 &&& (2147483647 : Int32))), .val (.int (x1 &&& (2147483647 : Int32))), .val (.int (x2 &&& (2147483647 : Int32))), .val (.int (0 : Int32)), .val (.int (1 : Int32)), .val (.int (pk ((((x5).toUInt32 >>> ((4 : Int32) &&& 31).toUInt32).toInt32) &&& (3 : Int32)) (x0 &&& (2147483647 : Int32)) (x1 &&& (2147483647 : Int32)) (x2 &&& (2147483647 : Int32)) x3)), .val (.int (pk ((((x5).toUInt32 >>> ((6 : Int32) &&& 31).toUInt32).toInt32) &&& (3 : Int32)) (x0 &&& (2147483647 : Int32)) (x1 &&& (2147483647 : Int32)) (x2 &&& (2147483647 : Int32)) x4)), .val (.int (pk ((((x5).toUInt32 >>> ((8 : Int32) &&& 31).toUInt32).toInt32) &&& (3 : Int32)) (x0 &&& (2147483647 : Int32)) (x1 &&& (2147483647 : Int32)) (x2 &&& (2147483647 : Int32)) (x3 ^^^ x4))), .val (.ref b52), .val (.ref b57), .val (.int (0 : Int32))] rfl ?_
        refine Go.aload X69 hx (hb hby at_258) rfl rfl rfl ?_
        refine Go.aload X69 hx (hb hby at_260) rfl rfl rfl ?_
        refine Go.pureV X69 hx hZ hown (wd 39 rfl) (wd 40 rfl) (notFace_of_selects (args := #[]) (mvT hZ (wd 42 rfl))) (wd 42 rfl) (wd 41 rfl) (wd 8 rfl) (wd 43 rfl) (by decide) [(.ref b52)] [] Y63 (isAll1 l Z a0 hw b57 a_NONE b52 k52 (pk ((((x5).toUInt32 >>> ((4 : Int32) &&& 31).toUInt32).toInt32) &&& (3 : Int32)) (x0 &&& (2147483647 : Int32)) (x1 &&& (2147483647 : Int32)) (x2 &&& (2147483647 : Int32)) x3) ([] : List Int32) T63.heap Y63 R68.2.1 (rep_read4 R68 (Nat.le_trans (Nat.le_refl 0) (Nat.le_of_ble_eq_true rfl))) V66) e69 rfl (by rw [hml]; rfl) pd_6 rfl (hb hby at_262) (Nat.le_of_ble_eq_true rfl) (Nat.le_of_ble_eq_true rfl) (Nat.le_of_ble_eq_true rfl) (Nat.le_of_ble_eq_true rfl) ?_
        intro T71 X71 e71
        have B72 : (if (if (pk ((((x5).toUInt32 >>> ((4 : Int32) &&& 31).toUInt32).toInt32) &&& (3 : Int32)) (x0 &&& (2147483647 : Int32)) (x1 &&& (2147483647 : Int32)) (x2 &&& (2147483647 : Int32)) x3) ∈ ([] : List Int32) then 1 else 0 : Int32) = (0 : Int32) then (0 : Int32) else (1 : Int32)) = (0 : Int32) := by rw [if_pos hc70]
        show Go p e below _ T71 (mkF m 265 #[.val (.int x0), .val (.int x1), .val (.int x2), .val (.int x3), .val (.int x4), .val (.int x5), .val (.int (x0 &&& (2147483647 : Int32))), .val (.int (x1 &&& (2147483647 : Int32))), .val (.int (x2 &&& (2147483647 : Int32))), .val (.int (0 : Int32)), .val (.int (1 : Int32)), .val (.int (pk ((((x5).toUInt32 >>> ((4 : Int32) &&& 31).toUInt32).toInt32) &&& (3 : Int32)) (x0 &&& (2147483647 : Int32)) (x1 &&& (2147483647 : Int32)) (x2 &&& (2147483647 : Int32)) x3)), .val (.int (pk ((((x5).toUInt32 >>> ((6 : Int32) &&& 31).toUInt32).toInt32) &&& (3 : Int32)) (x0 &&& (2147483647 : Int32)) (x1 &&& (2147483647 : Int32)) (x2 &&& (2147483647 : Int32)) x4)), .val (.int (pk ((((x5).toUInt32 >>> ((8 : Int32) &&& 31).toUInt32).toInt32) &&& (3 : Int32)) (x0 &&& (2147483647 : Int32)) (x1 &&& (2147483647 : Int32)) (x2 &&& (2147483647 : Int32)) (x3 ^^^ x4))), .val (.ref b52), .val (.ref b57), .val (.int (0 : Int32))] [(.int (if (if (pk ((((x5).toUInt32 >>> ((4 : Int32) &&& 31).toUInt32).toInt32) &&& (3 : Int32)) (x0 &&& (2147483647 : Int32)) (x1 &&& (2147483647 : Int32)) (x2 &&& (2147483647 : Int32)) x3) ∈ ([] : List Int32) then 1 else 0 : Int32) = (0 : Int32) then (0 : Int32) else (1 : Int32)))])
        refine Go.iload X71 hx (hb hby at_265) rfl rfl  ?_
        refine Go.icmpNo X71 hx (hb hby at_267) rfl (teq B72).2 ?_
        refine Go.iconst X71 hx (hb hby at_270) rfl (1 : Int32) rfl ?_
        refine Go.goto X71 hx (hb hby at_271) rfl 275 (by decide) (by decide) ?_
        exact Go.retZ X71 hx (z' := (1 : Int32)) hret hlk (hb hby at_275) rfl (by decide) ⟨by first | rfl | simp [hc70], M64⟩ (Nat.le_of_ble_eq_true rfl) (Nat.le_of_ble_eq_true rfl)
      · refine Go.ifNo X69 hx (hb hby at_204) rfl ((if0 _ _).trans (feq hc70).1) ?_
        refine Go.iload X69 hx (hb hby at_207) rfl rfl  ?_
        refine Go.iconst X69 hx (hb hby at_209) rfl (2 : Int32) rfl ?_
        refine Go.icmpYes X69 hx (hb hby at_210) rfl 229 (tlt (by decide : (1 : Int32) < (2 : Int32))).1 (by decide) (by decide) ?_
        refine Go.iload X69 hx (hb hby at_229) rfl rfl  ?_
        refine Go.iconst X69 hx (hb hby at_231) rfl (3 : Int32) rfl ?_
        refine Go.icmpYes X69 hx (hb hby at_232) rfl 251 (tlt (by decide : (1 : Int32) < (3 : Int32))).1 (by decide) (by decide) ?_
        refine Go.iconst X69 hx (hb hby at_251) rfl (1 : Int32) rfl ?_
        refine Go.goto X69 hx (hb hby at_252) rfl 256 (by decide) (by decide) ?_
        refine Go.istore X69 hx (hb hby at_256) rfl  #[.val (.int x0), .val (.int x1), .val (.int x2), .val (.int x3), .val (.int x4), .val (.int x5), .val (.int (x0 &&& (2147483647 : Int32))), .val (.int (x1 &&& (2147483647 : Int32))), .val (.int (x2 &&& (2147483647 : Int32))), .val (.int (0 : Int32)), .val (.int (1 : Int32)), .val (.int (pk ((((x5).toUInt32 >>> ((4 : Int32) &&& 31).toUInt32).toInt32) &&& (3 : Int32)) (x0 &&& (2147483647 : Int32)) (x1 &&& (2147483647 : Int32)) (x2 &&& (2147483647 : Int32)) x3)), .val (.int (pk ((((x5).toUInt32 >>> ((6 : Int32) &&& 31).toUInt32).toInt32) &&& (3 : Int32)) (x0 &&& (2147483647 : Int32)) (x1 &&& (2147483647 : Int32)) (x2 &&& (2147483647 : Int32)) x4)), .val (.int (pk ((((x5).toUInt32 >>> ((8 : Int32) &&& 31).toUInt32).toInt32) &&& (3 : Int32)) (x0 &&& (2147483647 : Int32)) (x1 &&& (2147483647 : Int32)) (x2 &&& (2147483647 : Int32)) (x3 ^^^ x4))), .val (.ref b52), .val (.ref b57), .val (.int (1 : Int32))] rfl ?_
        refine Go.aload X69 hx (hb hby at_258) rfl rfl rfl ?_
        refine Go.aload X69 hx (hb hby at_260) rfl rfl rfl ?_
        refine Go.pureV X69 hx hZ hown (wd 39 rfl) (wd 40 rfl) (notFace_of_selects (args := #[]) (mvT hZ (wd 42 rfl))) (wd 42 rfl) (wd 41 rfl) (wd 8 rfl) (wd 43 rfl) (by decide) [(.ref b52)] [] Y63 (isAll1 l Z a0 hw b57 a_NONE b52 k52 (pk ((((x5).toUInt32 >>> ((4 : Int32) &&& 31).toUInt32).toInt32) &&& (3 : Int32)) (x0 &&& (2147483647 : Int32)) (x1 &&& (2147483647 : Int32)) (x2 &&& (2147483647 : Int32)) x3) ([] : List Int32) T63.heap Y63 R68.2.1 (rep_read4 R68 (Nat.le_trans (Nat.le_refl 0) (Nat.le_of_ble_eq_true rfl))) V66) e69 rfl (by rw [hml]; rfl) pd_6 rfl (hb hby at_262) (Nat.le_of_ble_eq_true rfl) (Nat.le_of_ble_eq_true rfl) (Nat.le_of_ble_eq_true rfl) (Nat.le_of_ble_eq_true rfl) ?_
        intro T73 X73 e73
        have B74 : (if (if (pk ((((x5).toUInt32 >>> ((4 : Int32) &&& 31).toUInt32).toInt32) &&& (3 : Int32)) (x0 &&& (2147483647 : Int32)) (x1 &&& (2147483647 : Int32)) (x2 &&& (2147483647 : Int32)) x3) ∈ ([] : List Int32) then 1 else 0 : Int32) = (0 : Int32) then (0 : Int32) else (1 : Int32)) = (1 : Int32) := by rw [if_neg hc70]
        show Go p e below _ T73 (mkF m 265 #[.val (.int x0), .val (.int x1), .val (.int x2), .val (.int x3), .val (.int x4), .val (.int x5), .val (.int (x0 &&& (2147483647 : Int32))), .val (.int (x1 &&& (2147483647 : Int32))), .val (.int (x2 &&& (2147483647 : Int32))), .val (.int (0 : Int32)), .val (.int (1 : Int32)), .val (.int (pk ((((x5).toUInt32 >>> ((4 : Int32) &&& 31).toUInt32).toInt32) &&& (3 : Int32)) (x0 &&& (2147483647 : Int32)) (x1 &&& (2147483647 : Int32)) (x2 &&& (2147483647 : Int32)) x3)), .val (.int (pk ((((x5).toUInt32 >>> ((6 : Int32) &&& 31).toUInt32).toInt32) &&& (3 : Int32)) (x0 &&& (2147483647 : Int32)) (x1 &&& (2147483647 : Int32)) (x2 &&& (2147483647 : Int32)) x4)), .val (.int (pk ((((x5).toUInt32 >>> ((8 : Int32) &&& 31).toUInt32).toInt32) &&& (3 : Int32)) (x0 &&& (2147483647 : Int32)) (x1 &&& (2147483647 : Int32)) (x2 &&& (2147483647 : Int32)) (x3 ^^^ x4))), .val (.ref b52), .val (.ref b57), .val (.int (1 : Int32))] [(.int (if (if (pk ((((x5).toUInt32 >>> ((4 : Int32) &&& 31).toUInt32).toInt32) &&& (3 : Int32)) (x0 &&& (2147483647 : Int32)) (x1 &&& (2147483647 : Int32)) (x2 &&& (2147483647 : Int32)) x3) ∈ ([] : List Int32) then 1 else 0 : Int32) = (0 : Int32) then (0 : Int32) else (1 : Int32)))])
        refine Go.iload X73 hx (hb hby at_265) rfl rfl  ?_
        refine Go.icmpNo X73 hx (hb hby at_267) rfl (teq B74).2 ?_
        refine Go.iconst X73 hx (hb hby at_270) rfl (1 : Int32) rfl ?_
        refine Go.goto X73 hx (hb hby at_271) rfl 275 (by decide) (by decide) ?_
        exact Go.retZ X73 hx (z' := (1 : Int32)) hret hlk (hb hby at_275) rfl (by decide) ⟨by first | rfl | simp [hc70], M64⟩ (Nat.le_of_ble_eq_true rfl) (Nat.le_of_ble_eq_true rfl)
    · rw [hk]
      refine Go.iload X63 hx (hb hby at_143) rfl rfl  ?_
      refine Go.iconst X63 hx (hb hby at_145) rfl (1 : Int32) rfl ?_
      refine Go.icmpNo X63 hx (hb hby at_146) rfl (flt (by decide : ¬ ((1 : Int32) < (1 : Int32)))).1 ?_
      refine Go.aload X63 hx (hb hby at_149) rfl rfl rfl ?_
      refine Go.iload X63 hx (hb hby at_151) rfl rfl  ?_
      refine Go.callV X63 hx hZ hown (wd 21 rfl) (wd 22 rfl) (notFace_of_selects (args := #[]) (mvT hZ (wd 24 rfl))) (wd 24 rfl) (wd 23 rfl) (wd 8 rfl) (wd 25 rfl) (by decide) [(.int (x0 &&& (2147483647 : Int32)))] [] Y63 (isAddR l Z a0 hw b57 (x0 &&& (2147483647 : Int32)) a_NONE k_NONE ([] : List Int32) T63.heap O65 FF R68 (own_nn x0) (Nat.le_trans (Nat.le_refl 0) (Nat.le_of_ble_eq_true rfl))) rfl rfl (by rw [hml]; rfl) pd_3 rfl (hb hby at_153) (Nat.le_of_ble_eq_true rfl) (Nat.le_of_ble_eq_true rfl) (Nat.le_of_ble_eq_true rfl) (Nat.le_of_ble_eq_true rfl) ?_
      rintro vv75 T75 L75 X75 Q75
      obtain ⟨rfl, N75, B75, R75⟩ := Q75
      have M76 := Fr.app M64 N75
      have O77 := Blw.old B75 q57 O65
      have V78 := Arv.blw V66 B75 (Nat.lt_of_lt_of_le V54.lt (Nat.le_of_eq g57.symm))
      have E79 := R75.2.2.1
      refine Go.pop X75 hx (hb hby at_156) rfl rfl ?_
      refine Go.iload X75 hx (hb hby at_157) rfl rfl  ?_
      refine Go.iconst X75 hx (hb hby at_159) rfl (2 : Int32) rfl ?_
      refine Go.icmpYes X75 hx (hb hby at_160) rfl 171 (tlt (by decide : (1 : Int32) < (2 : Int32))).1 (by decide) (by decide) ?_
      refine Go.iload X75 hx (hb hby at_171) rfl rfl  ?_
      refine Go.iconst X75 hx (hb hby at_173) rfl (3 : Int32) rfl ?_
      refine Go.icmpYes X75 hx (hb hby at_174) rfl 185 (tlt (by decide : (1 : Int32) < (3 : Int32))).1 (by decide) (by decide) ?_
      show Go p e below _ T75 (mkF m 185 #[.val (.int x0), .val (.int x1), .val (.int x2), .val (.int x3), .val (.int x4), .val (.int x5), .val (.int (x0 &&& (2147483647 : Int32))), .val (.int (x1 &&& (2147483647 : Int32))), .val (.int (x2 &&& (2147483647 : Int32))), .val (.int (1 : Int32)), .val (.int (1 : Int32)), .val (.int (pk ((((x5).toUInt32 >>> ((4 : Int32) &&& 31).toUInt32).toInt32) &&& (3 : Int32)) (x0 &&& (2147483647 : Int32)) (x1 &&& (2147483647 : Int32)) (x2 &&& (2147483647 : Int32)) x3)), .val (.int (pk ((((x5).toUInt32 >>> ((6 : Int32) &&& 31).toUInt32).toInt32) &&& (3 : Int32)) (x0 &&& (2147483647 : Int32)) (x1 &&& (2147483647 : Int32)) (x2 &&& (2147483647 : Int32)) x4)), .val (.int (pk ((((x5).toUInt32 >>> ((8 : Int32) &&& 31).toUInt32).toInt32) &&& (3 : Int32)) (x0 &&& (2147483647 : Int32)) (x1 &&& (2147483647 : Int32)) (x2 &&& (2147483647 : Int32)) (x3 ^^^ x4))), .val (.ref b52), .val (.ref b57), .unset] [])
      refine Go.iload X75 hx (hb hby at_185) rfl rfl  ?_
      refine Go.iconst X75 hx (hb hby at_187) rfl (1 : Int32) rfl ?_
      refine Go.icmpNo X75 hx (hb hby at_188) rfl (flt (by decide : ¬ ((1 : Int32) < (1 : Int32)))).1 ?_
      refine Go.iload X75 hx (hb hby at_191) rfl rfl  ?_
      refine Go.iload X75 hx (hb hby at_193) rfl rfl  ?_
      refine Go.iload X75 hx (hb hby at_195) rfl rfl  ?_
      refine Go.iload X75 hx (hb hby at_197) rfl rfl  ?_
      refine Go.iload X75 hx (hb hby at_199) rfl rfl  ?_
      refine Go.pureS X75 hx hZ hown (wd 44 rfl) (wd 45 rfl) (wd 3 rfl) (wd 46 rfl) (by decide) [(.int (pk ((((x5).toUInt32 >>> ((4 : Int32) &&& 31).toUInt32).toInt32) &&& (3 : Int32)) (x0 &&& (2147483647 : Int32)) (x1 &&& (2147483647 : Int32)) (x2 &&& (2147483647 : Int32)) x3)), (.int (1 : Int32)), (.int (x0 &&& (2147483647 : Int32))), (.int (x1 &&& (2147483647 : Int32))), (.int (x2 &&& (2147483647 : Int32)))] [] (lwIn1 l Z a0 hw (pk ((((x5).toUInt32 >>> ((4 : Int32) &&& 31).toUInt32).toInt32) &&& (3 : Int32)) (x0 &&& (2147483647 : Int32)) (x1 &&& (2147483647 : Int32)) (x2 &&& (2147483647 : Int32)) x3) (x0 &&& (2147483647 : Int32)) (x1 &&& (2147483647 : Int32)) (x2 &&& (2147483647 : Int32)) T75.heap) rfl rfl (by rw [hml]; rfl) pd_7 rfl (hb hby at_201) (Nat.le_of_ble_eq_true rfl) (Nat.le_of_ble_eq_true rfl) (Nat.le_of_ble_eq_true rfl) (Nat.le_of_ble_eq_true rfl) ?_
      intro T80 X80 e80
      by_cases hc81 : (if (pk ((((x5).toUInt32 >>> ((4 : Int32) &&& 31).toUInt32).toInt32) &&& (3 : Int32)) (x0 &&& (2147483647 : Int32)) (x1 &&& (2147483647 : Int32)) (x2 &&& (2147483647 : Int32)) x3) ∈ (addL ([] : List Int32) (x0 &&& (2147483647 : Int32))) then 1 else 0 : Int32) = (0 : Int32)
      · refine Go.ifYes X80 hx (hb hby at_204) rfl 255 ((if0 _ _).trans (teq hc81).1) (by decide) (by decide) ?_
        refine Go.iconst X80 hx (hb hby at_255) rfl (0 : Int32) rfl ?_
        refine Go.istore X80 hx (hb hby at_256) rfl  #[.val (.int x0), .val (.int x1), .val (.int x2), .val (.int x3), .val (.int x4), .val (.int x5), .val (.int (x0 &&& (2147483647 : Int32))), .val (.int (x1 &&& (2147483647 : Int32))), .val (.int (x2 &&& (2147483647 : Int32))), .val (.int (1 : Int32)), .val (.int (1 : Int32)), .val (.int (pk ((((x5).toUInt32 >>> ((4 : Int32) &&& 31).toUInt32).toInt32) &&& (3 : Int32)) (x0 &&& (2147483647 : Int32)) (x1 &&& (2147483647 : Int32)) (x2 &&& (2147483647 : Int32)) x3)), .val (.int (pk ((((x5).toUInt32 >>> ((6 : Int32) &&& 31).toUInt32).toInt32) &&& (3 : Int32)) (x0 &&& (2147483647 : Int32)) (x1 &&& (2147483647 : Int32)) (x2 &&& (2147483647 : Int32)) x4)), .val (.int (pk ((((x5).toUInt32 >>> ((8 : Int32) &&& 31).toUInt32).toInt32) &&& (3 : Int32)) (x0 &&& (2147483647 : Int32)) (x1 &&& (2147483647 : Int32)) (x2 &&& (2147483647 : Int32)) (x3 ^^^ x4))), .val (.ref b52), .val (.ref b57), .val (.int (0 : Int32))] rfl ?_
        refine Go.aload X80 hx (hb hby at_258) rfl rfl rfl ?_
        refine Go.aload X80 hx (hb hby at_260) rfl rfl rfl ?_
        refine Go.pureV X80 hx hZ hown (wd 39 rfl) (wd 40 rfl) (notFace_of_selects (args := #[]) (mvT hZ (wd 42 rfl))) (wd 42 rfl) (wd 41 rfl) (wd 8 rfl) (wd 43 rfl) (by decide) [(.ref b52)] [] E79 (isAll1 l Z a0 hw b57 a_NONE b52 k52 (pk ((((x5).toUInt32 >>> ((4 : Int32) &&& 31).toUInt32).toInt32) &&& (3 : Int32)) (x0 &&& (2147483647 : Int32)) (x1 &&& (2147483647 : Int32)) (x2 &&& (2147483647 : Int32)) x3) (addL ([] : List Int32) (x0 &&& (2147483647 : Int32))) T75.heap E79 R75.2.1 (rep_read4 R75 (Nat.le_trans (Nat.le_trans (addL_len _ _) (Nat.succ_le_succ (Nat.le_refl 0))) (Nat.le_of_ble_eq_true rfl))) V78) e80 rfl (by rw [hml]; rfl) pd_6 rfl (hb hby at_262) (Nat.le_of_ble_eq_true rfl) (Nat.le_of_ble_eq_true rfl) (Nat.le_of_ble_eq_true rfl) (Nat.le_of_ble_eq_true rfl) ?_
        intro T82 X82 e82
        have B83 : (if (if (pk ((((x5).toUInt32 >>> ((4 : Int32) &&& 31).toUInt32).toInt32) &&& (3 : Int32)) (x0 &&& (2147483647 : Int32)) (x1 &&& (2147483647 : Int32)) (x2 &&& (2147483647 : Int32)) x3) ∈ (addL ([] : List Int32) (x0 &&& (2147483647 : Int32))) then 1 else 0 : Int32) = (0 : Int32) then (0 : Int32) else (1 : Int32)) = (0 : Int32) := by rw [if_pos hc81]
        show Go p e below _ T82 (mkF m 265 #[.val (.int x0), .val (.int x1), .val (.int x2), .val (.int x3), .val (.int x4), .val (.int x5), .val (.int (x0 &&& (2147483647 : Int32))), .val (.int (x1 &&& (2147483647 : Int32))), .val (.int (x2 &&& (2147483647 : Int32))), .val (.int (1 : Int32)), .val (.int (1 : Int32)), .val (.int (pk ((((x5).toUInt32 >>> ((4 : Int32) &&& 31).toUInt32).toInt32) &&& (3 : Int32)) (x0 &&& (2147483647 : Int32)) (x1 &&& (2147483647 : Int32)) (x2 &&& (2147483647 : Int32)) x3)), .val (.int (pk ((((x5).toUInt32 >>> ((6 : Int32) &&& 31).toUInt32).toInt32) &&& (3 : Int32)) (x0 &&& (2147483647 : Int32)) (x1 &&& (2147483647 : Int32)) (x2 &&& (2147483647 : Int32)) x4)), .val (.int (pk ((((x5).toUInt32 >>> ((8 : Int32) &&& 31).toUInt32).toInt32) &&& (3 : Int32)) (x0 &&& (2147483647 : Int32)) (x1 &&& (2147483647 : Int32)) (x2 &&& (2147483647 : Int32)) (x3 ^^^ x4))), .val (.ref b52), .val (.ref b57), .val (.int (0 : Int32))] [(.int (if (if (pk ((((x5).toUInt32 >>> ((4 : Int32) &&& 31).toUInt32).toInt32) &&& (3 : Int32)) (x0 &&& (2147483647 : Int32)) (x1 &&& (2147483647 : Int32)) (x2 &&& (2147483647 : Int32)) x3) ∈ (addL ([] : List Int32) (x0 &&& (2147483647 : Int32))) then 1 else 0 : Int32) = (0 : Int32) then (0 : Int32) else (1 : Int32)))])
        refine Go.iload X82 hx (hb hby at_265) rfl rfl  ?_
        refine Go.icmpNo X82 hx (hb hby at_267) rfl (teq B83).2 ?_
        refine Go.iconst X82 hx (hb hby at_270) rfl (1 : Int32) rfl ?_
        refine Go.goto X82 hx (hb hby at_271) rfl 275 (by decide) (by decide) ?_
        exact Go.retZ X82 hx (z' := (1 : Int32)) hret hlk (hb hby at_275) rfl (by decide) ⟨by first | rfl | simp [hc81], M76⟩ (Nat.le_of_ble_eq_true rfl) (Nat.le_of_ble_eq_true rfl)
      · refine Go.ifNo X80 hx (hb hby at_204) rfl ((if0 _ _).trans (feq hc81).1) ?_
        refine Go.iload X80 hx (hb hby at_207) rfl rfl  ?_
        refine Go.iconst X80 hx (hb hby at_209) rfl (2 : Int32) rfl ?_
        refine Go.icmpYes X80 hx (hb hby at_210) rfl 229 (tlt (by decide : (1 : Int32) < (2 : Int32))).1 (by decide) (by decide) ?_
        refine Go.iload X80 hx (hb hby at_229) rfl rfl  ?_
        refine Go.iconst X80 hx (hb hby at_231) rfl (3 : Int32) rfl ?_
        refine Go.icmpYes X80 hx (hb hby at_232) rfl 251 (tlt (by decide : (1 : Int32) < (3 : Int32))).1 (by decide) (by decide) ?_
        refine Go.iconst X80 hx (hb hby at_251) rfl (1 : Int32) rfl ?_
        refine Go.goto X80 hx (hb hby at_252) rfl 256 (by decide) (by decide) ?_
        refine Go.istore X80 hx (hb hby at_256) rfl  #[.val (.int x0), .val (.int x1), .val (.int x2), .val (.int x3), .val (.int x4), .val (.int x5), .val (.int (x0 &&& (2147483647 : Int32))), .val (.int (x1 &&& (2147483647 : Int32))), .val (.int (x2 &&& (2147483647 : Int32))), .val (.int (1 : Int32)), .val (.int (1 : Int32)), .val (.int (pk ((((x5).toUInt32 >>> ((4 : Int32) &&& 31).toUInt32).toInt32) &&& (3 : Int32)) (x0 &&& (2147483647 : Int32)) (x1 &&& (2147483647 : Int32)) (x2 &&& (2147483647 : Int32)) x3)), .val (.int (pk ((((x5).toUInt32 >>> ((6 : Int32) &&& 31).toUInt32).toInt32) &&& (3 : Int32)) (x0 &&& (2147483647 : Int32)) (x1 &&& (2147483647 : Int32)) (x2 &&& (2147483647 : Int32)) x4)), .val (.int (pk ((((x5).toUInt32 >>> ((8 : Int32) &&& 31).toUInt32).toInt32) &&& (3 : Int32)) (x0 &&& (2147483647 : Int32)) (x1 &&& (2147483647 : Int32)) (x2 &&& (2147483647 : Int32)) (x3 ^^^ x4))), .val (.ref b52), .val (.ref b57), .val (.int (1 : Int32))] rfl ?_
        refine Go.aload X80 hx (hb hby at_258) rfl rfl rfl ?_
        refine Go.aload X80 hx (hb hby at_260) rfl rfl rfl ?_
        refine Go.pureV X80 hx hZ hown (wd 39 rfl) (wd 40 rfl) (notFace_of_selects (args := #[]) (mvT hZ (wd 42 rfl))) (wd 42 rfl) (wd 41 rfl) (wd 8 rfl) (wd 43 rfl) (by decide) [(.ref b52)] [] E79 (isAll1 l Z a0 hw b57 a_NONE b52 k52 (pk ((((x5).toUInt32 >>> ((4 : Int32) &&& 31).toUInt32).toInt32) &&& (3 : Int32)) (x0 &&& (2147483647 : Int32)) (x1 &&& (2147483647 : Int32)) (x2 &&& (2147483647 : Int32)) x3) (addL ([] : List Int32) (x0 &&& (2147483647 : Int32))) T75.heap E79 R75.2.1 (rep_read4 R75 (Nat.le_trans (Nat.le_trans (addL_len _ _) (Nat.succ_le_succ (Nat.le_refl 0))) (Nat.le_of_ble_eq_true rfl))) V78) e80 rfl (by rw [hml]; rfl) pd_6 rfl (hb hby at_262) (Nat.le_of_ble_eq_true rfl) (Nat.le_of_ble_eq_true rfl) (Nat.le_of_ble_eq_true rfl) (Nat.le_of_ble_eq_true rfl) ?_
        intro T84 X84 e84
        have B85 : (if (if (pk ((((x5).toUInt32 >>> ((4 : Int32) &&& 31).toUInt32).toInt32) &&& (3 : Int32)) (x0 &&& (2147483647 : Int32)) (x1 &&& (2147483647 : Int32)) (x2 &&& (2147483647 : Int32)) x3) ∈ (addL ([] : List Int32) (x0 &&& (2147483647 : Int32))) then 1 else 0 : Int32) = (0 : Int32) then (0 : Int32) else (1 : Int32)) = (1 : Int32) := by rw [if_neg hc81]
        show Go p e below _ T84 (mkF m 265 #[.val (.int x0), .val (.int x1), .val (.int x2), .val (.int x3), .val (.int x4), .val (.int x5), .val (.int (x0 &&& (2147483647 : Int32))), .val (.int (x1 &&& (2147483647 : Int32))), .val (.int (x2 &&& (2147483647 : Int32))), .val (.int (1 : Int32)), .val (.int (1 : Int32)), .val (.int (pk ((((x5).toUInt32 >>> ((4 : Int32) &&& 31).toUInt32).toInt32) &&& (3 : Int32)) (x0 &&& (2147483647 : Int32)) (x1 &&& (2147483647 : Int32)) (x2 &&& (2147483647 : Int32)) x3)), .val (.int (pk ((((x5).toUInt32 >>> ((6 : Int32) &&& 31).toUInt32).toInt32) &&& (3 : Int32)) (x0 &&& (2147483647 : Int32)) (x1 &&& (2147483647 : Int32)) (x2 &&& (2147483647 : Int32)) x4)), .val (.int (pk ((((x5).toUInt32 >>> ((8 : Int32) &&& 31).toUInt32).toInt32) &&& (3 : Int32)) (x0 &&& (2147483647 : Int32)) (x1 &&& (2147483647 : Int32)) (x2 &&& (2147483647 : Int32)) (x3 ^^^ x4))), .val (.ref b52), .val (.ref b57), .val (.int (1 : Int32))] [(.int (if (if (pk ((((x5).toUInt32 >>> ((4 : Int32) &&& 31).toUInt32).toInt32) &&& (3 : Int32)) (x0 &&& (2147483647 : Int32)) (x1 &&& (2147483647 : Int32)) (x2 &&& (2147483647 : Int32)) x3) ∈ (addL ([] : List Int32) (x0 &&& (2147483647 : Int32))) then 1 else 0 : Int32) = (0 : Int32) then (0 : Int32) else (1 : Int32)))])
        refine Go.iload X84 hx (hb hby at_265) rfl rfl  ?_
        refine Go.icmpNo X84 hx (hb hby at_267) rfl (teq B85).2 ?_
        refine Go.iconst X84 hx (hb hby at_270) rfl (1 : Int32) rfl ?_
        refine Go.goto X84 hx (hb hby at_271) rfl 275 (by decide) (by decide) ?_
        exact Go.retZ X84 hx (z' := (1 : Int32)) hret hlk (hb hby at_275) rfl (by decide) ⟨by first | rfl | simp [hc81], M76⟩ (Nat.le_of_ble_eq_true rfl) (Nat.le_of_ble_eq_true rfl)
    · rw [hk]
      refine Go.iload X63 hx (hb hby at_143) rfl rfl  ?_
      refine Go.iconst X63 hx (hb hby at_145) rfl (1 : Int32) rfl ?_
      refine Go.icmpNo X63 hx (hb hby at_146) rfl (flt (by decide : ¬ ((2 : Int32) < (1 : Int32)))).1 ?_
      refine Go.aload X63 hx (hb hby at_149) rfl rfl rfl ?_
      refine Go.iload X63 hx (hb hby at_151) rfl rfl  ?_
      refine Go.callV X63 hx hZ hown (wd 21 rfl) (wd 22 rfl) (notFace_of_selects (args := #[]) (mvT hZ (wd 24 rfl))) (wd 24 rfl) (wd 23 rfl) (wd 8 rfl) (wd 25 rfl) (by decide) [(.int (x0 &&& (2147483647 : Int32)))] [] Y63 (isAddR l Z a0 hw b57 (x0 &&& (2147483647 : Int32)) a_NONE k_NONE ([] : List Int32) T63.heap O65 FF R68 (own_nn x0) (Nat.le_trans (Nat.le_refl 0) (Nat.le_of_ble_eq_true rfl))) rfl rfl (by rw [hml]; rfl) pd_3 rfl (hb hby at_153) (Nat.le_of_ble_eq_true rfl) (Nat.le_of_ble_eq_true rfl) (Nat.le_of_ble_eq_true rfl) (Nat.le_of_ble_eq_true rfl) ?_
      rintro vv86 T86 L86 X86 Q86
      obtain ⟨rfl, N86, B86, R86⟩ := Q86
      have M87 := Fr.app M64 N86
      have O88 := Blw.old B86 q57 O65
      have V89 := Arv.blw V66 B86 (Nat.lt_of_lt_of_le V54.lt (Nat.le_of_eq g57.symm))
      have E90 := R86.2.2.1
      refine Go.pop X86 hx (hb hby at_156) rfl rfl ?_
      refine Go.iload X86 hx (hb hby at_157) rfl rfl  ?_
      refine Go.iconst X86 hx (hb hby at_159) rfl (2 : Int32) rfl ?_
      refine Go.icmpNo X86 hx (hb hby at_160) rfl (flt (by decide : ¬ ((2 : Int32) < (2 : Int32)))).1 ?_
      refine Go.aload X86 hx (hb hby at_163) rfl rfl rfl ?_
      refine Go.iload X86 hx (hb hby at_165) rfl rfl  ?_
      refine Go.callV X86 hx hZ hown (wd 21 rfl) (wd 22 rfl) (notFace_of_selects (args := #[]) (mvT hZ (wd 24 rfl))) (wd 24 rfl) (wd 23 rfl) (wd 8 rfl) (wd 25 rfl) (by decide) [(.int (x1 &&& (2147483647 : Int32)))] [] E90 (isAddR l Z a0 hw b57 (x1 &&& (2147483647 : Int32)) a_NONE k_NONE (addL ([] : List Int32) (x0 &&& (2147483647 : Int32))) T86.heap O88 FF R86 (own_nn x1) (Nat.le_trans (Nat.le_trans (addL_len _ _) (Nat.succ_le_succ (Nat.le_refl 0))) (Nat.le_of_ble_eq_true rfl))) rfl rfl (by rw [hml]; rfl) pd_3 rfl (hb hby at_167) (Nat.le_of_ble_eq_true rfl) (Nat.le_of_ble_eq_true rfl) (Nat.le_of_ble_eq_true rfl) (Nat.le_of_ble_eq_true rfl) ?_
      rintro vv91 T91 L91 X91 Q91
      obtain ⟨rfl, N91, B91, R91⟩ := Q91
      have M92 := Fr.app M87 N91
      have O93 := Blw.old B91 q57 O88
      have V94 := Arv.blw V89 B91 (Nat.lt_of_lt_of_le V54.lt (Nat.le_of_eq g57.symm))
      have E95 := R91.2.2.1
      refine Go.pop X91 hx (hb hby at_170) rfl rfl ?_
      refine Go.iload X91 hx (hb hby at_171) rfl rfl  ?_
      refine Go.iconst X91 hx (hb hby at_173) rfl (3 : Int32) rfl ?_
      refine Go.icmpYes X91 hx (hb hby at_174) rfl 185 (tlt (by decide : (2 : Int32) < (3 : Int32))).1 (by decide) (by decide) ?_
      show Go p e below _ T91 (mkF m 185 #[.val (.int x0), .val (.int x1), .val (.int x2), .val (.int x3), .val (.int x4), .val (.int x5), .val (.int (x0 &&& (2147483647 : Int32))), .val (.int (x1 &&& (2147483647 : Int32))), .val (.int (x2 &&& (2147483647 : Int32))), .val (.int (2 : Int32)), .val (.int (1 : Int32)), .val (.int (pk ((((x5).toUInt32 >>> ((4 : Int32) &&& 31).toUInt32).toInt32) &&& (3 : Int32)) (x0 &&& (2147483647 : Int32)) (x1 &&& (2147483647 : Int32)) (x2 &&& (2147483647 : Int32)) x3)), .val (.int (pk ((((x5).toUInt32 >>> ((6 : Int32) &&& 31).toUInt32).toInt32) &&& (3 : Int32)) (x0 &&& (2147483647 : Int32)) (x1 &&& (2147483647 : Int32)) (x2 &&& (2147483647 : Int32)) x4)), .val (.int (pk ((((x5).toUInt32 >>> ((8 : Int32) &&& 31).toUInt32).toInt32) &&& (3 : Int32)) (x0 &&& (2147483647 : Int32)) (x1 &&& (2147483647 : Int32)) (x2 &&& (2147483647 : Int32)) (x3 ^^^ x4))), .val (.ref b52), .val (.ref b57), .unset] [])
      refine Go.iload X91 hx (hb hby at_185) rfl rfl  ?_
      refine Go.iconst X91 hx (hb hby at_187) rfl (1 : Int32) rfl ?_
      refine Go.icmpNo X91 hx (hb hby at_188) rfl (flt (by decide : ¬ ((1 : Int32) < (1 : Int32)))).1 ?_
      refine Go.iload X91 hx (hb hby at_191) rfl rfl  ?_
      refine Go.iload X91 hx (hb hby at_193) rfl rfl  ?_
      refine Go.iload X91 hx (hb hby at_195) rfl rfl  ?_
      refine Go.iload X91 hx (hb hby at_197) rfl rfl  ?_
      refine Go.iload X91 hx (hb hby at_199) rfl rfl  ?_
      refine Go.pureS X91 hx hZ hown (wd 44 rfl) (wd 45 rfl) (wd 3 rfl) (wd 46 rfl) (by decide) [(.int (pk ((((x5).toUInt32 >>> ((4 : Int32) &&& 31).toUInt32).toInt32) &&& (3 : Int32)) (x0 &&& (2147483647 : Int32)) (x1 &&& (2147483647 : Int32)) (x2 &&& (2147483647 : Int32)) x3)), (.int (2 : Int32)), (.int (x0 &&& (2147483647 : Int32))), (.int (x1 &&& (2147483647 : Int32))), (.int (x2 &&& (2147483647 : Int32)))] [] (lwIn2 l Z a0 hw (pk ((((x5).toUInt32 >>> ((4 : Int32) &&& 31).toUInt32).toInt32) &&& (3 : Int32)) (x0 &&& (2147483647 : Int32)) (x1 &&& (2147483647 : Int32)) (x2 &&& (2147483647 : Int32)) x3) (x0 &&& (2147483647 : Int32)) (x1 &&& (2147483647 : Int32)) (x2 &&& (2147483647 : Int32)) T91.heap) rfl rfl (by rw [hml]; rfl) pd_7 rfl (hb hby at_201) (Nat.le_of_ble_eq_true rfl) (Nat.le_of_ble_eq_true rfl) (Nat.le_of_ble_eq_true rfl) (Nat.le_of_ble_eq_true rfl) ?_
      intro T96 X96 e96
      by_cases hc97 : (if (pk ((((x5).toUInt32 >>> ((4 : Int32) &&& 31).toUInt32).toInt32) &&& (3 : Int32)) (x0 &&& (2147483647 : Int32)) (x1 &&& (2147483647 : Int32)) (x2 &&& (2147483647 : Int32)) x3) ∈ (addL (addL ([] : List Int32) (x0 &&& (2147483647 : Int32))) (x1 &&& (2147483647 : Int32))) then 1 else 0 : Int32) = (0 : Int32)
      · refine Go.ifYes X96 hx (hb hby at_204) rfl 255 ((if0 _ _).trans (teq hc97).1) (by decide) (by decide) ?_
        refine Go.iconst X96 hx (hb hby at_255) rfl (0 : Int32) rfl ?_
        refine Go.istore X96 hx (hb hby at_256) rfl  #[.val (.int x0), .val (.int x1), .val (.int x2), .val (.int x3), .val (.int x4), .val (.int x5), .val (.int (x0 &&& (2147483647 : Int32))), .val (.int (x1 &&& (2147483647 : Int32))), .val (.int (x2 &&& (2147483647 : Int32))), .val (.int (2 : Int32)), .val (.int (1 : Int32)), .val (.int (pk ((((x5).toUInt32 >>> ((4 : Int32) &&& 31).toUInt32).toInt32) &&& (3 : Int32)) (x0 &&& (2147483647 : Int32)) (x1 &&& (2147483647 : Int32)) (x2 &&& (2147483647 : Int32)) x3)), .val (.int (pk ((((x5).toUInt32 >>> ((6 : Int32) &&& 31).toUInt32).toInt32) &&& (3 : Int32)) (x0 &&& (2147483647 : Int32)) (x1 &&& (2147483647 : Int32)) (x2 &&& (2147483647 : Int32)) x4)), .val (.int (pk ((((x5).toUInt32 >>> ((8 : Int32) &&& 31).toUInt32).toInt32) &&& (3 : Int32)) (x0 &&& (2147483647 : Int32)) (x1 &&& (2147483647 : Int32)) (x2 &&& (2147483647 : Int32)) (x3 ^^^ x4))), .val (.ref b52), .val (.ref b57), .val (.int (0 : Int32))] rfl ?_
        refine Go.aload X96 hx (hb hby at_258) rfl rfl rfl ?_
        refine Go.aload X96 hx (hb hby at_260) rfl rfl rfl ?_
        refine Go.pureV X96 hx hZ hown (wd 39 rfl) (wd 40 rfl) (notFace_of_selects (args := #[]) (mvT hZ (wd 42 rfl))) (wd 42 rfl) (wd 41 rfl) (wd 8 rfl) (wd 43 rfl) (by decide) [(.ref b52)] [] E95 (isAll1 l Z a0 hw b57 a_NONE b52 k52 (pk ((((x5).toUInt32 >>> ((4 : Int32) &&& 31).toUInt32).toInt32) &&& (3 : Int32)) (x0 &&& (2147483647 : Int32)) (x1 &&& (2147483647 : Int32)) (x2 &&& (2147483647 : Int32)) x3) (addL (addL ([] : List Int32) (x0 &&& (2147483647 : Int32))) (x1 &&& (2147483647 : Int32))) T91.heap E95 R91.2.1 (rep_read4 R91 (Nat.le_trans (Nat.le_trans (addL_len _ _) (Nat.succ_le_succ (Nat.le_trans (addL_len _ _) (Nat.succ_le_succ (Nat.le_refl 0))))) (Nat.le_of_ble_eq_true rfl))) V94) e96 rfl (by rw [hml]; rfl) pd_6 rfl (hb hby at_262) (Nat.le_of_ble_eq_true rfl) (Nat.le_of_ble_eq_true rfl) (Nat.le_of_ble_eq_true rfl) (Nat.le_of_ble_eq_true rfl) ?_
        intro T98 X98 e98
        have B99 : (if (if (pk ((((x5).toUInt32 >>> ((4 : Int32) &&& 31).toUInt32).toInt32) &&& (3 : Int32)) (x0 &&& (2147483647 : Int32)) (x1 &&& (2147483647 : Int32)) (x2 &&& (2147483647 : Int32)) x3) ∈ (addL (addL ([] : List Int32) (x0 &&& (2147483647 : Int32))) (x1 &&& (2147483647 : Int32))) then 1 else 0 : Int32) = (0 : Int32) then (0 : Int32) else (1 : Int32)) = (0 : Int32) := by rw [if_pos hc97]
        show Go p e below _ T98 (mkF m 265 #[.val (.int x0), .val (.int x1), .val (.int x2), .val (.int x3), .val (.int x4), .val (.int x5), .val (.int (x0 &&& (2147483647 : Int32))), .val (.int (x1 &&& (2147483647 : Int32))), .val (.int (x2 &&& (2147483647 : Int32))), .val (.int (2 : Int32)), .val (.int (1 : Int32)), .val (.int (pk ((((x5).toUInt32 >>> ((4 : Int32) &&& 31).toUInt32).toInt32) &&& (3 : Int32)) (x0 &&& (2147483647 : Int32)) (x1 &&& (2147483647 : Int32)) (x2 &&& (2147483647 : Int32)) x3)), .val (.int (pk ((((x5).toUInt32 >>> ((6 : Int32) &&& 31).toUInt32).toInt32) &&& (3 : Int32)) (x0 &&& (2147483647 : Int32)) (x1 &&& (2147483647 : Int32)) (x2 &&& (2147483647 : Int32)) x4)), .val (.int (pk ((((x5).toUInt32 >>> ((8 : Int32) &&& 31).toUInt32).toInt32) &&& (3 : Int32)) (x0 &&& (2147483647 : Int32)) (x1 &&& (2147483647 : Int32)) (x2 &&& (2147483647 : Int32)) (x3 ^^^ x4))), .val (.ref b52), .val (.ref b57), .val (.int (0 : Int32))] [(.int (if (if (pk ((((x5).toUInt32 >>> ((4 : Int32) &&& 31).toUInt32).toInt32) &&& (3 : Int32)) (x0 &&& (2147483647 : Int32)) (x1 &&& (2147483647 : Int32)) (x2 &&& (2147483647 : Int32)) x3) ∈ (addL (addL ([] : List Int32) (x0 &&& (2147483647 : Int32))) (x1 &&& (2147483647 : Int32))) then 1 else 0 : Int32) = (0 : Int32) then (0 : Int32) else (1 : Int32)))])
        refine Go.iload X98 hx (hb hby at_265) rfl rfl  ?_
        refine Go.icmpNo X98 hx (hb hby at_267) rfl (teq B99).2 ?_
        refine Go.iconst X98 hx (hb hby at_270) rfl (1 : Int32) rfl ?_
        refine Go.goto X98 hx (hb hby at_271) rfl 275 (by decide) (by decide) ?_
        exact Go.retZ X98 hx (z' := (1 : Int32)) hret hlk (hb hby at_275) rfl (by decide) ⟨by first | rfl | simp [hc97], M92⟩ (Nat.le_of_ble_eq_true rfl) (Nat.le_of_ble_eq_true rfl)
      · refine Go.ifNo X96 hx (hb hby at_204) rfl ((if0 _ _).trans (feq hc97).1) ?_
        refine Go.iload X96 hx (hb hby at_207) rfl rfl  ?_
        refine Go.iconst X96 hx (hb hby at_209) rfl (2 : Int32) rfl ?_
        refine Go.icmpYes X96 hx (hb hby at_210) rfl 229 (tlt (by decide : (1 : Int32) < (2 : Int32))).1 (by decide) (by decide) ?_
        refine Go.iload X96 hx (hb hby at_229) rfl rfl  ?_
        refine Go.iconst X96 hx (hb hby at_231) rfl (3 : Int32) rfl ?_
        refine Go.icmpYes X96 hx (hb hby at_232) rfl 251 (tlt (by decide : (1 : Int32) < (3 : Int32))).1 (by decide) (by decide) ?_
        refine Go.iconst X96 hx (hb hby at_251) rfl (1 : Int32) rfl ?_
        refine Go.goto X96 hx (hb hby at_252) rfl 256 (by decide) (by decide) ?_
        refine Go.istore X96 hx (hb hby at_256) rfl  #[.val (.int x0), .val (.int x1), .val (.int x2), .val (.int x3), .val (.int x4), .val (.int x5), .val (.int (x0 &&& (2147483647 : Int32))), .val (.int (x1 &&& (2147483647 : Int32))), .val (.int (x2 &&& (2147483647 : Int32))), .val (.int (2 : Int32)), .val (.int (1 : Int32)), .val (.int (pk ((((x5).toUInt32 >>> ((4 : Int32) &&& 31).toUInt32).toInt32) &&& (3 : Int32)) (x0 &&& (2147483647 : Int32)) (x1 &&& (2147483647 : Int32)) (x2 &&& (2147483647 : Int32)) x3)), .val (.int (pk ((((x5).toUInt32 >>> ((6 : Int32) &&& 31).toUInt32).toInt32) &&& (3 : Int32)) (x0 &&& (2147483647 : Int32)) (x1 &&& (2147483647 : Int32)) (x2 &&& (2147483647 : Int32)) x4)), .val (.int (pk ((((x5).toUInt32 >>> ((8 : Int32) &&& 31).toUInt32).toInt32) &&& (3 : Int32)) (x0 &&& (2147483647 : Int32)) (x1 &&& (2147483647 : Int32)) (x2 &&& (2147483647 : Int32)) (x3 ^^^ x4))), .val (.ref b52), .val (.ref b57), .val (.int (1 : Int32))] rfl ?_
        refine Go.aload X96 hx (hb hby at_258) rfl rfl rfl ?_
        refine Go.aload X96 hx (hb hby at_260) rfl rfl rfl ?_
        refine Go.pureV X96 hx hZ hown (wd 39 rfl) (wd 40 rfl) (notFace_of_selects (args := #[]) (mvT hZ (wd 42 rfl))) (wd 42 rfl) (wd 41 rfl) (wd 8 rfl) (wd 43 rfl) (by decide) [(.ref b52)] [] E95 (isAll1 l Z a0 hw b57 a_NONE b52 k52 (pk ((((x5).toUInt32 >>> ((4 : Int32) &&& 31).toUInt32).toInt32) &&& (3 : Int32)) (x0 &&& (2147483647 : Int32)) (x1 &&& (2147483647 : Int32)) (x2 &&& (2147483647 : Int32)) x3) (addL (addL ([] : List Int32) (x0 &&& (2147483647 : Int32))) (x1 &&& (2147483647 : Int32))) T91.heap E95 R91.2.1 (rep_read4 R91 (Nat.le_trans (Nat.le_trans (addL_len _ _) (Nat.succ_le_succ (Nat.le_trans (addL_len _ _) (Nat.succ_le_succ (Nat.le_refl 0))))) (Nat.le_of_ble_eq_true rfl))) V94) e96 rfl (by rw [hml]; rfl) pd_6 rfl (hb hby at_262) (Nat.le_of_ble_eq_true rfl) (Nat.le_of_ble_eq_true rfl) (Nat.le_of_ble_eq_true rfl) (Nat.le_of_ble_eq_true rfl) ?_
        intro T100 X100 e100
        have B101 : (if (if (pk ((((x5).toUInt32 >>> ((4 : Int32) &&& 31).toUInt32).toInt32) &&& (3 : Int32)) (x0 &&& (2147483647 : Int32)) (x1 &&& (2147483647 : Int32)) (x2 &&& (2147483647 : Int32)) x3) ∈ (addL (addL ([] : List Int32) (x0 &&& (2147483647 : Int32))) (x1 &&& (2147483647 : Int32))) then 1 else 0 : Int32) = (0 : Int32) then (0 : Int32) else (1 : Int32)) = (1 : Int32) := by rw [if_neg hc97]
        show Go p e below _ T100 (mkF m 265 #[.val (.int x0), .val (.int x1), .val (.int x2), .val (.int x3), .val (.int x4), .val (.int x5), .val (.int (x0 &&& (2147483647 : Int32))), .val (.int (x1 &&& (2147483647 : Int32))), .val (.int (x2 &&& (2147483647 : Int32))), .val (.int (2 : Int32)), .val (.int (1 : Int32)), .val (.int (pk ((((x5).toUInt32 >>> ((4 : Int32) &&& 31).toUInt32).toInt32) &&& (3 : Int32)) (x0 &&& (2147483647 : Int32)) (x1 &&& (2147483647 : Int32)) (x2 &&& (2147483647 : Int32)) x3)), .val (.int (pk ((((x5).toUInt32 >>> ((6 : Int32) &&& 31).toUInt32).toInt32) &&& (3 : Int32)) (x0 &&& (2147483647 : Int32)) (x1 &&& (2147483647 : Int32)) (x2 &&& (2147483647 : Int32)) x4)), .val (.int (pk ((((x5).toUInt32 >>> ((8 : Int32) &&& 31).toUInt32).toInt32) &&& (3 : Int32)) (x0 &&& (2147483647 : Int32)) (x1 &&& (2147483647 : Int32)) (x2 &&& (2147483647 : Int32)) (x3 ^^^ x4))), .val (.ref b52), .val (.ref b57), .val (.int (1 : Int32))] [(.int (if (if (pk ((((x5).toUInt32 >>> ((4 : Int32) &&& 31).toUInt32).toInt32) &&& (3 : Int32)) (x0 &&& (2147483647 : Int32)) (x1 &&& (2147483647 : Int32)) (x2 &&& (2147483647 : Int32)) x3) ∈ (addL (addL ([] : List Int32) (x0 &&& (2147483647 : Int32))) (x1 &&& (2147483647 : Int32))) then 1 else 0 : Int32) = (0 : Int32) then (0 : Int32) else (1 : Int32)))])
        refine Go.iload X100 hx (hb hby at_265) rfl rfl  ?_
        refine Go.icmpNo X100 hx (hb hby at_267) rfl (teq B101).2 ?_
        refine Go.iconst X100 hx (hb hby at_270) rfl (1 : Int32) rfl ?_
        refine Go.goto X100 hx (hb hby at_271) rfl 275 (by decide) (by decide) ?_
        exact Go.retZ X100 hx (z' := (1 : Int32)) hret hlk (hb hby at_275) rfl (by decide) ⟨by first | rfl | simp [hc97], M92⟩ (Nat.le_of_ble_eq_true rfl) (Nat.le_of_ble_eq_true rfl)
    · rw [hk]
      refine Go.iload X63 hx (hb hby at_143) rfl rfl  ?_
      refine Go.iconst X63 hx (hb hby at_145) rfl (1 : Int32) rfl ?_
      refine Go.icmpNo X63 hx (hb hby at_146) rfl (flt (by decide : ¬ ((3 : Int32) < (1 : Int32)))).1 ?_
      refine Go.aload X63 hx (hb hby at_149) rfl rfl rfl ?_
      refine Go.iload X63 hx (hb hby at_151) rfl rfl  ?_
      refine Go.callV X63 hx hZ hown (wd 21 rfl) (wd 22 rfl) (notFace_of_selects (args := #[]) (mvT hZ (wd 24 rfl))) (wd 24 rfl) (wd 23 rfl) (wd 8 rfl) (wd 25 rfl) (by decide) [(.int (x0 &&& (2147483647 : Int32)))] [] Y63 (isAddR l Z a0 hw b57 (x0 &&& (2147483647 : Int32)) a_NONE k_NONE ([] : List Int32) T63.heap O65 FF R68 (own_nn x0) (Nat.le_trans (Nat.le_refl 0) (Nat.le_of_ble_eq_true rfl))) rfl rfl (by rw [hml]; rfl) pd_3 rfl (hb hby at_153) (Nat.le_of_ble_eq_true rfl) (Nat.le_of_ble_eq_true rfl) (Nat.le_of_ble_eq_true rfl) (Nat.le_of_ble_eq_true rfl) ?_
      rintro vv102 T102 L102 X102 Q102
      obtain ⟨rfl, N102, B102, R102⟩ := Q102
      have M103 := Fr.app M64 N102
      have O104 := Blw.old B102 q57 O65
      have V105 := Arv.blw V66 B102 (Nat.lt_of_lt_of_le V54.lt (Nat.le_of_eq g57.symm))
      have E106 := R102.2.2.1
      refine Go.pop X102 hx (hb hby at_156) rfl rfl ?_
      refine Go.iload X102 hx (hb hby at_157) rfl rfl  ?_
      refine Go.iconst X102 hx (hb hby at_159) rfl (2 : Int32) rfl ?_
      refine Go.icmpNo X102 hx (hb hby at_160) rfl (flt (by decide : ¬ ((3 : Int32) < (2 : Int32)))).1 ?_
      refine Go.aload X102 hx (hb hby at_163) rfl rfl rfl ?_
      refine Go.iload X102 hx (hb hby at_165) rfl rfl  ?_
      refine Go.callV X102 hx hZ hown (wd 21 rfl) (wd 22 rfl) (notFace_of_selects (args := #[]) (mvT hZ (wd 24 rfl))) (wd 24 rfl) (wd 23 rfl) (wd 8 rfl) (wd 25 rfl) (by decide) [(.int (x1 &&& (2147483647 : Int32)))] [] E106 (isAddR l Z a0 hw b57 (x1 &&& (2147483647 : Int32)) a_NONE k_NONE (addL ([] : List Int32) (x0 &&& (2147483647 : Int32))) T102.heap O104 FF R102 (own_nn x1) (Nat.le_trans (Nat.le_trans (addL_len _ _) (Nat.succ_le_succ (Nat.le_refl 0))) (Nat.le_of_ble_eq_true rfl))) rfl rfl (by rw [hml]; rfl) pd_3 rfl (hb hby at_167) (Nat.le_of_ble_eq_true rfl) (Nat.le_of_ble_eq_true rfl) (Nat.le_of_ble_eq_true rfl) (Nat.le_of_ble_eq_true rfl) ?_
      rintro vv107 T107 L107 X107 Q107
      obtain ⟨rfl, N107, B107, R107⟩ := Q107
      have M108 := Fr.app M103 N107
      have O109 := Blw.old B107 q57 O104
      have V110 := Arv.blw V105 B107 (Nat.lt_of_lt_of_le V54.lt (Nat.le_of_eq g57.symm))
      have E111 := R107.2.2.1
      refine Go.pop X107 hx (hb hby at_170) rfl rfl ?_
      refine Go.iload X107 hx (hb hby at_171) rfl rfl  ?_
      refine Go.iconst X107 hx (hb hby at_173) rfl (3 : Int32) rfl ?_
      refine Go.icmpNo X107 hx (hb hby at_174) rfl (flt (by decide : ¬ ((3 : Int32) < (3 : Int32)))).1 ?_
      refine Go.aload X107 hx (hb hby at_177) rfl rfl rfl ?_
      refine Go.iload X107 hx (hb hby at_179) rfl rfl  ?_
      refine Go.callV X107 hx hZ hown (wd 21 rfl) (wd 22 rfl) (notFace_of_selects (args := #[]) (mvT hZ (wd 24 rfl))) (wd 24 rfl) (wd 23 rfl) (wd 8 rfl) (wd 25 rfl) (by decide) [(.int (x2 &&& (2147483647 : Int32)))] [] E111 (isAddR l Z a0 hw b57 (x2 &&& (2147483647 : Int32)) a_NONE k_NONE (addL (addL ([] : List Int32) (x0 &&& (2147483647 : Int32))) (x1 &&& (2147483647 : Int32))) T107.heap O109 FF R107 (own_nn x2) (Nat.le_trans (Nat.le_trans (addL_len _ _) (Nat.succ_le_succ (Nat.le_trans (addL_len _ _) (Nat.succ_le_succ (Nat.le_refl 0))))) (Nat.le_of_ble_eq_true rfl))) rfl rfl (by rw [hml]; rfl) pd_3 rfl (hb hby at_181) (Nat.le_of_ble_eq_true rfl) (Nat.le_of_ble_eq_true rfl) (Nat.le_of_ble_eq_true rfl) (Nat.le_of_ble_eq_true rfl) ?_
      rintro vv112 T112 L112 X112 Q112
      obtain ⟨rfl, N112, B112, R112⟩ := Q112
      have M113 := Fr.app M108 N112
      have O114 := Blw.old B112 q57 O109
      have V115 := Arv.blw V110 B112 (Nat.lt_of_lt_of_le V54.lt (Nat.le_of_eq g57.symm))
      have E116 := R112.2.2.1
      refine Go.pop X112 hx (hb hby at_184) rfl rfl ?_
      show Go p e below _ T112 (mkF m 185 #[.val (.int x0), .val (.int x1), .val (.int x2), .val (.int x3), .val (.int x4), .val (.int x5), .val (.int (x0 &&& (2147483647 : Int32))), .val (.int (x1 &&& (2147483647 : Int32))), .val (.int (x2 &&& (2147483647 : Int32))), .val (.int (3 : Int32)), .val (.int (1 : Int32)), .val (.int (pk ((((x5).toUInt32 >>> ((4 : Int32) &&& 31).toUInt32).toInt32) &&& (3 : Int32)) (x0 &&& (2147483647 : Int32)) (x1 &&& (2147483647 : Int32)) (x2 &&& (2147483647 : Int32)) x3)), .val (.int (pk ((((x5).toUInt32 >>> ((6 : Int32) &&& 31).toUInt32).toInt32) &&& (3 : Int32)) (x0 &&& (2147483647 : Int32)) (x1 &&& (2147483647 : Int32)) (x2 &&& (2147483647 : Int32)) x4)), .val (.int (pk ((((x5).toUInt32 >>> ((8 : Int32) &&& 31).toUInt32).toInt32) &&& (3 : Int32)) (x0 &&& (2147483647 : Int32)) (x1 &&& (2147483647 : Int32)) (x2 &&& (2147483647 : Int32)) (x3 ^^^ x4))), .val (.ref b52), .val (.ref b57), .unset] [])
      refine Go.iload X112 hx (hb hby at_185) rfl rfl  ?_
      refine Go.iconst X112 hx (hb hby at_187) rfl (1 : Int32) rfl ?_
      refine Go.icmpNo X112 hx (hb hby at_188) rfl (flt (by decide : ¬ ((1 : Int32) < (1 : Int32)))).1 ?_
      refine Go.iload X112 hx (hb hby at_191) rfl rfl  ?_
      refine Go.iload X112 hx (hb hby at_193) rfl rfl  ?_
      refine Go.iload X112 hx (hb hby at_195) rfl rfl  ?_
      refine Go.iload X112 hx (hb hby at_197) rfl rfl  ?_
      refine Go.iload X112 hx (hb hby at_199) rfl rfl  ?_
      refine Go.pureS X112 hx hZ hown (wd 44 rfl) (wd 45 rfl) (wd 3 rfl) (wd 46 rfl) (by decide) [(.int (pk ((((x5).toUInt32 >>> ((4 : Int32) &&& 31).toUInt32).toInt32) &&& (3 : Int32)) (x0 &&& (2147483647 : Int32)) (x1 &&& (2147483647 : Int32)) (x2 &&& (2147483647 : Int32)) x3)), (.int (3 : Int32)), (.int (x0 &&& (2147483647 : Int32))), (.int (x1 &&& (2147483647 : Int32))), (.int (x2 &&& (2147483647 : Int32)))] [] (lwIn3 l Z a0 hw (pk ((((x5).toUInt32 >>> ((4 : Int32) &&& 31).toUInt32).toInt32) &&& (3 : Int32)) (x0 &&& (2147483647 : Int32)) (x1 &&& (2147483647 : Int32)) (x2 &&& (2147483647 : Int32)) x3) (x0 &&& (2147483647 : Int32)) (x1 &&& (2147483647 : Int32)) (x2 &&& (2147483647 : Int32)) T112.heap) rfl rfl (by rw [hml]; rfl) pd_7 rfl (hb hby at_201) (Nat.le_of_ble_eq_true rfl) (Nat.le_of_ble_eq_true rfl) (Nat.le_of_ble_eq_true rfl) (Nat.le_of_ble_eq_true rfl) ?_
      intro T117 X117 e117
      by_cases hc118 : (if (pk ((((x5).toUInt32 >>> ((4 : Int32) &&& 31).toUInt32).toInt32) &&& (3 : Int32)) (x0 &&& (2147483647 : Int32)) (x1 &&& (2147483647 : Int32)) (x2 &&& (2147483647 : Int32)) x3) ∈ (addL (addL (addL ([] : List Int32) (x0 &&& (2147483647 : Int32))) (x1 &&& (2147483647 : Int32))) (x2 &&& (2147483647 : Int32))) then 1 else 0 : Int32) = (0 : Int32)
      · refine Go.ifYes X117 hx (hb hby at_204) rfl 255 ((if0 _ _).trans (teq hc118).1) (by decide) (by decide) ?_
        refine Go.iconst X117 hx (hb hby at_255) rfl (0 : Int32) rfl ?_
        refine Go.istore X117 hx (hb hby at_256) rfl  #[.val (.int x0), .val (.int x1), .val (.int x2), .val (.int x3), .val (.int x4), .val (.int x5), .val (.int (x0 &&& (2147483647 : Int32))), .val (.int (x1 &&& (2147483647 : Int32))), .val (.int (x2 &&& (2147483647 : Int32))), .val (.int (3 : Int32)), .val (.int (1 : Int32)), .val (.int (pk ((((x5).toUInt32 >>> ((4 : Int32) &&& 31).toUInt32).toInt32) &&& (3 : Int32)) (x0 &&& (2147483647 : Int32)) (x1 &&& (2147483647 : Int32)) (x2 &&& (2147483647 : Int32)) x3)), .val (.int (pk ((((x5).toUInt32 >>> ((6 : Int32) &&& 31).toUInt32).toInt32) &&& (3 : Int32)) (x0 &&& (2147483647 : Int32)) (x1 &&& (2147483647 : Int32)) (x2 &&& (2147483647 : Int32)) x4)), .val (.int (pk ((((x5).toUInt32 >>> ((8 : Int32) &&& 31).toUInt32).toInt32) &&& (3 : Int32)) (x0 &&& (2147483647 : Int32)) (x1 &&& (2147483647 : Int32)) (x2 &&& (2147483647 : Int32)) (x3 ^^^ x4))), .val (.ref b52), .val (.ref b57), .val (.int (0 : Int32))] rfl ?_
        refine Go.aload X117 hx (hb hby at_258) rfl rfl rfl ?_
        refine Go.aload X117 hx (hb hby at_260) rfl rfl rfl ?_
        refine Go.pureV X117 hx hZ hown (wd 39 rfl) (wd 40 rfl) (notFace_of_selects (args := #[]) (mvT hZ (wd 42 rfl))) (wd 42 rfl) (wd 41 rfl) (wd 8 rfl) (wd 43 rfl) (by decide) [(.ref b52)] [] E116 (isAll1 l Z a0 hw b57 a_NONE b52 k52 (pk ((((x5).toUInt32 >>> ((4 : Int32) &&& 31).toUInt32).toInt32) &&& (3 : Int32)) (x0 &&& (2147483647 : Int32)) (x1 &&& (2147483647 : Int32)) (x2 &&& (2147483647 : Int32)) x3) (addL (addL (addL ([] : List Int32) (x0 &&& (2147483647 : Int32))) (x1 &&& (2147483647 : Int32))) (x2 &&& (2147483647 : Int32))) T112.heap E116 R112.2.1 (rep_read4 R112 (Nat.le_trans (Nat.le_trans (addL_len _ _) (Nat.succ_le_succ (Nat.le_trans (addL_len _ _) (Nat.succ_le_succ (Nat.le_trans (addL_len _ _) (Nat.succ_le_succ (Nat.le_refl 0))))))) (Nat.le_of_ble_eq_true rfl))) V115) e117 rfl (by rw [hml]; rfl) pd_6 rfl (hb hby at_262) (Nat.le_of_ble_eq_true rfl) (Nat.le_of_ble_eq_true rfl) (Nat.le_of_ble_eq_true rfl) (Nat.le_of_ble_eq_true rfl) ?_
        intro T119 X119 e119
        have B120 : (if (if (pk ((((x5).toUInt32 >>> ((4 : Int32) &&& 31).toUInt32).toInt32) &&& (3 : Int32)) (x0 &&& (2147483647 : Int32)) (x1 &&& (2147483647 : Int32)) (x2 &&& (2147483647 : Int32)) x3) ∈ (addL (addL (addL ([] : List Int32) (x0 &&& (2147483647 : Int32))) (x1 &&& (2147483647 : Int32))) (x2 &&& (2147483647 : Int32))) then 1 else 0 : Int32) = (0 : Int32) then (0 : Int32) else (1 : Int32)) = (0 : Int32) := by rw [if_pos hc118]
        show Go p e below _ T119 (mkF m 265 #[.val (.int x0), .val (.int x1), .val (.int x2), .val (.int x3), .val (.int x4), .val (.int x5), .val (.int (x0 &&& (2147483647 : Int32))), .val (.int (x1 &&& (2147483647 : Int32))), .val (.int (x2 &&& (2147483647 : Int32))), .val (.int (3 : Int32)), .val (.int (1 : Int32)), .val (.int (pk ((((x5).toUInt32 >>> ((4 : Int32) &&& 31).toUInt32).toInt32) &&& (3 : Int32)) (x0 &&& (2147483647 : Int32)) (x1 &&& (2147483647 : Int32)) (x2 &&& (2147483647 : Int32)) x3)), .val (.int (pk ((((x5).toUInt32 >>> ((6 : Int32) &&& 31).toUInt32).toInt32) &&& (3 : Int32)) (x0 &&& (2147483647 : Int32)) (x1 &&& (2147483647 : Int32)) (x2 &&& (2147483647 : Int32)) x4)), .val (.int (pk ((((x5).toUInt32 >>> ((8 : Int32) &&& 31).toUInt32).toInt32) &&& (3 : Int32)) (x0 &&& (2147483647 : Int32)) (x1 &&& (2147483647 : Int32)) (x2 &&& (2147483647 : Int32)) (x3 ^^^ x4))), .val (.ref b52), .val (.ref b57), .val (.int (0 : Int32))] [(.int (if (if (pk ((((x5).toUInt32 >>> ((4 : Int32) &&& 31).toUInt32).toInt32) &&& (3 : Int32)) (x0 &&& (2147483647 : Int32)) (x1 &&& (2147483647 : Int32)) (x2 &&& (2147483647 : Int32)) x3) ∈ (addL (addL (addL ([] : List Int32) (x0 &&& (2147483647 : Int32))) (x1 &&& (2147483647 : Int32))) (x2 &&& (2147483647 : Int32))) then 1 else 0 : Int32) = (0 : Int32) then (0 : Int32) else (1 : Int32)))])
        refine Go.iload X119 hx (hb hby at_265) rfl rfl  ?_
        refine Go.icmpNo X119 hx (hb hby at_267) rfl (teq B120).2 ?_
        refine Go.iconst X119 hx (hb hby at_270) rfl (1 : Int32) rfl ?_
        refine Go.goto X119 hx (hb hby at_271) rfl 275 (by decide) (by decide) ?_
        exact Go.retZ X119 hx (z' := (1 : Int32)) hret hlk (hb hby at_275) rfl (by decide) ⟨by first | rfl | simp [hc118], M113⟩ (Nat.le_of_ble_eq_true rfl) (Nat.le_of_ble_eq_true rfl)
      · refine Go.ifNo X117 hx (hb hby at_204) rfl ((if0 _ _).trans (feq hc118).1) ?_
        refine Go.iload X117 hx (hb hby at_207) rfl rfl  ?_
        refine Go.iconst X117 hx (hb hby at_209) rfl (2 : Int32) rfl ?_
        refine Go.icmpYes X117 hx (hb hby at_210) rfl 229 (tlt (by decide : (1 : Int32) < (2 : Int32))).1 (by decide) (by decide) ?_
        refine Go.iload X117 hx (hb hby at_229) rfl rfl  ?_
        refine Go.iconst X117 hx (hb hby at_231) rfl (3 : Int32) rfl ?_
        refine Go.icmpYes X117 hx (hb hby at_232) rfl 251 (tlt (by decide : (1 : Int32) < (3 : Int32))).1 (by decide) (by decide) ?_
        refine Go.iconst X117 hx (hb hby at_251) rfl (1 : Int32) rfl ?_
        refine Go.goto X117 hx (hb hby at_252) rfl 256 (by decide) (by decide) ?_
        refine Go.istore X117 hx (hb hby at_256) rfl  #[.val (.int x0), .val (.int x1), .val (.int x2), .val (.int x3), .val (.int x4), .val (.int x5), .val (.int (x0 &&& (2147483647 : Int32))), .val (.int (x1 &&& (2147483647 : Int32))), .val (.int (x2 &&& (2147483647 : Int32))), .val (.int (3 : Int32)), .val (.int (1 : Int32)), .val (.int (pk ((((x5).toUInt32 >>> ((4 : Int32) &&& 31).toUInt32).toInt32) &&& (3 : Int32)) (x0 &&& (2147483647 : Int32)) (x1 &&& (2147483647 : Int32)) (x2 &&& (2147483647 : Int32)) x3)), .val (.int (pk ((((x5).toUInt32 >>> ((6 : Int32) &&& 31).toUInt32).toInt32) &&& (3 : Int32)) (x0 &&& (2147483647 : Int32)) (x1 &&& (2147483647 : Int32)) (x2 &&& (2147483647 : Int32)) x4)), .val (.int (pk ((((x5).toUInt32 >>> ((8 : Int32) &&& 31).toUInt32).toInt32) &&& (3 : Int32)) (x0 &&& (2147483647 : Int32)) (x1 &&& (2147483647 : Int32)) (x2 &&& (2147483647 : Int32)) (x3 ^^^ x4))), .val (.ref b52), .val (.ref b57), .val (.int (1 : Int32))] rfl ?_
        refine Go.aload X117 hx (hb hby at_258) rfl rfl rfl ?_
        refine Go.aload X117 hx (hb hby at_260) rfl rfl rfl ?_
        refine Go.pureV X117 hx hZ hown (wd 39 rfl) (wd 40 rfl) (notFace_of_selects (args := #[]) (mvT hZ (wd 42 rfl))) (wd 42 rfl) (wd 41 rfl) (wd 8 rfl) (wd 43 rfl) (by decide) [(.ref b52)] [] E116 (isAll1 l Z a0 hw b57 a_NONE b52 k52 (pk ((((x5).toUInt32 >>> ((4 : Int32) &&& 31).toUInt32).toInt32) &&& (3 : Int32)) (x0 &&& (2147483647 : Int32)) (x1 &&& (2147483647 : Int32)) (x2 &&& (2147483647 : Int32)) x3) (addL (addL (addL ([] : List Int32) (x0 &&& (2147483647 : Int32))) (x1 &&& (2147483647 : Int32))) (x2 &&& (2147483647 : Int32))) T112.heap E116 R112.2.1 (rep_read4 R112 (Nat.le_trans (Nat.le_trans (addL_len _ _) (Nat.succ_le_succ (Nat.le_trans (addL_len _ _) (Nat.succ_le_succ (Nat.le_trans (addL_len _ _) (Nat.succ_le_succ (Nat.le_refl 0))))))) (Nat.le_of_ble_eq_true rfl))) V115) e117 rfl (by rw [hml]; rfl) pd_6 rfl (hb hby at_262) (Nat.le_of_ble_eq_true rfl) (Nat.le_of_ble_eq_true rfl) (Nat.le_of_ble_eq_true rfl) (Nat.le_of_ble_eq_true rfl) ?_
        intro T121 X121 e121
        have B122 : (if (if (pk ((((x5).toUInt32 >>> ((4 : Int32) &&& 31).toUInt32).toInt32) &&& (3 : Int32)) (x0 &&& (2147483647 : Int32)) (x1 &&& (2147483647 : Int32)) (x2 &&& (2147483647 : Int32)) x3) ∈ (addL (addL (addL ([] : List Int32) (x0 &&& (2147483647 : Int32))) (x1 &&& (2147483647 : Int32))) (x2 &&& (2147483647 : Int32))) then 1 else 0 : Int32) = (0 : Int32) then (0 : Int32) else (1 : Int32)) = (1 : Int32) := by rw [if_neg hc118]
        show Go p e below _ T121 (mkF m 265 #[.val (.int x0), .val (.int x1), .val (.int x2), .val (.int x3), .val (.int x4), .val (.int x5), .val (.int (x0 &&& (2147483647 : Int32))), .val (.int (x1 &&& (2147483647 : Int32))), .val (.int (x2 &&& (2147483647 : Int32))), .val (.int (3 : Int32)), .val (.int (1 : Int32)), .val (.int (pk ((((x5).toUInt32 >>> ((4 : Int32) &&& 31).toUInt32).toInt32) &&& (3 : Int32)) (x0 &&& (2147483647 : Int32)) (x1 &&& (2147483647 : Int32)) (x2 &&& (2147483647 : Int32)) x3)), .val (.int (pk ((((x5).toUInt32 >>> ((6 : Int32) &&& 31).toUInt32).toInt32) &&& (3 : Int32)) (x0 &&& (2147483647 : Int32)) (x1 &&& (2147483647 : Int32)) (x2 &&& (2147483647 : Int32)) x4)), .val (.int (pk ((((x5).toUInt32 >>> ((8 : Int32) &&& 31).toUInt32).toInt32) &&& (3 : Int32)) (x0 &&& (2147483647 : Int32)) (x1 &&& (2147483647 : Int32)) (x2 &&& (2147483647 : Int32)) (x3 ^^^ x4))), .val (.ref b52), .val (.ref b57), .val (.int (1 : Int32))] [(.int (if (if (pk ((((x5).toUInt32 >>> ((4 : Int32) &&& 31).toUInt32).toInt32) &&& (3 : Int32)) (x0 &&& (2147483647 : Int32)) (x1 &&& (2147483647 : Int32)) (x2 &&& (2147483647 : Int32)) x3) ∈ (addL (addL (addL ([] : List Int32) (x0 &&& (2147483647 : Int32))) (x1 &&& (2147483647 : Int32))) (x2 &&& (2147483647 : Int32))) then 1 else 0 : Int32) = (0 : Int32) then (0 : Int32) else (1 : Int32)))])
        refine Go.iload X121 hx (hb hby at_265) rfl rfl  ?_
        refine Go.icmpNo X121 hx (hb hby at_267) rfl (teq B122).2 ?_
        refine Go.iconst X121 hx (hb hby at_270) rfl (1 : Int32) rfl ?_
        refine Go.goto X121 hx (hb hby at_271) rfl 275 (by decide) (by decide) ?_
        exact Go.retZ X121 hx (z' := (1 : Int32)) hret hlk (hb hby at_275) rfl (by decide) ⟨by first | rfl | simp [hc118], M113⟩ (Nat.le_of_ble_eq_true rfl) (Nat.le_of_ble_eq_true rfl)
  · rw [hk]
    refine Go.iload X3 hx (hb hby at_92) rfl rfl  ?_
    refine Go.newP X3 hx hZ (wd 5 rfl) e3 2 (by decide) 2 (by decide) (by decide) (Nat.le_of_ble_eq_true rfl) (Nat.le_of_ble_eq_true rfl) "[I" (by decide) (hb hby at_94) rfl ?_
    intro T123 h123 b123 k123 g123 X123 e123 E123 V123' A123
    have V123 : Arv Z h123 b123 k123 .int (2 : Int32) [(.int (0 : Int32)), (.int (0 : Int32))] (.int (0 : Int32)) := V123'
    have q123 : Z.heap.size ≤ b123 := Nat.le_trans O0.2.1 (Nat.le_of_eq g123.symm)
    have O124 := O0.ext E123
    refine Go.astore X123 hx (hb hby at_96) rfl rfl #[.val (.int x0), .val (.int x1), .val (.int x2), .val (.int x3), .val (.int x4), .val (.int x5), .val (.int (x0 &&& (2147483647 : Int32))), .val (.int (x1 &&& (2147483647 : Int32))), .val (.int (x2 &&& (2147483647 : Int32))), .val (.int (x5 &&& (3 : Int32))), .val (.int (2 : Int32)), .val (.int (pk ((((x5).toUInt32 >>> ((4 : Int32) &&& 31).toUInt32).toInt32) &&& (3 : Int32)) (x0 &&& (2147483647 : Int32)) (x1 &&& (2147483647 : Int32)) (x2 &&& (2147483647 : Int32)) x3)), .val (.int (pk ((((x5).toUInt32 >>> ((6 : Int32) &&& 31).toUInt32).toInt32) &&& (3 : Int32)) (x0 &&& (2147483647 : Int32)) (x1 &&& (2147483647 : Int32)) (x2 &&& (2147483647 : Int32)) x4)), .val (.int (pk ((((x5).toUInt32 >>> ((8 : Int32) &&& 31).toUInt32).toInt32) &&& (3 : Int32)) (x0 &&& (2147483647 : Int32)) (x1 &&& (2147483647 : Int32)) (x2 &&& (2147483647 : Int32)) (x3 ^^^ x4))), .val (.ref b123), .unset, .unset] rfl ?_
    refine Go.iload X123 hx (hb hby at_98) rfl rfl  ?_
    refine Go.iconst X123 hx (hb hby at_100) rfl (1 : Int32) rfl ?_
    refine Go.icmpNo X123 hx (hb hby at_101) rfl (flt (by decide : ¬ ((2 : Int32) < (1 : Int32)))).1 ?_
    refine Go.aload X123 hx (hb hby at_104) rfl rfl rfl ?_
    refine Go.iconst X123 hx (hb hby at_106) rfl (0 : Int32) rfl ?_
    refine Go.iload X123 hx (hb hby at_107) rfl rfl  ?_
    refine Go.iastore X123 hx hZ V123 e123 ⟨by decide, by decide⟩ 0 (by decide) (Nat.le_of_ble_eq_true rfl)  (hb hby at_109) rfl ?_
    intro T125 h125 X125 e125 W125 V125'
    have V125 : Arv Z h125 b123 k123 .int (2 : Int32) [(.int (pk ((((x5).toUInt32 >>> ((4 : Int32) &&& 31).toUInt32).toInt32) &&& (3 : Int32)) (x0 &&& (2147483647 : Int32)) (x1 &&& (2147483647 : Int32)) (x2 &&& (2147483647 : Int32)) x3)), (.int (0 : Int32))] (.int (0 : Int32)) := V125'
    have O126 := O124.wr W125 q123
    have N127 := Fr.snoc X125 (Fr.nil _) q123
    refine Go.iload X125 hx (hb hby at_110) rfl rfl  ?_
    refine Go.iconst X125 hx (hb hby at_112) rfl (2 : Int32) rfl ?_
    refine Go.icmpNo X125 hx (hb hby at_113) rfl (flt (by decide : ¬ ((2 : Int32) < (2 : Int32)))).1 ?_
    refine Go.aload X125 hx (hb hby at_116) rfl rfl rfl ?_
    refine Go.iconst X125 hx (hb hby at_118) rfl (1 : Int32) rfl ?_
    refine Go.iload X125 hx (hb hby at_119) rfl rfl  ?_
    refine Go.iastore X125 hx hZ V125 e125 ⟨by decide, by decide⟩ 1 (by decide) (Nat.le_of_ble_eq_true rfl)  (hb hby at_121) rfl ?_
    intro T128 h128 X128 e128 W128 V128'
    have V128 : Arv Z h128 b123 k123 .int (2 : Int32) [(.int (pk ((((x5).toUInt32 >>> ((4 : Int32) &&& 31).toUInt32).toInt32) &&& (3 : Int32)) (x0 &&& (2147483647 : Int32)) (x1 &&& (2147483647 : Int32)) (x2 &&& (2147483647 : Int32)) x3)), (.int (pk ((((x5).toUInt32 >>> ((6 : Int32) &&& 31).toUInt32).toInt32) &&& (3 : Int32)) (x0 &&& (2147483647 : Int32)) (x1 &&& (2147483647 : Int32)) (x2 &&& (2147483647 : Int32)) x4))] (.int (0 : Int32)) := V128'
    have O129 := O126.wr W128 q123
    have N130 := Fr.snoc X128 N127 q123
    refine Go.iload X128 hx (hb hby at_122) rfl rfl  ?_
    refine Go.iconst X128 hx (hb hby at_124) rfl (3 : Int32) rfl ?_
    refine Go.icmpYes X128 hx (hb hby at_125) rfl 134 (tlt (by decide : (2 : Int32) < (3 : Int32))).1 (by decide) (by decide) ?_
    refine Go.newO X128 hx hZ hown (wd 6 rfl) (wd 7 rfl) (wd 8 rfl) e128 (hb hby at_134) rfl (Nat.le_of_ble_eq_true rfl) (Nat.le_of_ble_eq_true rfl) ?_
    intro T131 h131 b131 g131 X131 e131 E131 A131 D131
    have F132 : Fld Z h131 b131 "com/example/overrule/overrule/engine/IntSet" "elements" "[I" .null := D131 (Or.inl (wd 18 rfl)) (ty := (.array .int)) (by decide)
    have F133 : Fld Z h131 b131 "com/example/overrule/overrule/engine/IntSet" "slots" "[I" .null := D131 (Or.inl (wd 20 rfl)) (ty := (.array .int)) (by decide)
    have F134 : Fld Z h131 b131 "com/example/overrule/overrule/engine/IntSet" "size" "I" (.int (0 : Int32)) := D131 (Or.inl (wd 38 rfl)) (ty := .int) (by decide)
    have q131 : Z.heap.size ≤ b131 := Nat.le_trans O129.2.1 (Nat.le_of_eq g131.symm)
    have ne_b123_b131 : b123 ≠ b131 := Nat.ne_of_lt (Nat.lt_of_lt_of_le V128.lt (Nat.le_of_eq g131.symm))
    have O135 := O129.ext E131
    have V136 := V128.ext E131
    refine Go.dup X131 hx (hb hby at_137) rfl rfl ?_
    refine Go.callI X131 hx hZ rfl hown (wd 9 rfl) (wd 10 rfl) (wd 8 rfl) (wd 11 rfl) (by decide) [] [(.ref b131)] (isInit l Z a0 hw b131 a_NONE k_NONE h131 O135 FF A131 q131 F132 F134 F133) e131 rfl (by rw [hml]; rfl) pd_5 rfl (hb hby at_138) (Nat.le_of_ble_eq_true rfl) (Nat.le_of_ble_eq_true rfl) (Nat.le_of_ble_eq_true rfl) (Nat.le_of_ble_eq_true rfl) ?_
    rintro vv137 T137 L137 X137 Q137
    obtain ⟨rfl, N137, K137, Y137, Fe137, Fn137, Fs137⟩ := Q137
    have M138 := Fr.app N130 N137
    have O139 := O135.keep K137 (allS q131 (all0))
    have V140 := V136.keep K137 (ninS ne_b123_b131 (nin0))
    have E141 := A131.keep K137
    have R142 : Rep Z a_NONE T137.heap b131 ([] : List Int32) := ⟨q131, good_nil, Y137, Or.inl ⟨rfl, Fe137, Fn137, Fs137⟩⟩
    show Go p e below _ T137 (mkF m 141 #[.val (.int x0), .val (.int x1), .val (.int x2), .val (.int x3), .val (.int x4), .val (.int x5), .val (.int (x0 &&& (2147483647 : Int32))), .val (.int (x1 &&& (2147483647 : Int32))), .val (.int (x2 &&& (2147483647 : Int32))), .val (.int (x5 &&& (3 : Int32))), .val (.int (2 : Int32)), .val (.int (pk ((((x5).toUInt32 >>> ((4 : Int32) &&& 31).toUInt32).toInt32) &&& (3 : Int32)) (x0 &&& (2147483647 : Int32)) (x1 &&& (2147483647 : Int32)) (x2 &&& (2147483647 : Int32)) x3)), .val (.int (pk ((((x5).toUInt32 >>> ((6 : Int32) &&& 31).toUInt32).toInt32) &&& (3 : Int32)) (x0 &&& (2147483647 : Int32)) (x1 &&& (2147483647 : Int32)) (x2 &&& (2147483647 : Int32)) x4)), .val (.int (pk ((((x5).toUInt32 >>> ((8 : Int32) &&& 31).toUInt32).toInt32) &&& (3 : Int32)) (x0 &&& (2147483647 : Int32)) (x1 &&& (2147483647 : Int32)) (x2 &&& (2147483647 : Int32)) (x3 ^^^ x4))), .val (.ref b123), .unset, .unset] [(.ref b131)])
    refine Go.astore X137 hx (hb hby at_141) rfl rfl #[.val (.int x0), .val (.int x1), .val (.int x2), .val (.int x3), .val (.int x4), .val (.int x5), .val (.int (x0 &&& (2147483647 : Int32))), .val (.int (x1 &&& (2147483647 : Int32))), .val (.int (x2 &&& (2147483647 : Int32))), .val (.int (x5 &&& (3 : Int32))), .val (.int (2 : Int32)), .val (.int (pk ((((x5).toUInt32 >>> ((4 : Int32) &&& 31).toUInt32).toInt32) &&& (3 : Int32)) (x0 &&& (2147483647 : Int32)) (x1 &&& (2147483647 : Int32)) (x2 &&& (2147483647 : Int32)) x3)), .val (.int (pk ((((x5).toUInt32 >>> ((6 : Int32) &&& 31).toUInt32).toInt32) &&& (3 : Int32)) (x0 &&& (2147483647 : Int32)) (x1 &&& (2147483647 : Int32)) (x2 &&& (2147483647 : Int32)) x4)), .val (.int (pk ((((x5).toUInt32 >>> ((8 : Int32) &&& 31).toUInt32).toInt32) &&& (3 : Int32)) (x0 &&& (2147483647 : Int32)) (x1 &&& (2147483647 : Int32)) (x2 &&& (2147483647 : Int32)) (x3 ^^^ x4))), .val (.ref b123), .val (.ref b131), .unset] rfl ?_
    show Go p e below _ T137 (mkF m 143 #[.val (.int x0), .val (.int x1), .val (.int x2), .val (.int x3), .val (.int x4), .val (.int x5), .val (.int (x0 &&& (2147483647 : Int32))), .val (.int (x1 &&& (2147483647 : Int32))), .val (.int (x2 &&& (2147483647 : Int32))), .val (.int (x5 &&& (3 : Int32))), .val (.int (2 : Int32)), .val (.int (pk ((((x5).toUInt32 >>> ((4 : Int32) &&& 31).toUInt32).toInt32) &&& (3 : Int32)) (x0 &&& (2147483647 : Int32)) (x1 &&& (2147483647 : Int32)) (x2 &&& (2147483647 : Int32)) x3)), .val (.int (pk ((((x5).toUInt32 >>> ((6 : Int32) &&& 31).toUInt32).toInt32) &&& (3 : Int32)) (x0 &&& (2147483647 : Int32)) (x1 &&& (2147483647 : Int32)) (x2 &&& (2147483647 : Int32)) x4)), .val (.int (pk ((((x5).toUInt32 >>> ((8 : Int32) &&& 31).toUInt32).toInt32) &&& (3 : Int32)) (x0 &&& (2147483647 : Int32)) (x1 &&& (2147483647 : Int32)) (x2 &&& (2147483647 : Int32)) (x3 ^^^ x4))), .val (.ref b123), .val (.ref b131), .unset] [])
    rcases own_and3 x5 with hk | hk | hk | hk
    · rw [hk]
      refine Go.iload X137 hx (hb hby at_143) rfl rfl  ?_
      refine Go.iconst X137 hx (hb hby at_145) rfl (1 : Int32) rfl ?_
      refine Go.icmpYes X137 hx (hb hby at_146) rfl 157 (tlt (by decide : (0 : Int32) < (1 : Int32))).1 (by decide) (by decide) ?_
      refine Go.iload X137 hx (hb hby at_157) rfl rfl  ?_
      refine Go.iconst X137 hx (hb hby at_159) rfl (2 : Int32) rfl ?_
      refine Go.icmpYes X137 hx (hb hby at_160) rfl 171 (tlt (by decide : (0 : Int32) < (2 : Int32))).1 (by decide) (by decide) ?_
      refine Go.iload X137 hx (hb hby at_171) rfl rfl  ?_
      refine Go.iconst X137 hx (hb hby at_173) rfl (3 : Int32) rfl ?_
      refine Go.icmpYes X137 hx (hb hby at_174) rfl 185 (tlt (by decide : (0 : Int32) < (3 : Int32))).1 (by decide) (by decide) ?_
      show Go p e below _ T137 (mkF m 185 #[.val (.int x0), .val (.int x1), .val (.int x2), .val (.int x3), .val (.int x4), .val (.int x5), .val (.int (x0 &&& (2147483647 : Int32))), .val (.int (x1 &&& (2147483647 : Int32))), .val (.int (x2 &&& (2147483647 : Int32))), .val (.int (0 : Int32)), .val (.int (2 : Int32)), .val (.int (pk ((((x5).toUInt32 >>> ((4 : Int32) &&& 31).toUInt32).toInt32) &&& (3 : Int32)) (x0 &&& (2147483647 : Int32)) (x1 &&& (2147483647 : Int32)) (x2 &&& (2147483647 : Int32)) x3)), .val (.int (pk ((((x5).toUInt32 >>> ((6 : Int32) &&& 31).toUInt32).toInt32) &&& (3 : Int32)) (x0 &&& (2147483647 : Int32)) (x1 &&& (2147483647 : Int32)) (x2 &&& (2147483647 : Int32)) x4)), .val (.int (pk ((((x5).toUInt32 >>> ((8 : Int32) &&& 31).toUInt32).toInt32) &&& (3 : Int32)) (x0 &&& (2147483647 : Int32)) (x1 &&& (2147483647 : Int32)) (x2 &&& (2147483647 : Int32)) (x3 ^^^ x4))), .val (.ref b123), .val (.ref b131), .unset] [])
      refine Go.iload X137 hx (hb hby at_185) rfl rfl  ?_
      refine Go.iconst X137 hx (hb hby at_187) rfl (1 : Int32) rfl ?_
      refine Go.icmpNo X137 hx (hb hby at_188) rfl (flt (by decide : ¬ ((2 : Int32) < (1 : Int32)))).1 ?_
      refine Go.iload X137 hx (hb hby at_191) rfl rfl  ?_
      refine Go.iload X137 hx (hb hby at_193) rfl rfl  ?_
      refine Go.iload X137 hx (hb hby at_195) rfl rfl  ?_
      refine Go.iload X137 hx (hb hby at_197) rfl rfl  ?_
      refine Go.iload X137 hx (hb hby at_199) rfl rfl  ?_
      refine Go.pureS X137 hx hZ hown (wd 44 rfl) (wd 45 rfl) (wd 3 rfl) (wd 46 rfl) (by decide) [(.int (pk ((((x5).toUInt32 >>> ((4 : Int32) &&& 31).toUInt32).toInt32) &&& (3 : Int32)) (x0 &&& (2147483647 : Int32)) (x1 &&& (2147483647 : Int32)) (x2 &&& (2147483647 : Int32)) x3)), (.int (0 : Int32)), (.int (x0 &&& (2147483647 : Int32))), (.int (x1 &&& (2147483647 : Int32))), (.int (x2 &&& (2147483647 : Int32)))] [] (lwIn0 l Z a0 hw (pk ((((x5).toUInt32 >>> ((4 : Int32) &&& 31).toUInt32).toInt32) &&& (3 : Int32)) (x0 &&& (2147483647 : Int32)) (x1 &&& (2147483647 : Int32)) (x2 &&& (2147483647 : Int32)) x3) (x0 &&& (2147483647 : Int32)) (x1 &&& (2147483647 : Int32)) (x2 &&& (2147483647 : Int32)) T137.heap) rfl rfl (by rw [hml]; rfl) pd_7 rfl (hb hby at_201) (Nat.le_of_ble_eq_true rfl) (Nat.le_of_ble_eq_true rfl) (Nat.le_of_ble_eq_true rfl) (Nat.le_of_ble_eq_true rfl) ?_
      intro T143 X143 e143
      by_cases hc144 : (if (pk ((((x5).toUInt32 >>> ((4 : Int32) &&& 31).toUInt32).toInt32) &&& (3 : Int32)) (x0 &&& (2147483647 : Int32)) (x1 &&& (2147483647 : Int32)) (x2 &&& (2147483647 : Int32)) x3) ∈ ([] : List Int32) then 1 else 0 : Int32) = (0 : Int32)
      · refine Go.ifYes X143 hx (hb hby at_204) rfl 255 ((if0 _ _).trans (teq hc144).1) (by decide) (by decide) ?_
        refine Go.iconst X143 hx (hb hby at_255) rfl (0 : Int32) rfl ?_
        refine Go.istore X143 hx (hb hby at_256) rfl  #[.val (.int x0), .val (.int x1), .val (.int x2), .val (.int x3), .val (.int x4), .val (.int x5), .val (.int (x0 &&& (2147483647 : Int32))), .val (.int (x1 &&& (2147483647 : Int32))), .val (.int (x2 &&& (2147483647 : Int32))), .val (.int (0 : Int32)), .val (.int (2 : Int32)), .val (.int (pk ((((x5).toUInt32 >>> ((4 : Int32) &&& 31).toUInt32).toInt32) &&& (3 : Int32)) (x0 &&& (2147483647 : Int32)) (x1 &&& (2147483647 : Int32)) (x2 &&& (2147483647 : Int32)) x3)), .val (.int (pk ((((x5).toUInt32 >>> ((6 : Int32) &&& 31).toUInt32).toInt32) &&& (3 : Int32)) (x0 &&& (2147483647 : Int32)) (x1 &&& (2147483647 : Int32)) (x2 &&& (2147483647 : Int32)) x4)), .val (.int (pk ((((x5).toUInt32 >>> ((8 : Int32) &&& 31).toUInt32).toInt32) &&& (3 : Int32)) (x0 &&& (2147483647 : Int32)) (x1 &&& (2147483647 : Int32)) (x2 &&& (2147483647 : Int32)) (x3 ^^^ x4))), .val (.ref b123), .val (.ref b131), .val (.int (0 : Int32))] rfl ?_
        refine Go.aload X143 hx (hb hby at_258) rfl rfl rfl ?_
        refine Go.aload X143 hx (hb hby at_260) rfl rfl rfl ?_
        refine Go.pureV X143 hx hZ hown (wd 39 rfl) (wd 40 rfl) (notFace_of_selects (args := #[]) (mvT hZ (wd 42 rfl))) (wd 42 rfl) (wd 41 rfl) (wd 8 rfl) (wd 43 rfl) (by decide) [(.ref b123)] [] Y137 (isAll2 l Z a0 hw b131 a_NONE b123 k123 (pk ((((x5).toUInt32 >>> ((4 : Int32) &&& 31).toUInt32).toInt32) &&& (3 : Int32)) (x0 &&& (2147483647 : Int32)) (x1 &&& (2147483647 : Int32)) (x2 &&& (2147483647 : Int32)) x3) (pk ((((x5).toUInt32 >>> ((6 : Int32) &&& 31).toUInt32).toInt32) &&& (3 : Int32)) (x0 &&& (2147483647 : Int32)) (x1 &&& (2147483647 : Int32)) (x2 &&& (2147483647 : Int32)) x4) ([] : List Int32) T137.heap Y137 R142.2.1 (rep_read4 R142 (Nat.le_trans (Nat.le_refl 0) (Nat.le_of_ble_eq_true rfl))) V140) e143 rfl (by rw [hml]; rfl) pd_6 rfl (hb hby at_262) (Nat.le_of_ble_eq_true rfl) (Nat.le_of_ble_eq_true rfl) (Nat.le_of_ble_eq_true rfl) (Nat.le_of_ble_eq_true rfl) ?_
        intro T145 X145 e145
        have B146 : (if (if (pk ((((x5).toUInt32 >>> ((4 : Int32) &&& 31).toUInt32).toInt32) &&& (3 : Int32)) (x0 &&& (2147483647 : Int32)) (x1 &&& (2147483647 : Int32)) (x2 &&& (2147483647 : Int32)) x3) ∈ ([] : List Int32) then 1 else 0 : Int32) = (0 : Int32) then (0 : Int32) else if (if (pk ((((x5).toUInt32 >>> ((6 : Int32) &&& 31).toUInt32).toInt32) &&& (3 : Int32)) (x0 &&& (2147483647 : Int32)) (x1 &&& (2147483647 : Int32)) (x2 &&& (2147483647 : Int32)) x4) ∈ ([] : List Int32) then 1 else 0 : Int32) = (0 : Int32) then (0 : Int32) else (1 : Int32)) = (0 : Int32) := by rw [if_pos hc144]
        show Go p e below _ T145 (mkF m 265 #[.val (.int x0), .val (.int x1), .val (.int x2), .val (.int x3), .val (.int x4), .val (.int x5), .val (.int (x0 &&& (2147483647 : Int32))), .val (.int (x1 &&& (2147483647 : Int32))), .val (.int (x2 &&& (2147483647 : Int32))), .val (.int (0 : Int32)), .val (.int (2 : Int32)), .val (.int (pk ((((x5).toUInt32 >>> ((4 : Int32) &&& 31).toUInt32).toInt32) &&& (3 : Int32)) (x0 &&& (2147483647 : Int32)) (x1 &&& (2147483647 : Int32)) (x2 &&& (2147483647 : Int32)) x3)), .val (.int (pk ((((x5).toUInt32 >>> ((6 : Int32) &&& 31).toUInt32).toInt32) &&& (3 : Int32)) (x0 &&& (2147483647 : Int32)) (x1 &&& (2147483647 : Int32)) (x2 &&& (2147483647 : Int32)) x4)), .val (.int (pk ((((x5).toUInt32 >>> ((8 : Int32) &&& 31).toUInt32).toInt32) &&& (3 : Int32)) (x0 &&& (2147483647 : Int32)) (x1 &&& (2147483647 : Int32)) (x2 &&& (2147483647 : Int32)) (x3 ^^^ x4))), .val (.ref b123), .val (.ref b131), .val (.int (0 : Int32))] [(.int (if (if (pk ((((x5).toUInt32 >>> ((4 : Int32) &&& 31).toUInt32).toInt32) &&& (3 : Int32)) (x0 &&& (2147483647 : Int32)) (x1 &&& (2147483647 : Int32)) (x2 &&& (2147483647 : Int32)) x3) ∈ ([] : List Int32) then 1 else 0 : Int32) = (0 : Int32) then (0 : Int32) else if (if (pk ((((x5).toUInt32 >>> ((6 : Int32) &&& 31).toUInt32).toInt32) &&& (3 : Int32)) (x0 &&& (2147483647 : Int32)) (x1 &&& (2147483647 : Int32)) (x2 &&& (2147483647 : Int32)) x4) ∈ ([] : List Int32) then 1 else 0 : Int32) = (0 : Int32) then (0 : Int32) else (1 : Int32)))])
        refine Go.iload X145 hx (hb hby at_265) rfl rfl  ?_
        refine Go.icmpNo X145 hx (hb hby at_267) rfl (teq B146).2 ?_
        refine Go.iconst X145 hx (hb hby at_270) rfl (1 : Int32) rfl ?_
        refine Go.goto X145 hx (hb hby at_271) rfl 275 (by decide) (by decide) ?_
        exact Go.retZ X145 hx (z' := (1 : Int32)) hret hlk (hb hby at_275) rfl (by decide) ⟨by first | rfl | simp [hc144], M138⟩ (Nat.le_of_ble_eq_true rfl) (Nat.le_of_ble_eq_true rfl)
      · refine Go.ifNo X143 hx (hb hby at_204) rfl ((if0 _ _).trans (feq hc144).1) ?_
        refine Go.iload X143 hx (hb hby at_207) rfl rfl  ?_
        refine Go.iconst X143 hx (hb hby at_209) rfl (2 : Int32) rfl ?_
        refine Go.icmpNo X143 hx (hb hby at_210) rfl (flt (by decide : ¬ ((2 : Int32) < (2 : Int32)))).1 ?_
        refine Go.iload X143 hx (hb hby at_213) rfl rfl  ?_
        refine Go.iload X143 hx (hb hby at_215) rfl rfl  ?_
        refine Go.iload X143 hx (hb hby at_217) rfl rfl  ?_
        refine Go.iload X143 hx (hb hby at_219) rfl rfl  ?_
        refine Go.iload X143 hx (hb hby at_221) rfl rfl  ?_
        refine Go.pureS X143 hx hZ hown (wd 44 rfl) (wd 45 rfl) (wd 3 rfl) (wd 46 rfl) (by decide) [(.int (pk ((((x5).toUInt32 >>> ((6 : Int32) &&& 31).toUInt32).toInt32) &&& (3 : Int32)) (x0 &&& (2147483647 : Int32)) (x1 &&& (2147483647 : Int32)) (x2 &&& (2147483647 : Int32)) x4)), (.int (0 : Int32)), (.int (x0 &&& (2147483647 : Int32))), (.int (x1 &&& (2147483647 : Int32))), (.int (x2 &&& (2147483647 : Int32)))] [] (lwIn0 l Z a0 hw (pk ((((x5).toUInt32 >>> ((6 : Int32) &&& 31).toUInt32).toInt32) &&& (3 : Int32)) (x0 &&& (2147483647 : Int32)) (x1 &&& (2147483647 : Int32)) (x2 &&& (2147483647 : Int32)) x4) (x0 &&& (2147483647 : Int32)) (x1 &&& (2147483647 : Int32)) (x2 &&& (2147483647 : Int32)) T137.heap) e143 rfl (by rw [hml]; rfl) pd_7 rfl (hb hby at_223) (Nat.le_of_ble_eq_true rfl) (Nat.le_of_ble_eq_true rfl) (Nat.le_of_ble_eq_true rfl) (Nat.le_of_ble_eq_true rfl) ?_
        intro T147 X147 e147
        by_cases hc148 : (if (pk ((((x5).toUInt32 >>> ((6 : Int32) &&& 31).toUInt32).toInt32) &&& (3 : Int32)) (x0 &&& (2147483647 : Int32)) (x1 &&& (2147483647 : Int32)) (x2 &&& (2147483647 : Int32)) x4) ∈ ([] : List Int32) then 1 else 0 : Int32) = (0 : Int32)
        · refine Go.ifYes X147 hx (hb hby at_226) rfl 255 ((if0 _ _).trans (teq hc148).1) (by decide) (by decide) ?_
          refine Go.iconst X147 hx (hb hby at_255) rfl (0 : Int32) rfl ?_
          refine Go.istore X147 hx (hb hby at_256) rfl  #[.val (.int x0), .val (.int x1), .val (.int x2), .val (.int x3), .val (.int x4), .val (.int x5), .val (.int (x0 &&& (2147483647 : Int32))), .val (.int (x1 &&& (2147483647 : Int32))), .val (.int (x2 &&& (2147483647 : Int32))), .val (.int (0 : Int32)), .val (.int (2 : Int32)), .val (.int (pk ((((x5).toUInt32 >>> ((4 : Int32) &&& 31).toUInt32).toInt32) &&& (3 : Int32)) (x0 &&& (2147483647 : Int32)) (x1 &&& (2147483647 : Int32)) (x2 &&& (2147483647 : Int32)) x3)), .val (.int (pk ((((x5).toUInt32 >>> ((6 : Int32) &&& 31).toUInt32).toInt32) &&& (3 : Int32)) (x0 &&& (2147483647 : Int32)) (x1 &&& (2147483647 : Int32)) (x2 &&& (2147483647 : Int32)) x4)), .val (.int (pk ((((x5).toUInt32 >>> ((8 : Int32) &&& 31).toUInt32).toInt32) &&& (3 : Int32)) (x0 &&& (2147483647 : Int32)) (x1 &&& (2147483647 : Int32)) (x2 &&& (2147483647 : Int32)) (x3 ^^^ x4))), .val (.ref b123), .val (.ref b131), .val (.int (0 : Int32))] rfl ?_
          refine Go.aload X147 hx (hb hby at_258) rfl rfl rfl ?_
          refine Go.aload X147 hx (hb hby at_260) rfl rfl rfl ?_
          refine Go.pureV X147 hx hZ hown (wd 39 rfl) (wd 40 rfl) (notFace_of_selects (args := #[]) (mvT hZ (wd 42 rfl))) (wd 42 rfl) (wd 41 rfl) (wd 8 rfl) (wd 43 rfl) (by decide) [(.ref b123)] [] Y137 (isAll2 l Z a0 hw b131 a_NONE b123 k123 (pk ((((x5).toUInt32 >>> ((4 : Int32) &&& 31).toUInt32).toInt32) &&& (3 : Int32)) (x0 &&& (2147483647 : Int32)) (x1 &&& (2147483647 : Int32)) (x2 &&& (2147483647 : Int32)) x3) (pk ((((x5).toUInt32 >>> ((6 : Int32) &&& 31).toUInt32).toInt32) &&& (3 : Int32)) (x0 &&& (2147483647 : Int32)) (x1 &&& (2147483647 : Int32)) (x2 &&& (2147483647 : Int32)) x4) ([] : List Int32) T137.heap Y137 R142.2.1 (rep_read4 R142 (Nat.le_trans (Nat.le_refl 0) (Nat.le_of_ble_eq_true rfl))) V140) e147 rfl (by rw [hml]; rfl) pd_6 rfl (hb hby at_262) (Nat.le_of_ble_eq_true rfl) (Nat.le_of_ble_eq_true rfl) (Nat.le_of_ble_eq_true rfl) (Nat.le_of_ble_eq_true rfl) ?_
          intro T149 X149 e149
          have B150 : (if (if (pk ((((x5).toUInt32 >>> ((4 : Int32) &&& 31).toUInt32).toInt32) &&& (3 : Int32)) (x0 &&& (2147483647 : Int32)) (x1 &&& (2147483647 : Int32)) (x2 &&& (2147483647 : Int32)) x3) ∈ ([] : List Int32) then 1 else 0 : Int32) = (0 : Int32) then (0 : Int32) else if (if (pk ((((x5).toUInt32 >>> ((6 : Int32) &&& 31).toUInt32).toInt32) &&& (3 : Int32)) (x0 &&& (2147483647 : Int32)) (x1 &&& (2147483647 : Int32)) (x2 &&& (2147483647 : Int32)) x4) ∈ ([] : List Int32) then 1 else 0 : Int32) = (0 : Int32) then (0 : Int32) else (1 : Int32)) = (0 : Int32) := by rw [if_neg hc144, if_pos hc148]
          show Go p e below _ T149 (mkF m 265 #[.val (.int x0), .val (.int x1), .val (.int x2), .val (.int x3), .val (.int x4), .val (.int x5), .val (.int (x0 &&& (2147483647 : Int32))), .val (.int (x1 &&& (2147483647 : Int32))), .val (.int (x2 &&& (2147483647 : Int32))), .val (.int (0 : Int32)), .val (.int (2 : Int32)), .val (.int (pk ((((x5).toUInt32 >>> ((4 : Int32) &&& 31).toUInt32).toInt32) &&& (3 : Int32)) (x0 &&& (2147483647 : Int32)) (x1 &&& (2147483647 : Int32)) (x2 &&& (2147483647 : Int32)) x3)), .val (.int (pk ((((x5).toUInt32 >>> ((6 : Int32) &&& 31).toUInt32).toInt32) &&& (3 : Int32)) (x0 &&& (2147483647 : Int32)) (x1 &&& (2147483647 : Int32)) (x2 &&& (2147483647 : Int32)) x4)), .val (.int (pk ((((x5).toUInt32 >>> ((8 : Int32) &&& 31).toUInt32).toInt32) &&& (3 : Int32)) (x0 &&& (2147483647 : Int32)) (x1 &&& (2147483647 : Int32)) (x2 &&& (2147483647 : Int32)) (x3 ^^^ x4))), .val (.ref b123), .val (.ref b131), .val (.int (0 : Int32))] [(.int (if (if (pk ((((x5).toUInt32 >>> ((4 : Int32) &&& 31).toUInt32).toInt32) &&& (3 : Int32)) (x0 &&& (2147483647 : Int32)) (x1 &&& (2147483647 : Int32)) (x2 &&& (2147483647 : Int32)) x3) ∈ ([] : List Int32) then 1 else 0 : Int32) = (0 : Int32) then (0 : Int32) else if (if (pk ((((x5).toUInt32 >>> ((6 : Int32) &&& 31).toUInt32).toInt32) &&& (3 : Int32)) (x0 &&& (2147483647 : Int32)) (x1 &&& (2147483647 : Int32)) (x2 &&& (2147483647 : Int32)) x4) ∈ ([] : List Int32) then 1 else 0 : Int32) = (0 : Int32) then (0 : Int32) else (1 : Int32)))])
          refine Go.iload X149 hx (hb hby at_265) rfl rfl  ?_
          refine Go.icmpNo X149 hx (hb hby at_267) rfl (teq B150).2 ?_
          refine Go.iconst X149 hx (hb hby at_270) rfl (1 : Int32) rfl ?_
          refine Go.goto X149 hx (hb hby at_271) rfl 275 (by decide) (by decide) ?_
          exact Go.retZ X149 hx (z' := (1 : Int32)) hret hlk (hb hby at_275) rfl (by decide) ⟨by first | rfl | simp [hc144, hc148], M138⟩ (Nat.le_of_ble_eq_true rfl) (Nat.le_of_ble_eq_true rfl)
        · refine Go.ifNo X147 hx (hb hby at_226) rfl ((if0 _ _).trans (feq hc148).1) ?_
          refine Go.iload X147 hx (hb hby at_229) rfl rfl  ?_
          refine Go.iconst X147 hx (hb hby at_231) rfl (3 : Int32) rfl ?_
          refine Go.icmpYes X147 hx (hb hby at_232) rfl 251 (tlt (by decide : (2 : Int32) < (3 : Int32))).1 (by decide) (by decide) ?_
          refine Go.iconst X147 hx (hb hby at_251) rfl (1 : Int32) rfl ?_
          refine Go.goto X147 hx (hb hby at_252) rfl 256 (by decide) (by decide) ?_
          refine Go.istore X147 hx (hb hby at_256) rfl  #[.val (.int x0), .val (.int x1), .val (.int x2), .val (.int x3), .val (.int x4), .val (.int x5), .val (.int (x0 &&& (2147483647 : Int32))), .val (.int (x1 &&& (2147483647 : Int32))), .val (.int (x2 &&& (2147483647 : Int32))), .val (.int (0 : Int32)), .val (.int (2 : Int32)), .val (.int (pk ((((x5).toUInt32 >>> ((4 : Int32) &&& 31).toUInt32).toInt32) &&& (3 : Int32)) (x0 &&& (2147483647 : Int32)) (x1 &&& (2147483647 : Int32)) (x2 &&& (2147483647 : Int32)) x3)), .val (.int (pk ((((x5).toUInt32 >>> ((6 : Int32) &&& 31).toUInt32).toInt32) &&& (3 : Int32)) (x0 &&& (2147483647 : Int32)) (x1 &&& (2147483647 : Int32)) (x2 &&& (2147483647 : Int32)) x4)), .val (.int (pk ((((x5).toUInt32 >>> ((8 : Int32) &&& 31).toUInt32).toInt32) &&& (3 : Int32)) (x0 &&& (2147483647 : Int32)) (x1 &&& (2147483647 : Int32)) (x2 &&& (2147483647 : Int32)) (x3 ^^^ x4))), .val (.ref b123), .val (.ref b131), .val (.int (1 : Int32))] rfl ?_
          refine Go.aload X147 hx (hb hby at_258) rfl rfl rfl ?_
          refine Go.aload X147 hx (hb hby at_260) rfl rfl rfl ?_
          refine Go.pureV X147 hx hZ hown (wd 39 rfl) (wd 40 rfl) (notFace_of_selects (args := #[]) (mvT hZ (wd 42 rfl))) (wd 42 rfl) (wd 41 rfl) (wd 8 rfl) (wd 43 rfl) (by decide) [(.ref b123)] [] Y137 (isAll2 l Z a0 hw b131 a_NONE b123 k123 (pk ((((x5).toUInt32 >>> ((4 : Int32) &&& 31).toUInt32).toInt32) &&& (3 : Int32)) (x0 &&& (2147483647 : Int32)) (x1 &&& (2147483647 : Int32)) (x2 &&& (2147483647 : Int32)) x3) (pk ((((x5).toUInt32 >>> ((6 : Int32) &&& 31).toUInt32).toInt32) &&& (3 : Int32)) (x0 &&& (2147483647 : Int32)) (x1 &&& (2147483647 : Int32)) (x2 &&& (2147483647 : Int32)) x4) ([] : List Int32) T137.heap Y137 R142.2.1 (rep_read4 R142 (Nat.le_trans (Nat.le_refl 0) (Nat.le_of_ble_eq_true rfl))) V140) e147 rfl (by rw [hml]; rfl) pd_6 rfl (hb hby at_262) (Nat.le_of_ble_eq_true rfl) (Nat.le_of_ble_eq_true rfl) (Nat.le_of_ble_eq_true rfl) (Nat.le_of_ble_eq_true rfl) ?_
          intro T151 X151 e151
          have B152 : (if (if (pk ((((x5).toUInt32 >>> ((4 : Int32) &&& 31).toUInt32).toInt32) &&& (3 : Int32)) (x0 &&& (2147483647 : Int32)) (x1 &&& (2147483647 : Int32)) (x2 &&& (2147483647 : Int32)) x3) ∈ ([] : List Int32) then 1 else 0 : Int32) = (0 : Int32) then (0 : Int32) else if (if (pk ((((x5).toUInt32 >>> ((6 : Int32) &&& 31).toUInt32).toInt32) &&& (3 : Int32)) (x0 &&& (2147483647 : Int32)) (x1 &&& (2147483647 : Int32)) (x2 &&& (2147483647 : Int32)) x4) ∈ ([] : List Int32) then 1 else 0 : Int32) = (0 : Int32) then (0 : Int32) else (1 : Int32)) = (1 : Int32) := by rw [if_neg hc144, if_neg hc148]
          show Go p e below _ T151 (mkF m 265 #[.val (.int x0), .val (.int x1), .val (.int x2), .val (.int x3), .val (.int x4), .val (.int x5), .val (.int (x0 &&& (2147483647 : Int32))), .val (.int (x1 &&& (2147483647 : Int32))), .val (.int (x2 &&& (2147483647 : Int32))), .val (.int (0 : Int32)), .val (.int (2 : Int32)), .val (.int (pk ((((x5).toUInt32 >>> ((4 : Int32) &&& 31).toUInt32).toInt32) &&& (3 : Int32)) (x0 &&& (2147483647 : Int32)) (x1 &&& (2147483647 : Int32)) (x2 &&& (2147483647 : Int32)) x3)), .val (.int (pk ((((x5).toUInt32 >>> ((6 : Int32) &&& 31).toUInt32).toInt32) &&& (3 : Int32)) (x0 &&& (2147483647 : Int32)) (x1 &&& (2147483647 : Int32)) (x2 &&& (2147483647 : Int32)) x4)), .val (.int (pk ((((x5).toUInt32 >>> ((8 : Int32) &&& 31).toUInt32).toInt32) &&& (3 : Int32)) (x0 &&& (2147483647 : Int32)) (x1 &&& (2147483647 : Int32)) (x2 &&& (2147483647 : Int32)) (x3 ^^^ x4))), .val (.ref b123), .val (.ref b131), .val (.int (1 : Int32))] [(.int (if (if (pk ((((x5).toUInt32 >>> ((4 : Int32) &&& 31).toUInt32).toInt32) &&& (3 : Int32)) (x0 &&& (2147483647 : Int32)) (x1 &&& (2147483647 : Int32)) (x2 &&& (2147483647 : Int32)) x3) ∈ ([] : List Int32) then 1 else 0 : Int32) = (0 : Int32) then (0 : Int32) else if (if (pk ((((x5).toUInt32 >>> ((6 : Int32) &&& 31).toUInt32).toInt32) &&& (3 : Int32)) (x0 &&& (2147483647 : Int32)) (x1 &&& (2147483647 : Int32)) (x2 &&& (2147483647 : Int32)) x4) ∈ ([] : List Int32) then 1 else 0 : Int32) = (0 : Int32) then (0 : Int32) else (1 : Int32)))])
          refine Go.iload X151 hx (hb hby at_265) rfl rfl  ?_
          refine Go.icmpNo X151 hx (hb hby at_267) rfl (teq B152).2 ?_
          refine Go.iconst X151 hx (hb hby at_270) rfl (1 : Int32) rfl ?_
          refine Go.goto X151 hx (hb hby at_271) rfl 275 (by decide) (by decide) ?_
          exact Go.retZ X151 hx (z' := (1 : Int32)) hret hlk (hb hby at_275) rfl (by decide) ⟨by first | rfl | simp [hc144, hc148], M138⟩ (Nat.le_of_ble_eq_true rfl) (Nat.le_of_ble_eq_true rfl)
    · rw [hk]
      refine Go.iload X137 hx (hb hby at_143) rfl rfl  ?_
      refine Go.iconst X137 hx (hb hby at_145) rfl (1 : Int32) rfl ?_
      refine Go.icmpNo X137 hx (hb hby at_146) rfl (flt (by decide : ¬ ((1 : Int32) < (1 : Int32)))).1 ?_
      refine Go.aload X137 hx (hb hby at_149) rfl rfl rfl ?_
      refine Go.iload X137 hx (hb hby at_151) rfl rfl  ?_
      refine Go.callV X137 hx hZ hown (wd 21 rfl) (wd 22 rfl) (notFace_of_selects (args := #[]) (mvT hZ (wd 24 rfl))) (wd 24 rfl) (wd 23 rfl) (wd 8 rfl) (wd 25 rfl) (by decide) [(.int (x0 &&& (2147483647 : Int32)))] [] Y137 (isAddR l Z a0 hw b131 (x0 &&& (2147483647 : Int32)) a_NONE k_NONE ([] : List Int32) T137.heap O139 FF R142 (own_nn x0) (Nat.le_trans (Nat.le_refl 0) (Nat.le_of_ble_eq_true rfl))) rfl rfl (by rw [hml]; rfl) pd_3 rfl (hb hby at_153) (Nat.le_of_ble_eq_true rfl) (Nat.le_of_ble_eq_true rfl) (Nat.le_of_ble_eq_true rfl) (Nat.le_of_ble_eq_true rfl) ?_
      rintro vv153 T153 L153 X153 Q153
      obtain ⟨rfl, N153, B153, R153⟩ := Q153
      have M154 := Fr.app M138 N153
      have O155 := Blw.old B153 q131 O139
      have V156 := Arv.blw V140 B153 (Nat.lt_of_lt_of_le V128.lt (Nat.le_of_eq g131.symm))
      have E157 := R153.2.2.1
      refine Go.pop X153 hx (hb hby at_156) rfl rfl ?_
      refine Go.iload X153 hx (hb hby at_157) rfl rfl  ?_
      refine Go.iconst X153 hx (hb hby at_159) rfl (2 : Int32) rfl ?_
      refine Go.icmpYes X153 hx (hb hby at_160) rfl 171 (tlt (by decide : (1 : Int32) < (2 : Int32))).1 (by decide) (by decide) ?_
      refine Go.iload X153 hx (hb hby at_171) rfl rfl  ?_
      refine Go.iconst X153 hx (hb hby at_173) rfl (3 : Int32) rfl ?_
      refine Go.icmpYes X153 hx (hb hby at_174) rfl 185 (tlt (by decide : (1 : Int32) < (3 : Int32))).1 (by decide) (by decide) ?_
      show Go p e below _ T153 (mkF m 185 #[.val (.int x0), .val (.int x1), .val (.int x2), .val (.int x3), .val (.int x4), .val (.int x5), .val (.int (x0 &&& (2147483647 : Int32))), .val (.int (x1 &&& (2147483647 : Int32))), .val (.int (x2 &&& (2147483647 : Int32))), .val (.int (1 : Int32)), .val (.int (2 : Int32)), .val (.int (pk ((((x5).toUInt32 >>> ((4 : Int32) &&& 31).toUInt32).toInt32) &&& (3 : Int32)) (x0 &&& (2147483647 : Int32)) (x1 &&& (2147483647 : Int32)) (x2 &&& (2147483647 : Int32)) x3)), .val (.int (pk ((((x5).toUInt32 >>> ((6 : Int32) &&& 31).toUInt32).toInt32) &&& (3 : Int32)) (x0 &&& (2147483647 : Int32)) (x1 &&& (2147483647 : Int32)) (x2 &&& (2147483647 : Int32)) x4)), .val (.int (pk ((((x5).toUInt32 >>> ((8 : Int32) &&& 31).toUInt32).toInt32) &&& (3 : Int32)) (x0 &&& (2147483647 : Int32)) (x1 &&& (2147483647 : Int32)) (x2 &&& (2147483647 : Int32)) (x3 ^^^ x4))), .val (.ref b123), .val (.ref b131), .unset] [])
      refine Go.iload X153 hx (hb hby at_185) rfl rfl  ?_
      refine Go.iconst X153 hx (hb hby at_187) rfl (1 : Int32) rfl ?_
      refine Go.icmpNo X153 hx (hb hby at_188) rfl (flt (by decide : ¬ ((2 : Int32) < (1 : Int32)))).1 ?_
      refine Go.iload X153 hx (hb hby at_191) rfl rfl  ?_
      refine Go.iload X153 hx (hb hby at_193) rfl rfl  ?_
      refine Go.iload X153 hx (hb hby at_195) rfl rfl  ?_
      refine Go.iload X153 hx (hb hby at_197) rfl rfl  ?_
      refine Go.iload X153 hx (hb hby at_199) rfl rfl  ?_
      refine Go.pureS X153 hx hZ hown (wd 44 rfl) (wd 45 rfl) (wd 3 rfl) (wd 46 rfl) (by decide) [(.int (pk ((((x5).toUInt32 >>> ((4 : Int32) &&& 31).toUInt32).toInt32) &&& (3 : Int32)) (x0 &&& (2147483647 : Int32)) (x1 &&& (2147483647 : Int32)) (x2 &&& (2147483647 : Int32)) x3)), (.int (1 : Int32)), (.int (x0 &&& (2147483647 : Int32))), (.int (x1 &&& (2147483647 : Int32))), (.int (x2 &&& (2147483647 : Int32)))] [] (lwIn1 l Z a0 hw (pk ((((x5).toUInt32 >>> ((4 : Int32) &&& 31).toUInt32).toInt32) &&& (3 : Int32)) (x0 &&& (2147483647 : Int32)) (x1 &&& (2147483647 : Int32)) (x2 &&& (2147483647 : Int32)) x3) (x0 &&& (2147483647 : Int32)) (x1 &&& (2147483647 : Int32)) (x2 &&& (2147483647 : Int32)) T153.heap) rfl rfl (by rw [hml]; rfl) pd_7 rfl (hb hby at_201) (Nat.le_of_ble_eq_true rfl) (Nat.le_of_ble_eq_true rfl) (Nat.le_of_ble_eq_true rfl) (Nat.le_of_ble_eq_true rfl) ?_
      intro T158 X158 e158
      by_cases hc159 : (if (pk ((((x5).toUInt32 >>> ((4 : Int32) &&& 31).toUInt32).toInt32) &&& (3 : Int32)) (x0 &&& (2147483647 : Int32)) (x1 &&& (2147483647 : Int32)) (x2 &&& (2147483647 : Int32)) x3) ∈ (addL ([] : List Int32) (x0 &&& (2147483647 : Int32))) then 1 else 0 : Int32) = (0 : Int32)
      · refine Go.ifYes X158 hx (hb hby at_204) rfl 255 ((if0 _ _).trans (teq hc159).1) (by decide) (by decide) ?_
        refine Go.iconst X158 hx (hb hby at_255) rfl (0 : Int32) rfl ?_
        refine Go.istore X158 hx (hb hby at_256) rfl  #[.val (.int x0), .val (.int x1), .val (.int x2), .val (.int x3), .val (.int x4), .val (.int x5), .val (.int (x0 &&& (2147483647 : Int32))), .val (.int (x1 &&& (2147483647 : Int32))), .val (.int (x2 &&& (2147483647 : Int32))), .val (.int (1 : Int32)), .val (.int (2 : Int32)), .val (.int (pk ((((x5).toUInt32 >>> ((4 : Int32) &&& 31).toUInt32).toInt32) &&& (3 : Int32)) (x0 &&& (2147483647 : Int32)) (x1 &&& (2147483647 : Int32)) (x2 &&& (2147483647 : Int32)) x3)), .val (.int (pk ((((x5).toUInt32 >>> ((6 : Int32) &&& 31).toUInt32).toInt32) &&& (3 : Int32)) (x0 &&& (2147483647 : Int32)) (x1 &&& (2147483647 : Int32)) (x2 &&& (2147483647 : Int32)) x4)), .val (.int (pk ((((x5).toUInt32 >>> ((8 : Int32) &&& 31).toUInt32).toInt32) &&& (3 : Int32)) (x0 &&& (2147483647 : Int32)) (x1 &&& (2147483647 : Int32)) (x2 &&& (2147483647 : Int32)) (x3 ^^^ x4))), .val (.ref b123), .val (.ref b131), .val (.int (0 : Int32))] rfl ?_
        refine Go.aload X158 hx (hb hby at_258) rfl rfl rfl ?_
        refine Go.aload X158 hx (hb hby at_260) rfl rfl rfl ?_
        refine Go.pureV X158 hx hZ hown (wd 39 rfl) (wd 40 rfl) (notFace_of_selects (args := #[]) (mvT hZ (wd 42 rfl))) (wd 42 rfl) (wd 41 rfl) (wd 8 rfl) (wd 43 rfl) (by decide) [(.ref b123)] [] E157 (isAll2 l Z a0 hw b131 a_NONE b123 k123 (pk ((((x5).toUInt32 >>> ((4 : Int32) &&& 31).toUInt32).toInt32) &&& (3 : Int32)) (x0 &&& (2147483647 : Int32)) (x1 &&& (2147483647 : Int32)) (x2 &&& (2147483647 : Int32)) x3) (pk ((((x5).toUInt32 >>> ((6 : Int32) &&& 31).toUInt32).toInt32) &&& (3 : Int32)) (x0 &&& (2147483647 : Int32)) (x1 &&& (2147483647 : Int32)) (x2 &&& (2147483647 : Int32)) x4) (addL ([] : List Int32) (x0 &&& (2147483647 : Int32))) T153.heap E157 R153.2.1 (rep_read4 R153 (Nat.le_trans (Nat.le_trans (addL_len _ _) (Nat.succ_le_succ (Nat.le_refl 0))) (Nat.le_of_ble_eq_true rfl))) V156) e158 rfl (by rw [hml]; rfl) pd_6 rfl (hb hby at_262) (Nat.le_of_ble_eq_true rfl) (Nat.le_of_ble_eq_true rfl) (Nat.le_of_ble_eq_true rfl) (Nat.le_of_ble_eq_true rfl) ?_
        intro T160 X160 e160
        have B161 : (if (if (pk ((((x5).toUInt32 >>> ((4 : Int32) &&& 31).toUInt32).toInt32) &&& (3 : Int32)) (x0 &&& (2147483647 : Int32)) (x1 &&& (2147483647 : Int32)) (x2 &&& (2147483647 : Int32)) x3) ∈ (addL ([] : List Int32) (x0 &&& (2147483647 : Int32))) then 1 else 0 : Int32) = (0 : Int32) then (0 : Int32) else if (if (pk ((((x5).toUInt32 >>> ((6 : Int32) &&& 31).toUInt32).toInt32) &&& (3 : Int32)) (x0 &&& (2147483647 : Int32)) (x1 &&& (2147483647 : Int32)) (x2 &&& (2147483647 : Int32)) x4) ∈ (addL ([] : List Int32) (x0 &&& (2147483647 : Int32))) then 1 else 0 : Int32) = (0 : Int32) then (0 : Int32) else (1 : Int32)) = (0 : Int32) := by rw [if_pos hc159]
        show Go p e below _ T160 (mkF m 265 #[.val (.int x0), .val (.int x1), .val (.int x2), .val (.int x3), .val (.int x4), .val (.int x5), .val (.int (x0 &&& (2147483647 : Int32))), .val (.int (x1 &&& (2147483647 : Int32))), .val (.int (x2 &&& (2147483647 : Int32))), .val (.int (1 : Int32)), .val (.int (2 : Int32)), .val (.int (pk ((((x5).toUInt32 >>> ((4 : Int32) &&& 31).toUInt32).toInt32) &&& (3 : Int32)) (x0 &&& (2147483647 : Int32)) (x1 &&& (2147483647 : Int32)) (x2 &&& (2147483647 : Int32)) x3)), .val (.int (pk ((((x5).toUInt32 >>> ((6 : Int32) &&& 31).toUInt32).toInt32) &&& (3 : Int32)) (x0 &&& (2147483647 : Int32)) (x1 &&& (2147483647 : Int32)) (x2 &&& (2147483647 : Int32)) x4)), .val (.int (pk ((((x5).toUInt32 >>> ((8 : Int32) &&& 31).toUInt32).toInt32) &&& (3 : Int32)) (x0 &&& (2147483647 : Int32)) (x1 &&& (2147483647 : Int32)) (x2 &&& (2147483647 : Int32)) (x3 ^^^ x4))), .val (.ref b123), .val (.ref b131), .val (.int (0 : Int32))] [(.int (if (if (pk ((((x5).toUInt32 >>> ((4 : Int32) &&& 31).toUInt32).toInt32) &&& (3 : Int32)) (x0 &&& (2147483647 : Int32)) (x1 &&& (2147483647 : Int32)) (x2 &&& (2147483647 : Int32)) x3) ∈ (addL ([] : List Int32) (x0 &&& (2147483647 : Int32))) then 1 else 0 : Int32) = (0 : Int32) then (0 : Int32) else if (if (pk ((((x5).toUInt32 >>> ((6 : Int32) &&& 31).toUInt32).toInt32) &&& (3 : Int32)) (x0 &&& (2147483647 : Int32)) (x1 &&& (2147483647 : Int32)) (x2 &&& (2147483647 : Int32)) x4) ∈ (addL ([] : List Int32) (x0 &&& (2147483647 : Int32))) then 1 else 0 : Int32) = (0 : Int32) then (0 : Int32) else (1 : Int32)))])
        refine Go.iload X160 hx (hb hby at_265) rfl rfl  ?_
        refine Go.icmpNo X160 hx (hb hby at_267) rfl (teq B161).2 ?_
        refine Go.iconst X160 hx (hb hby at_270) rfl (1 : Int32) rfl ?_
        refine Go.goto X160 hx (hb hby at_271) rfl 275 (by decide) (by decide) ?_
        exact Go.retZ X160 hx (z' := (1 : Int32)) hret hlk (hb hby at_275) rfl (by decide) ⟨by first | rfl | simp [hc159], M154⟩ (Nat.le_of_ble_eq_true rfl) (Nat.le_of_ble_eq_true rfl)
      · refine Go.ifNo X158 hx (hb hby at_204) rfl ((if0 _ _).trans (feq hc159).1) ?_
        refine Go.iload X158 hx (hb hby at_207) rfl rfl  ?_
        refine Go.iconst X158 hx (hb hby at_209) rfl (2 : Int32) rfl ?_
        refine Go.icmpNo X158 hx (hb hby at_210) rfl (flt (by decide : ¬ ((2 : Int32) < (2 : Int32)))).1 ?_
        refine Go.iload X158 hx (hb hby at_213) rfl rfl  ?_
        refine Go.iload X158 hx (hb hby at_215) rfl rfl  ?_
        refine Go.iload X158 hx (hb hby at_217) rfl rfl  ?_
        refine Go.iload X158 hx (hb hby at_219) rfl rfl  ?_
        refine Go.iload X158 hx (hb hby at_221) rfl rfl  ?_
        refine Go.pureS X158 hx hZ hown (wd 44 rfl) (wd 45 rfl) (wd 3 rfl) (wd 46 rfl) (by decide) [(.int (pk ((((x5).toUInt32 >>> ((6 : Int32) &&& 31).toUInt32).toInt32) &&& (3 : Int32)) (x0 &&& (2147483647 : Int32)) (x1 &&& (2147483647 : Int32)) (x2 &&& (2147483647 : Int32)) x4)), (.int (1 : Int32)), (.int (x0 &&& (2147483647 : Int32))), (.int (x1 &&& (2147483647 : Int32))), (.int (x2 &&& (2147483647 : Int32)))] [] (lwIn1 l Z a0 hw (pk ((((x5).toUInt32 >>> ((6 : Int32) &&& 31).toUInt32).toInt32) &&& (3 : Int32)) (x0 &&& (2147483647 : Int32)) (x1 &&& (2147483647 : Int32)) (x2 &&& (2147483647 : Int32)) x4) (x0 &&& (2147483647 : Int32)) (x1 &&& (2147483647 : Int32)) (x2 &&& (2147483647 : Int32)) T153.heap) e158 rfl (by rw [hml]; rfl) pd_7 rfl (hb hby at_223) (Nat.le_of_ble_eq_true rfl) (Nat.le_of_ble_eq_true rfl) (Nat.le_of_ble_eq_true rfl) (Nat.le_of_ble_eq_true rfl) ?_
        intro T162 X162 e162
        by_cases hc163 : (if (pk ((((x5).toUInt32 >>> ((6 : Int32) &&& 31).toUInt32).toInt32) &&& (3 : Int32)) (x0 &&& (2147483647 : Int32)) (x1 &&& (2147483647 : Int32)) (x2 &&& (2147483647 : Int32)) x4) ∈ (addL ([] : List Int32) (x0 &&& (2147483647 : Int32))) then 1 else 0 : Int32) = (0 : Int32)
        · refine Go.ifYes X162 hx (hb hby at_226) rfl 255 ((if0 _ _).trans (teq hc163).1) (by decide) (by decide) ?_
          refine Go.iconst X162 hx (hb hby at_255) rfl (0 : Int32) rfl ?_
          refine Go.istore X162 hx (hb hby at_256) rfl  #[.val (.int x0), .val (.int x1), .val (.int x2), .val (.int x3), .val (.int x4), .val (.int x5), .val (.int (x0 &&& (2147483647 : Int32))), .val (.int (x1 &&& (2147483647 : Int32))), .val (.int (x2 &&& (2147483647 : Int32))), .val (.int (1 : Int32)), .val (.int (2 : Int32)), .val (.int (pk ((((x5).toUInt32 >>> ((4 : Int32) &&& 31).toUInt32).toInt32) &&& (3 : Int32)) (x0 &&& (2147483647 : Int32)) (x1 &&& (2147483647 : Int32)) (x2 &&& (2147483647 : Int32)) x3)), .val (.int (pk ((((x5).toUInt32 >>> ((6 : Int32) &&& 31).toUInt32).toInt32) &&& (3 : Int32)) (x0 &&& (2147483647 : Int32)) (x1 &&& (2147483647 : Int32)) (x2 &&& (2147483647 : Int32)) x4)), .val (.int (pk ((((x5).toUInt32 >>> ((8 : Int32) &&& 31).toUInt32).toInt32) &&& (3 : Int32)) (x0 &&& (2147483647 : Int32)) (x1 &&& (2147483647 : Int32)) (x2 &&& (2147483647 : Int32)) (x3 ^^^ x4))), .val (.ref b123), .val (.ref b131), .val (.int (0 : Int32))] rfl ?_
          refine Go.aload X162 hx (hb hby at_258) rfl rfl rfl ?_
          refine Go.aload X162 hx (hb hby at_260) rfl rfl rfl ?_
          refine Go.pureV X162 hx hZ hown (wd 39 rfl) (wd 40 rfl) (notFace_of_selects (args := #[]) (mvT hZ (wd 42 rfl))) (wd 42 rfl) (wd 41 rfl) (wd 8 rfl) (wd 43 rfl) (by decide) [(.ref b123)] [] E157 (isAll2 l Z a0 hw b131 a_NONE b123 k123 (pk ((((x5).toUInt32 >>> ((4 : Int32) &&& 31).toUInt32).toInt32) &&& (3 : Int32)) (x0 &&& (2147483647 : Int32)) (x1 &&& (2147483647 : Int32)) (x2 &&& (2147483647 : Int32)) x3) (pk ((((x5).toUInt32 >>> ((6 : Int32) &&& 31).toUInt32).toInt32) &&& (3 : Int32)) (x0 &&& (2147483647 : Int32)) (x1 &&& (2147483647 : Int32)) (x2 &&& (2147483647 : Int32)) x4) (addL ([] : List Int32) (x0 &&& (2147483647 : Int32))) T153.heap E157 R153.2.1 (rep_read4 R153 (Nat.le_trans (Nat.le_trans (addL_len _ _) (Nat.succ_le_succ (Nat.le_refl 0))) (Nat.le_of_ble_eq_true rfl))) V156) e162 rfl (by rw [hml]; rfl) pd_6 rfl (hb hby at_262) (Nat.le_of_ble_eq_true rfl) (Nat.le_of_ble_eq_true rfl) (Nat.le_of_ble_eq_true rfl) (Nat.le_of_ble_eq_true rfl) ?_
          intro T164 X164 e164
          have B165 : (if (if (pk ((((x5).toUInt32 >>> ((4 : Int32) &&& 31).toUInt32).toInt32) &&& (3 : Int32)) (x0 &&& (2147483647 : Int32)) (x1 &&& (2147483647 : Int32)) (x2 &&& (2147483647 : Int32)) x3) ∈ (addL ([] : List Int32) (x0 &&& (2147483647 : Int32))) then 1 else 0 : Int32) = (0 : Int32) then (0 : Int32) else if (if (pk ((((x5).toUInt32 >>> ((6 : Int32) &&& 31).toUInt32).toInt32) &&& (3 : Int32)) (x0 &&& (2147483647 : Int32)) (x1 &&& (2147483647 : Int32)) (x2 &&& (2147483647 : Int32)) x4) ∈ (addL ([] : List Int32) (x0 &&& (2147483647 : Int32))) then 1 else 0 : Int32) = (0 : Int32) then (0 : Int32) else (1 : Int32)) = (0 : Int32) := by rw [if_neg hc159, if_pos hc163]
          show Go p e below _ T164 (mkF m 265 #[.val (.int x0), .val (.int x1), .val (.int x2), .val (.int x3), .val (.int x4), .val (.int x5), .val (.int (x0 &&& (2147483647 : Int32))), .val (.int (x1 &&& (2147483647 : Int32))), .val (.int (x2 &&& (2147483647 : Int32))), .val (.int (1 : Int32)), .val (.int (2 : Int32)), .val (.int (pk ((((x5).toUInt32 >>> ((4 : Int32) &&& 31).toUInt32).toInt32) &&& (3 : Int32)) (x0 &&& (2147483647 : Int32)) (x1 &&& (2147483647 : Int32)) (x2 &&& (2147483647 : Int32)) x3)), .val (.int (pk ((((x5).toUInt32 >>> ((6 : Int32) &&& 31).toUInt32).toInt32) &&& (3 : Int32)) (x0 &&& (2147483647 : Int32)) (x1 &&& (2147483647 : Int32)) (x2 &&& (2147483647 : Int32)) x4)), .val (.int (pk ((((x5).toUInt32 >>> ((8 : Int32) &&& 31).toUInt32).toInt32) &&& (3 : Int32)) (x0 &&& (2147483647 : Int32)) (x1 &&& (2147483647 : Int32)) (x2 &&& (2147483647 : Int32)) (x3 ^^^ x4))), .val (.ref b123), .val (.ref b131), .val (.int (0 : Int32))] [(.int (if (if (pk ((((x5).toUInt32 >>> ((4 : Int32) &&& 31).toUInt32).toInt32) &&& (3 : Int32)) (x0 &&& (2147483647 : Int32)) (x1 &&& (2147483647 : Int32)) (x2 &&& (2147483647 : Int32)) x3) ∈ (addL ([] : List Int32) (x0 &&& (2147483647 : Int32))) then 1 else 0 : Int32) = (0 : Int32) then (0 : Int32) else if (if (pk ((((x5).toUInt32 >>> ((6 : Int32) &&& 31).toUInt32).toInt32) &&& (3 : Int32)) (x0 &&& (2147483647 : Int32)) (x1 &&& (2147483647 : Int32)) (x2 &&& (2147483647 : Int32)) x4) ∈ (addL ([] : List Int32) (x0 &&& (2147483647 : Int32))) then 1 else 0 : Int32) = (0 : Int32) then (0 : Int32) else (1 : Int32)))])
          refine Go.iload X164 hx (hb hby at_265) rfl rfl  ?_
          refine Go.icmpNo X164 hx (hb hby at_267) rfl (teq B165).2 ?_
          refine Go.iconst X164 hx (hb hby at_270) rfl (1 : Int32) rfl ?_
          refine Go.goto X164 hx (hb hby at_271) rfl 275 (by decide) (by decide) ?_
          exact Go.retZ X164 hx (z' := (1 : Int32)) hret hlk (hb hby at_275) rfl (by decide) ⟨by first | rfl | simp [hc159, hc163], M154⟩ (Nat.le_of_ble_eq_true rfl) (Nat.le_of_ble_eq_true rfl)
        · refine Go.ifNo X162 hx (hb hby at_226) rfl ((if0 _ _).trans (feq hc163).1) ?_
          refine Go.iload X162 hx (hb hby at_229) rfl rfl  ?_
          refine Go.iconst X162 hx (hb hby at_231) rfl (3 : Int32) rfl ?_
          refine Go.icmpYes X162 hx (hb hby at_232) rfl 251 (tlt (by decide : (2 : Int32) < (3 : Int32))).1 (by decide) (by decide) ?_
          refine Go.iconst X162 hx (hb hby at_251) rfl (1 : Int32) rfl ?_
          refine Go.goto X162 hx (hb hby at_252) rfl 256 (by decide) (by decide) ?_
          refine Go.istore X162 hx (hb hby at_256) rfl  #[.val (.int x0), .val (.int x1), .val (.int x2), .val (.int x3), .val (.int x4), .val (.int x5), .val (.int (x0 &&& (2147483647 : Int32))), .val (.int (x1 &&& (2147483647 : Int32))), .val (.int (x2 &&& (2147483647 : Int32))), .val (.int (1 : Int32)), .val (.int (2 : Int32)), .val (.int (pk ((((x5).toUInt32 >>> ((4 : Int32) &&& 31).toUInt32).toInt32) &&& (3 : Int32)) (x0 &&& (2147483647 : Int32)) (x1 &&& (2147483647 : Int32)) (x2 &&& (2147483647 : Int32)) x3)), .val (.int (pk ((((x5).toUInt32 >>> ((6 : Int32) &&& 31).toUInt32).toInt32) &&& (3 : Int32)) (x0 &&& (2147483647 : Int32)) (x1 &&& (2147483647 : Int32)) (x2 &&& (2147483647 : Int32)) x4)), .val (.int (pk ((((x5).toUInt32 >>> ((8 : Int32) &&& 31).toUInt32).toInt32) &&& (3 : Int32)) (x0 &&& (2147483647 : Int32)) (x1 &&& (2147483647 : Int32)) (x2 &&& (2147483647 : Int32)) (x3 ^^^ x4))), .val (.ref b123), .val (.ref b131), .val (.int (1 : Int32))] rfl ?_
          refine Go.aload X162 hx (hb hby at_258) rfl rfl rfl ?_
          refine Go.aload X162 hx (hb hby at_260) rfl rfl rfl ?_
          refine Go.pureV X162 hx hZ hown (wd 39 rfl) (wd 40 rfl) (notFace_of_selects (args := #[]) (mvT hZ (wd 42 rfl))) (wd 42 rfl) (wd 41 rfl) (wd 8 rfl) (wd 43 rfl) (by decide) [(.ref b123)] [] E157 (isAll2 l Z a0 hw b131 a_NONE b123 k123 (pk ((((x5).toUInt32 >>> ((4 : Int32) &&& 31).toUInt32).toInt32) &&& (3 : Int32)) (x0 &&& (2147483647 : Int32)) (x1 &&& (2147483647 : Int32)) (x2 &&& (2147483647 : Int32)) x3) (pk ((((x5).toUInt32 >>> ((6 : Int32) &&& 31).toUInt32).toInt32) &&& (3 : Int32)) (x0 &&& (2147483647 : Int32)) (x1 &&& (2147483647 : Int32)) (x2 &&& (2147483647 : Int32)) x4) (addL ([] : List Int32) (x0 &&& (2147483647 : Int32))) T153.heap E157 R153.2.1 (rep_read4 R153 (Nat.le_trans (Nat.le_trans (addL_len _ _) (Nat.succ_le_succ (Nat.le_refl 0))) (Nat.le_of_ble_eq_true rfl))) V156) e162 rfl (by rw [hml]; rfl) pd_6 rfl (hb hby at_262) (Nat.le_of_ble_eq_true rfl) (Nat.le_of_ble_eq_true rfl) (Nat.le_of_ble_eq_true rfl) (Nat.le_of_ble_eq_true rfl) ?_
          intro T166 X166 e166
          have B167 : (if (if (pk ((((x5).toUInt32 >>> ((4 : Int32) &&& 31).toUInt32).toInt32) &&& (3 : Int32)) (x0 &&& (2147483647 : Int32)) (x1 &&& (2147483647 : Int32)) (x2 &&& (2147483647 : Int32)) x3) ∈ (addL ([] : List Int32) (x0 &&& (2147483647 : Int32))) then 1 else 0 : Int32) = (0 : Int32) then (0 : Int32) else if (if (pk ((((x5).toUInt32 >>> ((6 : Int32) &&& 31).toUInt32).toInt32) &&& (3 : Int32)) (x0 &&& (2147483647 : Int32)) (x1 &&& (2147483647 : Int32)) (x2 &&& (2147483647 : Int32)) x4) ∈ (addL ([] : List Int32) (x0 &&& (2147483647 : Int32))) then 1 else 0 : Int32) = (0 : Int32) then (0 : Int32) else (1 : Int32)) = (1 : Int32) := by rw [if_neg hc159, if_neg hc163]
          show Go p e below _ T166 (mkF m 265 #[.val (.int x0), .val (.int x1), .val (.int x2), .val (.int x3), .val (.int x4), .val (.int x5), .val (.int (x0 &&& (2147483647 : Int32))), .val (.int (x1 &&& (2147483647 : Int32))), .val (.int (x2 &&& (2147483647 : Int32))), .val (.int (1 : Int32)), .val (.int (2 : Int32)), .val (.int (pk ((((x5).toUInt32 >>> ((4 : Int32) &&& 31).toUInt32).toInt32) &&& (3 : Int32)) (x0 &&& (2147483647 : Int32)) (x1 &&& (2147483647 : Int32)) (x2 &&& (2147483647 : Int32)) x3)), .val (.int (pk ((((x5).toUInt32 >>> ((6 : Int32) &&& 31).toUInt32).toInt32) &&& (3 : Int32)) (x0 &&& (2147483647 : Int32)) (x1 &&& (2147483647 : Int32)) (x2 &&& (2147483647 : Int32)) x4)), .val (.int (pk ((((x5).toUInt32 >>> ((8 : Int32) &&& 31).toUInt32).toInt32) &&& (3 : Int32)) (x0 &&& (2147483647 : Int32)) (x1 &&& (2147483647 : Int32)) (x2 &&& (2147483647 : Int32)) (x3 ^^^ x4))), .val (.ref b123), .val (.ref b131), .val (.int (1 : Int32))] [(.int (if (if (pk ((((x5).toUInt32 >>> ((4 : Int32) &&& 31).toUInt32).toInt32) &&& (3 : Int32)) (x0 &&& (2147483647 : Int32)) (x1 &&& (2147483647 : Int32)) (x2 &&& (2147483647 : Int32)) x3) ∈ (addL ([] : List Int32) (x0 &&& (2147483647 : Int32))) then 1 else 0 : Int32) = (0 : Int32) then (0 : Int32) else if (if (pk ((((x5).toUInt32 >>> ((6 : Int32) &&& 31).toUInt32).toInt32) &&& (3 : Int32)) (x0 &&& (2147483647 : Int32)) (x1 &&& (2147483647 : Int32)) (x2 &&& (2147483647 : Int32)) x4) ∈ (addL ([] : List Int32) (x0 &&& (2147483647 : Int32))) then 1 else 0 : Int32) = (0 : Int32) then (0 : Int32) else (1 : Int32)))])
          refine Go.iload X166 hx (hb hby at_265) rfl rfl  ?_
          refine Go.icmpNo X166 hx (hb hby at_267) rfl (teq B167).2 ?_
          refine Go.iconst X166 hx (hb hby at_270) rfl (1 : Int32) rfl ?_
          refine Go.goto X166 hx (hb hby at_271) rfl 275 (by decide) (by decide) ?_
          exact Go.retZ X166 hx (z' := (1 : Int32)) hret hlk (hb hby at_275) rfl (by decide) ⟨by first | rfl | simp [hc159, hc163], M154⟩ (Nat.le_of_ble_eq_true rfl) (Nat.le_of_ble_eq_true rfl)
    · rw [hk]
      refine Go.iload X137 hx (hb hby at_143) rfl rfl  ?_
      refine Go.iconst X137 hx (hb hby at_145) rfl (1 : Int32) rfl ?_
      refine Go.icmpNo X137 hx (hb hby at_146) rfl (flt (by decide : ¬ ((2 : Int32) < (1 : Int32)))).1 ?_
      refine Go.aload X137 hx (hb hby at_149) rfl rfl rfl ?_
      refine Go.iload X137 hx (hb hby at_151) rfl rfl  ?_
      refine Go.callV X137 hx hZ hown (wd 21 rfl) (wd 22 rfl) (notFace_of_selects (args := #[]) (mvT hZ (wd 24 rfl))) (wd 24 rfl) (wd 23 rfl) (wd 8 rfl) (wd 25 rfl) (by decide) [(.int (x0 &&& (2147483647 : Int32)))] [] Y137 (isAddR l Z a0 hw b131 (x0 &&& (2147483647 : Int32)) a_NONE k_NONE ([] : List Int32) T137.heap O139 FF R142 (own_nn x0) (Nat.le_trans (Nat.le_refl 0) (Nat.le_of_ble_eq_true rfl))) rfl rfl (by rw [hml]; rfl) pd_3 rfl (hb hby at_153) (Nat.le_of_ble_eq_true rfl) (Nat.le_of_ble_eq_true rfl) (Nat.le_of_ble_eq_true rfl) (Nat.le_of_ble_eq_true rfl) ?_
      rintro vv168 T168 L168 X168 Q168
      obtain ⟨rfl, N168, B168, R168⟩ := Q168
      have M169 := Fr.app M138 N168
      have O170 := Blw.old B168 q131 O139
      have V171 := Arv.blw V140 B168 (Nat.lt_of_lt_of_le V128.lt (Nat.le_of_eq g131.symm))
      have E172 := R168.2.2.1
      refine Go.pop X168 hx (hb hby at_156) rfl rfl ?_
      refine Go.iload X168 hx (hb hby at_157) rfl rfl  ?_
      refine Go.iconst X168 hx (hb hby at_159) rfl (2 : Int32) rfl ?_
      refine Go.icmpNo X168 hx (hb hby at_160) rfl (flt (by decide : ¬ ((2 : Int32) < (2 : Int32)))).1 ?_
      refine Go.aload X168 hx (hb hby at_163) rfl rfl rfl ?_
      refine Go.iload X168 hx (hb hby at_165) rfl rfl  ?_
      refine Go.callV X168 hx hZ hown (wd 21 rfl) (wd 22 rfl) (notFace_of_selects (args := #[]) (mvT hZ (wd 24 rfl))) (wd 24 rfl) (wd 23 rfl) (wd 8 rfl) (wd 25 rfl) (by decide) [(.int (x1 &&& (2147483647 : Int32)))] [] E172 (isAddR l Z a0 hw b131 (x1 &&& (2147483647 : Int32)) a_NONE k_NONE (addL ([] : List Int32) (x0 &&& (2147483647 : Int32))) T168.heap O170 FF R168 (own_nn x1) (Nat.le_trans (Nat.le_trans (addL_len _ _) (Nat.succ_le_succ (Nat.le_refl 0))) (Nat.le_of_ble_eq_true rfl))) rfl rfl (by rw [hml]; rfl) pd_3 rfl (hb hby at_167) (Nat.le_of_ble_eq_true rfl) (Nat.le_of_ble_eq_true rfl) (Nat.le_of_ble_eq_true rfl) (Nat.le_of_ble_eq_true rfl) ?_
      rintro vv173 T173 L173 X173 Q173
      obtain ⟨rfl, N173, B173, R173⟩ := Q173
      have M174 := Fr.app M169 N173
      have O175 := Blw.old B173 q131 O170
      have V176 := Arv.blw V171 B173 (Nat.lt_of_lt_of_le V128.lt (Nat.le_of_eq g131.symm))
      have E177 := R173.2.2.1
      refine Go.pop X173 hx (hb hby at_170) rfl rfl ?_
      refine Go.iload X173 hx (hb hby at_171) rfl rfl  ?_
      refine Go.iconst X173 hx (hb hby at_173) rfl (3 : Int32) rfl ?_
      refine Go.icmpYes X173 hx (hb hby at_174) rfl 185 (tlt (by decide : (2 : Int32) < (3 : Int32))).1 (by decide) (by decide) ?_
      show Go p e below _ T173 (mkF m 185 #[.val (.int x0), .val (.int x1), .val (.int x2), .val (.int x3), .val (.int x4), .val (.int x5), .val (.int (x0 &&& (2147483647 : Int32))), .val (.int (x1 &&& (2147483647 : Int32))), .val (.int (x2 &&& (2147483647 : Int32))), .val (.int (2 : Int32)), .val (.int (2 : Int32)), .val (.int (pk ((((x5).toUInt32 >>> ((4 : Int32) &&& 31).toUInt32).toInt32) &&& (3 : Int32)) (x0 &&& (2147483647 : Int32)) (x1 &&& (2147483647 : Int32)) (x2 &&& (2147483647 : Int32)) x3)), .val (.int (pk ((((x5).toUInt32 >>> ((6 : Int32) &&& 31).toUInt32).toInt32) &&& (3 : Int32)) (x0 &&& (2147483647 : Int32)) (x1 &&& (2147483647 : Int32)) (x2 &&& (2147483647 : Int32)) x4)), .val (.int (pk ((((x5).toUInt32 >>> ((8 : Int32) &&& 31).toUInt32).toInt32) &&& (3 : Int32)) (x0 &&& (2147483647 : Int32)) (x1 &&& (2147483647 : Int32)) (x2 &&& (2147483647 : Int32)) (x3 ^^^ x4))), .val (.ref b123), .val (.ref b131), .unset] [])
      refine Go.iload X173 hx (hb hby at_185) rfl rfl  ?_
      refine Go.iconst X173 hx (hb hby at_187) rfl (1 : Int32) rfl ?_
      refine Go.icmpNo X173 hx (hb hby at_188) rfl (flt (by decide : ¬ ((2 : Int32) < (1 : Int32)))).1 ?_
      refine Go.iload X173 hx (hb hby at_191) rfl rfl  ?_
      refine Go.iload X173 hx (hb hby at_193) rfl rfl  ?_
      refine Go.iload X173 hx (hb hby at_195) rfl rfl  ?_
      refine Go.iload X173 hx (hb hby at_197) rfl rfl  ?_
      refine Go.iload X173 hx (hb hby at_199) rfl rfl  ?_
      refine Go.pureS X173 hx hZ hown (wd 44 rfl) (wd 45 rfl) (wd 3 rfl) (wd 46 rfl) (by decide) [(.int (pk ((((x5).toUInt32 >>> ((4 : Int32) &&& 31).toUInt32).toInt32) &&& (3 : Int32)) (x0 &&& (2147483647 : Int32)) (x1 &&& (2147483647 : Int32)) (x2 &&& (2147483647 : Int32)) x3)), (.int (2 : Int32)), (.int (x0 &&& (2147483647 : Int32))), (.int (x1 &&& (2147483647 : Int32))), (.int (x2 &&& (2147483647 : Int32)))] [] (lwIn2 l Z a0 hw (pk ((((x5).toUInt32 >>> ((4 : Int32) &&& 31).toUInt32).toInt32) &&& (3 : Int32)) (x0 &&& (2147483647 : Int32)) (x1 &&& (2147483647 : Int32)) (x2 &&& (2147483647 : Int32)) x3) (x0 &&& (2147483647 : Int32)) (x1 &&& (2147483647 : Int32)) (x2 &&& (2147483647 : Int32)) T173.heap) rfl rfl (by rw [hml]; rfl) pd_7 rfl (hb hby at_201) (Nat.le_of_ble_eq_true rfl) (Nat.le_of_ble_eq_true rfl) (Nat.le_of_ble_eq_true rfl) (Nat.le_of_ble_eq_true rfl) ?_
      intro T178 X178 e178
      by_cases hc179 : (if (pk ((((x5).toUInt32 >>> ((4 : Int32) &&& 31).toUInt32).toInt32) &&& (3 : Int32)) (x0 &&& (2147483647 : Int32)) (x1 &&& (2147483647 : Int32)) (x2 &&& (2147483647 : Int32)) x3) ∈ (addL (addL ([] : List Int32) (x0 &&& (2147483647 : Int32))) (x1 &&& (2147483647 : Int32))) then 1 else 0 : Int32) = (0 : Int32)
      · refine Go.ifYes X178 hx (hb hby at_204) rfl 255 ((if0 _ _).trans (teq hc179).1) (by decide) (by decide) ?_
        refine Go.iconst X178 hx (hb hby at_255) rfl (0 : Int32) rfl ?_
        refine Go.istore X178 hx (hb hby at_256) rfl  #[.val (.int x0), .val (.int x1), .val (.int x2), .val (.int x3), .val (.int x4), .val (.int x5), .val (.int (x0 &&& (2147483647 : Int32))), .val (.int (x1 &&& (2147483647 : Int32))), .val (.int (x2 &&& (2147483647 : Int32))), .val (.int (2 : Int32)), .val (.int (2 : Int32)), .val (.int (pk ((((x5).toUInt32 >>> ((4 : Int32) &&& 31).toUInt32).toInt32) &&& (3 : Int32)) (x0 &&& (2147483647 : Int32)) (x1 &&& (2147483647 : Int32)) (x2 &&& (2147483647 : Int32)) x3)), .val (.int (pk ((((x5).toUInt32 >>> ((6 : Int32) &&& 31).toUInt32).toInt32) &&& (3 : Int32)) (x0 &&& (2147483647 : Int32)) (x1 &&& (2147483647 : Int32)) (x2 &&& (2147483647 : Int32)) x4)), .val (.int (pk ((((x5).toUInt32 >>> ((8 : Int32) &&& 31).toUInt32).toInt32) &&& (3 : Int32)) (x0 &&& (2147483647 : Int32)) (x1 &&& (2147483647 : Int32)) (x2 &&& (2147483647 : Int32)) (x3 ^^^ x4))), .val (.ref b123), .val (.ref b131), .val (.int (0 : Int32))] rfl ?_
        refine Go.aload X178 hx (hb hby at_258) rfl rfl rfl ?_
        refine Go.aload X178 hx (hb hby at_260) rfl rfl rfl ?_
        refine Go.pureV X178 hx hZ hown (wd 39 rfl) (wd 40 rfl) (notFace_of_selects (args := #[]) (mvT hZ (wd 42 rfl))) (wd 42 rfl) (wd 41 rfl) (wd 8 rfl) (wd 43 rfl) (by decide) [(.ref b123)] [] E177 (isAll2 l Z a0 hw b131 a_NONE b123 k123 (pk ((((x5).toUInt32 >>> ((4 : Int32) &&& 31).toUInt32).toInt32) &&& (3 : Int32)) (x0 &&& (2147483647 : Int32)) (x1 &&& (2147483647 : Int32)) (x2 &&& (2147483647 : Int32)) x3) (pk ((((x5).toUInt32 >>> ((6 : Int32) &&& 31).toUInt32).toInt32) &&& (3 : Int32)) (x0 &&& (2147483647 : Int32)) (x1 &&& (2147483647 : Int32)) (x2 &&& (2147483647 : Int32)) x4) (addL (addL ([] : List Int32) (x0 &&& (2147483647 : Int32))) (x1 &&& (2147483647 : Int32))) T173.heap E177 R173.2.1 (rep_read4 R173 (Nat.le_trans (Nat.le_trans (addL_len _ _) (Nat.succ_le_succ (Nat.le_trans (addL_len _ _) (Nat.succ_le_succ (Nat.le_refl 0))))) (Nat.le_of_ble_eq_true rfl))) V176) e178 rfl (by rw [hml]; rfl) pd_6 rfl (hb hby at_262) (Nat.le_of_ble_eq_true rfl) (Nat.le_of_ble_eq_true rfl) (Nat.le_of_ble_eq_true rfl) (Nat.le_of_ble_eq_true rfl) ?_
        intro T180 X180 e180
        have B181 : (if (if (pk ((((x5).toUInt32 >>> ((4 : Int32) &&& 31).toUInt32).toInt32) &&& (3 : Int32)) (x0 &&& (2147483647 : Int32)) (x1 &&& (2147483647 : Int32)) (x2 &&& (2147483647 : Int32)) x3) ∈ (addL (addL ([] : List Int32) (x0 &&& (2147483647 : Int32))) (x1 &&& (2147483647 : Int32))) then 1 else 0 : Int32) = (0 : Int32) then (0 : Int32) else if (if (pk ((((x5).toUInt32 >>> ((6 : Int32) &&& 31).toUInt32).toInt32) &&& (3 : Int32)) (x0 &&& (2147483647 : Int32)) (x1 &&& (2147483647 : Int32)) (x2 &&& (2147483647 : Int32)) x4) ∈ (addL (addL ([] : List Int32) (x0 &&& (2147483647 : Int32))) (x1 &&& (2147483647 : Int32))) then 1 else 0 : Int32) = (0 : Int32) then (0 : Int32) else (1 : Int32)) = (0 : Int32) := by rw [if_pos hc179]
        show Go p e below _ T180 (mkF m 265 #[.val (.int x0), .val (.int x1), .val (.int x2), .val (.int x3), .val (.int x4), .val (.int x5), .val (.int (x0 &&& (2147483647 : Int32))), .val (.int (x1 &&& (2147483647 : Int32))), .val (.int (x2 &&& (2147483647 : Int32))), .val (.int (2 : Int32)), .val (.int (2 : Int32)), .val (.int (pk ((((x5).toUInt32 >>> ((4 : Int32) &&& 31).toUInt32).toInt32) &&& (3 : Int32)) (x0 &&& (2147483647 : Int32)) (x1 &&& (2147483647 : Int32)) (x2 &&& (2147483647 : Int32)) x3)), .val (.int (pk ((((x5).toUInt32 >>> ((6 : Int32) &&& 31).toUInt32).toInt32) &&& (3 : Int32)) (x0 &&& (2147483647 : Int32)) (x1 &&& (2147483647 : Int32)) (x2 &&& (2147483647 : Int32)) x4)), .val (.int (pk ((((x5).toUInt32 >>> ((8 : Int32) &&& 31).toUInt32).toInt32) &&& (3 : Int32)) (x0 &&& (2147483647 : Int32)) (x1 &&& (2147483647 : Int32)) (x2 &&& (2147483647 : Int32)) (x3 ^^^ x4))), .val (.ref b123), .val (.ref b131), .val (.int (0 : Int32))] [(.int (if (if (pk ((((x5).toUInt32 >>> ((4 : Int32) &&& 31).toUInt32).toInt32) &&& (3 : Int32)) (x0 &&& (2147483647 : Int32)) (x1 &&& (2147483647 : Int32)) (x2 &&& (2147483647 : Int32)) x3) ∈ (addL (addL ([] : List Int32) (x0 &&& (2147483647 : Int32))) (x1 &&& (2147483647 : Int32))) then 1 else 0 : Int32) = (0 : Int32) then (0 : Int32) else if (if (pk ((((x5).toUInt32 >>> ((6 : Int32) &&& 31).toUInt32).toInt32) &&& (3 : Int32)) (x0 &&& (2147483647 : Int32)) (x1 &&& (2147483647 : Int32)) (x2 &&& (2147483647 : Int32)) x4) ∈ (addL (addL ([] : List Int32) (x0 &&& (2147483647 : Int32))) (x1 &&& (2147483647 : Int32))) then 1 else 0 : Int32) = (0 : Int32) then (0 : Int32) else (1 : Int32)))])
        refine Go.iload X180 hx (hb hby at_265) rfl rfl  ?_
        refine Go.icmpNo X180 hx (hb hby at_267) rfl (teq B181).2 ?_
        refine Go.iconst X180 hx (hb hby at_270) rfl (1 : Int32) rfl ?_
        refine Go.goto X180 hx (hb hby at_271) rfl 275 (by decide) (by decide) ?_
        exact Go.retZ X180 hx (z' := (1 : Int32)) hret hlk (hb hby at_275) rfl (by decide) ⟨by first | rfl | simp [hc179], M174⟩ (Nat.le_of_ble_eq_true rfl) (Nat.le_of_ble_eq_true rfl)
      · refine Go.ifNo X178 hx (hb hby at_204) rfl ((if0 _ _).trans (feq hc179).1) ?_
        refine Go.iload X178 hx (hb hby at_207) rfl rfl  ?_
        refine Go.iconst X178 hx (hb hby at_209) rfl (2 : Int32) rfl ?_
        refine Go.icmpNo X178 hx (hb hby at_210) rfl (flt (by decide : ¬ ((2 : Int32) < (2 : Int32)))).1 ?_
        refine Go.iload X178 hx (hb hby at_213) rfl rfl  ?_
        refine Go.iload X178 hx (hb hby at_215) rfl rfl  ?_
        refine Go.iload X178 hx (hb hby at_217) rfl rfl  ?_
        refine Go.iload X178 hx (hb hby at_219) rfl rfl  ?_
        refine Go.iload X178 hx (hb hby at_221) rfl rfl  ?_
        refine Go.pureS X178 hx hZ hown (wd 44 rfl) (wd 45 rfl) (wd 3 rfl) (wd 46 rfl) (by decide) [(.int (pk ((((x5).toUInt32 >>> ((6 : Int32) &&& 31).toUInt32).toInt32) &&& (3 : Int32)) (x0 &&& (2147483647 : Int32)) (x1 &&& (2147483647 : Int32)) (x2 &&& (2147483647 : Int32)) x4)), (.int (2 : Int32)), (.int (x0 &&& (2147483647 : Int32))), (.int (x1 &&& (2147483647 : Int32))), (.int (x2 &&& (2147483647 : Int32)))] [] (lwIn2 l Z a0 hw (pk ((((x5).toUInt32 >>> ((6 : Int32) &&& 31).toUInt32).toInt32) &&& (3 : Int32)) (x0 &&& (2147483647 : Int32)) (x1 &&& (2147483647 : Int32)) (x2 &&& (2147483647 : Int32)) x4) (x0 &&& (2147483647 : Int32)) (x1 &&& (2147483647 : Int32)) (x2 &&& (2147483647 : Int32)) T173.heap) e178 rfl (by rw [hml]; rfl) pd_7 rfl (hb hby at_223) (Nat.le_of_ble_eq_true rfl) (Nat.le_of_ble_eq_true rfl) (Nat.le_of_ble_eq_true rfl) (Nat.le_of_ble_eq_true rfl) ?_
        intro T182 X182 e182
        by_cases hc183 : (if (pk ((((x5).toUInt32 >>> ((6 : Int32) &&& 31).toUInt32).toInt32) &&& (3 : Int32)) (x0 &&& (2147483647 : Int32)) (x1 &&& (2147483647 : Int32)) (x2 &&& (2147483647 : Int32)) x4) ∈ (addL (addL ([] : List Int32) (x0 &&& (2147483647 : Int32))) (x1 &&& (2147483647 : Int32))) then 1 else 0 : Int32) = (0 : Int32)
        · refine Go.ifYes X182 hx (hb hby at_226) rfl 255 ((if0 _ _).trans (teq hc183).1) (by decide) (by decide) ?_
          refine Go.iconst X182 hx (hb hby at_255) rfl (0 : Int32) rfl ?_
          refine Go.istore X182 hx (hb hby at_256) rfl  #[.val (.int x0), .val (.int x1), .val (.int x2), .val (.int x3), .val (.int x4), .val (.int x5), .val (.int (x0 &&& (2147483647 : Int32))), .val (.int (x1 &&& (2147483647 : Int32))), .val (.int (x2 &&& (2147483647 : Int32))), .val (.int (2 : Int32)), .val (.int (2 : Int32)), .val (.int (pk ((((x5).toUInt32 >>> ((4 : Int32) &&& 31).toUInt32).toInt32) &&& (3 : Int32)) (x0 &&& (2147483647 : Int32)) (x1 &&& (2147483647 : Int32)) (x2 &&& (2147483647 : Int32)) x3)), .val (.int (pk ((((x5).toUInt32 >>> ((6 : Int32) &&& 31).toUInt32).toInt32) &&& (3 : Int32)) (x0 &&& (2147483647 : Int32)) (x1 &&& (2147483647 : Int32)) (x2 &&& (2147483647 : Int32)) x4)), .val (.int (pk ((((x5).toUInt32 >>> ((8 : Int32) &&& 31).toUInt32).toInt32) &&& (3 : Int32)) (x0 &&& (2147483647 : Int32)) (x1 &&& (2147483647 : Int32)) (x2 &&& (2147483647 : Int32)) (x3 ^^^ x4))), .val (.ref b123), .val (.ref b131), .val (.int (0 : Int32))] rfl ?_
          refine Go.aload X182 hx (hb hby at_258) rfl rfl rfl ?_
          refine Go.aload X182 hx (hb hby at_260) rfl rfl rfl ?_
          refine Go.pureV X182 hx hZ hown (wd 39 rfl) (wd 40 rfl) (notFace_of_selects (args := #[]) (mvT hZ (wd 42 rfl))) (wd 42 rfl) (wd 41 rfl) (wd 8 rfl) (wd 43 rfl) (by decide) [(.ref b123)] [] E177 (isAll2 l Z a0 hw b131 a_NONE b123 k123 (pk ((((x5).toUInt32 >>> ((4 : Int32) &&& 31).toUInt32).toInt32) &&& (3 : Int32)) (x0 &&& (2147483647 : Int32)) (x1 &&& (2147483647 : Int32)) (x2 &&& (2147483647 : Int32)) x3) (pk ((((x5).toUInt32 >>> ((6 : Int32) &&& 31).toUInt32).toInt32) &&& (3 : Int32)) (x0 &&& (2147483647 : Int32)) (x1 &&& (2147483647 : Int32)) (x2 &&& (2147483647 : Int32)) x4) (addL (addL ([] : List Int32) (x0 &&& (2147483647 : Int32))) (x1 &&& (2147483647 : Int32))) T173.heap E177 R173.2.1 (rep_read4 R173 (Nat.le_trans (Nat.le_trans (addL_len _ _) (Nat.succ_le_succ (Nat.le_trans (addL_len _ _) (Nat.succ_le_succ (Nat.le_refl 0))))) (Nat.le_of_ble_eq_true rfl))) V176) e182 rfl (by rw [hml]; rfl) pd_6 rfl (hb hby at_262) (Nat.le_of_ble_eq_true rfl) (Nat.le_of_ble_eq_true rfl) (Nat.le_of_ble_eq_true rfl) (Nat.le_of_ble_eq_true rfl) ?_
          intro T184 X184 e184
          have B185 : (if (if (pk ((((x5).toUInt32 >>> ((4 : Int32) &&& 31).toUInt32).toInt32) &&& (3 : Int32)) (x0 &&& (2147483647 : Int32)) (x1 &&& (2147483647 : Int32)) (x2 &&& (2147483647 : Int32)) x3) ∈ (addL (addL ([] : List Int32) (x0 &&& (2147483647 : Int32))) (x1 &&& (2147483647 : Int32))) then 1 else 0 : Int32) = (0 : Int32) then (0 : Int32) else if (if (pk ((((x5).toUInt32 >>> ((6 : Int32) &&& 31).toUInt32).toInt32) &&& (3 : Int32)) (x0 &&& (2147483647 : Int32)) (x1 &&& (2147483647 : Int32)) (x2 &&& (2147483647 : Int32)) x4) ∈ (addL (addL ([] : List Int32) (x0 &&& (2147483647 : Int32))) (x1 &&& (2147483647 : Int32))) then 1 else 0 : Int32) = (0 : Int32) then (0 : Int32) else (1 : Int32)) = (0 : Int32) := by rw [if_neg hc179, if_pos hc183]
          show Go p e below _ T184 (mkF m 265 #[.val (.int x0), .val (.int x1), .val (.int x2), .val (.int x3), .val (.int x4), .val (.int x5), .val (.int (x0 &&& (2147483647 : Int32))), .val (.int (x1 &&& (2147483647 : Int32))), .val (.int (x2 &&& (2147483647 : Int32))), .val (.int (2 : Int32)), .val (.int (2 : Int32)), .val (.int (pk ((((x5).toUInt32 >>> ((4 : Int32) &&& 31).toUInt32).toInt32) &&& (3 : Int32)) (x0 &&& (2147483647 : Int32)) (x1 &&& (2147483647 : Int32)) (x2 &&& (2147483647 : Int32)) x3)), .val (.int (pk ((((x5).toUInt32 >>> ((6 : Int32) &&& 31).toUInt32).toInt32) &&& (3 : Int32)) (x0 &&& (2147483647 : Int32)) (x1 &&& (2147483647 : Int32)) (x2 &&& (2147483647 : Int32)) x4)), .val (.int (pk ((((x5).toUInt32 >>> ((8 : Int32) &&& 31).toUInt32).toInt32) &&& (3 : Int32)) (x0 &&& (2147483647 : Int32)) (x1 &&& (2147483647 : Int32)) (x2 &&& (2147483647 : Int32)) (x3 ^^^ x4))), .val (.ref b123), .val (.ref b131), .val (.int (0 : Int32))] [(.int (if (if (pk ((((x5).toUInt32 >>> ((4 : Int32) &&& 31).toUInt32).toInt32) &&& (3 : Int32)) (x0 &&& (2147483647 : Int32)) (x1 &&& (2147483647 : Int32)) (x2 &&& (2147483647 : Int32)) x3) ∈ (addL (addL ([] : List Int32) (x0 &&& (2147483647 : Int32))) (x1 &&& (2147483647 : Int32))) then 1 else 0 : Int32) = (0 : Int32) then (0 : Int32) else if (if (pk ((((x5).toUInt32 >>> ((6 : Int32) &&& 31).toUInt32).toInt32) &&& (3 : Int32)) (x0 &&& (2147483647 : Int32)) (x1 &&& (2147483647 : Int32)) (x2 &&& (2147483647 : Int32)) x4) ∈ (addL (addL ([] : List Int32) (x0 &&& (2147483647 : Int32))) (x1 &&& (2147483647 : Int32))) then 1 else 0 : Int32) = (0 : Int32) then (0 : Int32) else (1 : Int32)))])
          refine Go.iload X184 hx (hb hby at_265) rfl rfl  ?_
          refine Go.icmpNo X184 hx (hb hby at_267) rfl (teq B185).2 ?_
          refine Go.iconst X184 hx (hb hby at_270) rfl (1 : Int32) rfl ?_
          refine Go.goto X184 hx (hb hby at_271) rfl 275 (by decide) (by decide) ?_
          exact Go.retZ X184 hx (z' := (1 : Int32)) hret hlk (hb hby at_275) rfl (by decide) ⟨by first | rfl | simp [hc179, hc183], M174⟩ (Nat.le_of_ble_eq_true rfl) (Nat.le_of_ble_eq_true rfl)
        · refine Go.ifNo X182 hx (hb hby at_226) rfl ((if0 _ _).trans (feq hc183).1) ?_
          refine Go.iload X182 hx (hb hby at_229) rfl rfl  ?_
          refine Go.iconst X182 hx (hb hby at_231) rfl (3 : Int32) rfl ?_
          refine Go.icmpYes X182 hx (hb hby at_232) rfl 251 (tlt (by decide : (2 : Int32) < (3 : Int32))).1 (by decide) (by decide) ?_
          refine Go.iconst X182 hx (hb hby at_251) rfl (1 : Int32) rfl ?_
          refine Go.goto X182 hx (hb hby at_252) rfl 256 (by decide) (by decide) ?_
          refine Go.istore X182 hx (hb hby at_256) rfl  #[.val (.int x0), .val (.int x1), .val (.int x2), .val (.int x3), .val (.int x4), .val (.int x5), .val (.int (x0 &&& (2147483647 : Int32))), .val (.int (x1 &&& (2147483647 : Int32))), .val (.int (x2 &&& (2147483647 : Int32))), .val (.int (2 : Int32)), .val (.int (2 : Int32)), .val (.int (pk ((((x5).toUInt32 >>> ((4 : Int32) &&& 31).toUInt32).toInt32) &&& (3 : Int32)) (x0 &&& (2147483647 : Int32)) (x1 &&& (2147483647 : Int32)) (x2 &&& (2147483647 : Int32)) x3)), .val (.int (pk ((((x5).toUInt32 >>> ((6 : Int32) &&& 31).toUInt32).toInt32) &&& (3 : Int32)) (x0 &&& (2147483647 : Int32)) (x1 &&& (2147483647 : Int32)) (x2 &&& (2147483647 : Int32)) x4)), .val (.int (pk ((((x5).toUInt32 >>> ((8 : Int32) &&& 31).toUInt32).toInt32) &&& (3 : Int32)) (x0 &&& (2147483647 : Int32)) (x1 &&& (2147483647 : Int32)) (x2 &&& (2147483647 : Int32)) (x3 ^^^ x4))), .val (.ref b123), .val (.ref b131), .val (.int (1 : Int32))] rfl ?_
          refine Go.aload X182 hx (hb hby at_258) rfl rfl rfl ?_
          refine Go.aload X182 hx (hb hby at_260) rfl rfl rfl ?_
          refine Go.pureV X182 hx hZ hown (wd 39 rfl) (wd 40 rfl) (notFace_of_selects (args := #[]) (mvT hZ (wd 42 rfl))) (wd 42 rfl) (wd 41 rfl) (wd 8 rfl) (wd 43 rfl) (by decide) [(.ref b123)] [] E177 (isAll2 l Z a0 hw b131 a_NONE b123 k123 (pk ((((x5).toUInt32 >>> ((4 : Int32) &&& 31).toUInt32).toInt32) &&& (3 : Int32)) (x0 &&& (2147483647 : Int32)) (x1 &&& (2147483647 : Int32)) (x2 &&& (2147483647 : Int32)) x3) (pk ((((x5).toUInt32 >>> ((6 : Int32) &&& 31).toUInt32).toInt32) &&& (3 : Int32)) (x0 &&& (2147483647 : Int32)) (x1 &&& (2147483647 : Int32)) (x2 &&& (2147483647 : Int32)) x4) (addL (addL ([] : List Int32) (x0 &&& (2147483647 : Int32))) (x1 &&& (2147483647 : Int32))) T173.heap E177 R173.2.1 (rep_read4 R173 (Nat.le_trans (Nat.le_trans (addL_len _ _) (Nat.succ_le_succ (Nat.le_trans (addL_len _ _) (Nat.succ_le_succ (Nat.le_refl 0))))) (Nat.le_of_ble_eq_true rfl))) V176) e182 rfl (by rw [hml]; rfl) pd_6 rfl (hb hby at_262) (Nat.le_of_ble_eq_true rfl) (Nat.le_of_ble_eq_true rfl) (Nat.le_of_ble_eq_true rfl) (Nat.le_of_ble_eq_true rfl) ?_
          intro T186 X186 e186
          have B187 : (if (if (pk ((((x5).toUInt32 >>> ((4 : Int32) &&& 31).toUInt32).toInt32) &&& (3 : Int32)) (x0 &&& (2147483647 : Int32)) (x1 &&& (2147483647 : Int32)) (x2 &&& (2147483647 : Int32)) x3) ∈ (addL (addL ([] : List Int32) (x0 &&& (2147483647 : Int32))) (x1 &&& (2147483647 : Int32))) then 1 else 0 : Int32) = (0 : Int32) then (0 : Int32) else if (if (pk ((((x5).toUInt32 >>> ((6 : Int32) &&& 31).toUInt32).toInt32) &&& (3 : Int32)) (x0 &&& (2147483647 : Int32)) (x1 &&& (2147483647 : Int32)) (x2 &&& (2147483647 : Int32)) x4) ∈ (addL (addL ([] : List Int32) (x0 &&& (2147483647 : Int32))) (x1 &&& (2147483647 : Int32))) then 1 else 0 : Int32) = (0 : Int32) then (0 : Int32) else (1 : Int32)) = (1 : Int32) := by rw [if_neg hc179, if_neg hc183]
          show Go p e below _ T186 (mkF m 265 #[.val (.int x0), .val (.int x1), .val (.int x2), .val (.int x3), .val (.int x4), .val (.int x5), .val (.int (x0 &&& (2147483647 : Int32))), .val (.int (x1 &&& (2147483647 : Int32))), .val (.int (x2 &&& (2147483647 : Int32))), .val (.int (2 : Int32)), .val (.int (2 : Int32)), .val (.int (pk ((((x5).toUInt32 >>> ((4 : Int32) &&& 31).toUInt32).toInt32) &&& (3 : Int32)) (x0 &&& (2147483647 : Int32)) (x1 &&& (2147483647 : Int32)) (x2 &&& (2147483647 : Int32)) x3)), .val (.int (pk ((((x5).toUInt32 >>> ((6 : Int32) &&& 31).toUInt32).toInt32) &&& (3 : Int32)) (x0 &&& (2147483647 : Int32)) (x1 &&& (2147483647 : Int32)) (x2 &&& (2147483647 : Int32)) x4)), .val (.int (pk ((((x5).toUInt32 >>> ((8 : Int32) &&& 31).toUInt32).toInt32) &&& (3 : Int32)) (x0 &&& (2147483647 : Int32)) (x1 &&& (2147483647 : Int32)) (x2 &&& (2147483647 : Int32)) (x3 ^^^ x4))), .val (.ref b123), .val (.ref b131), .val (.int (1 : Int32))] [(.int (if (if (pk ((((x5).toUInt32 >>> ((4 : Int32) &&& 31).toUInt32).toInt32) &&& (3 : Int32)) (x0 &&& (2147483647 : Int32)) (x1 &&& (2147483647 : Int32)) (x2 &&& (2147483647 : Int32)) x3) ∈ (addL (addL ([] : List Int32) (x0 &&& (2147483647 : Int32))) (x1 &&& (2147483647 : Int32))) then 1 else 0 : Int32) = (0 : Int32) then (0 : Int32) else if (if (pk ((((x5).toUInt32 >>> ((6 : Int32) &&& 31).toUInt32).toInt32) &&& (3 : Int32)) (x0 &&& (2147483647 : Int32)) (x1 &&& (2147483647 : Int32)) (x2 &&& (2147483647 : Int32)) x4) ∈ (addL (addL ([] : List Int32) (x0 &&& (2147483647 : Int32))) (x1 &&& (2147483647 : Int32))) then 1 else 0 : Int32) = (0 : Int32) then (0 : Int32) else (1 : Int32)))])
          refine Go.iload X186 hx (hb hby at_265) rfl rfl  ?_
          refine Go.icmpNo X186 hx (hb hby at_267) rfl (teq B187).2 ?_
          refine Go.iconst X186 hx (hb hby at_270) rfl (1 : Int32) rfl ?_
          refine Go.goto X186 hx (hb hby at_271) rfl 275 (by decide) (by decide) ?_
          exact Go.retZ X186 hx (z' := (1 : Int32)) hret hlk (hb hby at_275) rfl (by decide) ⟨by first | rfl | simp [hc179, hc183], M174⟩ (Nat.le_of_ble_eq_true rfl) (Nat.le_of_ble_eq_true rfl)
    · rw [hk]
      refine Go.iload X137 hx (hb hby at_143) rfl rfl  ?_
      refine Go.iconst X137 hx (hb hby at_145) rfl (1 : Int32) rfl ?_
      refine Go.icmpNo X137 hx (hb hby at_146) rfl (flt (by decide : ¬ ((3 : Int32) < (1 : Int32)))).1 ?_
      refine Go.aload X137 hx (hb hby at_149) rfl rfl rfl ?_
      refine Go.iload X137 hx (hb hby at_151) rfl rfl  ?_
      refine Go.callV X137 hx hZ hown (wd 21 rfl) (wd 22 rfl) (notFace_of_selects (args := #[]) (mvT hZ (wd 24 rfl))) (wd 24 rfl) (wd 23 rfl) (wd 8 rfl) (wd 25 rfl) (by decide) [(.int (x0 &&& (2147483647 : Int32)))] [] Y137 (isAddR l Z a0 hw b131 (x0 &&& (2147483647 : Int32)) a_NONE k_NONE ([] : List Int32) T137.heap O139 FF R142 (own_nn x0) (Nat.le_trans (Nat.le_refl 0) (Nat.le_of_ble_eq_true rfl))) rfl rfl (by rw [hml]; rfl) pd_3 rfl (hb hby at_153) (Nat.le_of_ble_eq_true rfl) (Nat.le_of_ble_eq_true rfl) (Nat.le_of_ble_eq_true rfl) (Nat.le_of_ble_eq_true rfl) ?_
      rintro vv188 T188 L188 X188 Q188
      obtain ⟨rfl, N188, B188, R188⟩ := Q188
      have M189 := Fr.app M138 N188
      have O190 := Blw.old B188 q131 O139
      have V191 := Arv.blw V140 B188 (Nat.lt_of_lt_of_le V128.lt (Nat.le_of_eq g131.symm))
      have E192 := R188.2.2.1
      refine Go.pop X188 hx (hb hby at_156) rfl rfl ?_
      refine Go.iload X188 hx (hb hby at_157) rfl rfl  ?_
      refine Go.iconst X188 hx (hb hby at_159) rfl (2 : Int32) rfl ?_
      refine Go.icmpNo X188 hx (hb hby at_160) rfl (flt (by decide : ¬ ((3 : Int32) < (2 : Int32)))).1 ?_
      refine Go.aload X188 hx (hb hby at_163) rfl rfl rfl ?_
      refine Go.iload X188 hx (hb hby at_165) rfl rfl  ?_
      refine Go.callV X188 hx hZ hown (wd 21 rfl) (wd 22 rfl) (notFace_of_selects (args := #[]) (mvT hZ (wd 24 rfl))) (wd 24 rfl) (wd 23 rfl) (wd 8 rfl) (wd 25 rfl) (by decide) [(.int (x1 &&& (2147483647 : Int32)))] [] E192 (isAddR l Z a0 hw b131 (x1 &&& (2147483647 : Int32)) a_NONE k_NONE (addL ([] : List Int32) (x0 &&& (2147483647 : Int32))) T188.heap O190 FF R188 (own_nn x1) (Nat.le_trans (Nat.le_trans (addL_len _ _) (Nat.succ_le_succ (Nat.le_refl 0))) (Nat.le_of_ble_eq_true rfl))) rfl rfl (by rw [hml]; rfl) pd_3 rfl (hb hby at_167) (Nat.le_of_ble_eq_true rfl) (Nat.le_of_ble_eq_true rfl) (Nat.le_of_ble_eq_true rfl) (Nat.le_of_ble_eq_true rfl) ?_
      rintro vv193 T193 L193 X193 Q193
      obtain ⟨rfl, N193, B193, R193⟩ := Q193
      have M194 := Fr.app M189 N193
      have O195 := Blw.old B193 q131 O190
      have V196 := Arv.blw V191 B193 (Nat.lt_of_lt_of_le V128.lt (Nat.le_of_eq g131.symm))
      have E197 := R193.2.2.1
      refine Go.pop X193 hx (hb hby at_170) rfl rfl ?_
      refine Go.iload X193 hx (hb hby at_171) rfl rfl  ?_
      refine Go.iconst X193 hx (hb hby at_173) rfl (3 : Int32) rfl ?_
      refine Go.icmpNo X193 hx (hb hby at_174) rfl (flt (by decide : ¬ ((3 : Int32) < (3 : Int32)))).1 ?_
      refine Go.aload X193 hx (hb hby at_177) rfl rfl rfl ?_
      refine Go.iload X193 hx (hb hby at_179) rfl rfl  ?_
      refine Go.callV X193 hx hZ hown (wd 21 rfl) (wd 22 rfl) (notFace_of_selects (args := #[]) (mvT hZ (wd 24 rfl))) (wd 24 rfl) (wd 23 rfl) (wd 8 rfl) (wd 25 rfl) (by decide) [(.int (x2 &&& (2147483647 : Int32)))] [] E197 (isAddR l Z a0 hw b131 (x2 &&& (2147483647 : Int32)) a_NONE k_NONE (addL (addL ([] : List Int32) (x0 &&& (2147483647 : Int32))) (x1 &&& (2147483647 : Int32))) T193.heap O195 FF R193 (own_nn x2) (Nat.le_trans (Nat.le_trans (addL_len _ _) (Nat.succ_le_succ (Nat.le_trans (addL_len _ _) (Nat.succ_le_succ (Nat.le_refl 0))))) (Nat.le_of_ble_eq_true rfl))) rfl rfl (by rw [hml]; rfl) pd_3 rfl (hb hby at_181) (Nat.le_of_ble_eq_true rfl) (Nat.le_of_ble_eq_true rfl) (Nat.le_of_ble_eq_true rfl) (Nat.le_of_ble_eq_true rfl) ?_
      rintro vv198 T198 L198 X198 Q198
      obtain ⟨rfl, N198, B198, R198⟩ := Q198
      have M199 := Fr.app M194 N198
      have O200 := Blw.old B198 q131 O195
      have V201 := Arv.blw V196 B198 (Nat.lt_of_lt_of_le V128.lt (Nat.le_of_eq g131.symm))
      have E202 := R198.2.2.1
      refine Go.pop X198 hx (hb hby at_184) rfl rfl ?_
      show Go p e below _ T198 (mkF m 185 #[.val (.int x0), .val (.int x1), .val (.int x2), .val (.int x3), .val (.int x4), .val (.int x5), .val (.int (x0 &&& (2147483647 : Int32))), .val (.int (x1 &&& (2147483647 : Int32))), .val (.int (x2 &&& (2147483647 : Int32))), .val (.int (3 : Int32)), .val (.int (2 : Int32)), .val (.int (pk ((((x5).toUInt32 >>> ((4 : Int32) &&& 31).toUInt32).toInt32) &&& (3 : Int32)) (x0 &&& (2147483647 : Int32)) (x1 &&& (2147483647 : Int32)) (x2 &&& (2147483647 : Int32)) x3)), .val (.int (pk ((((x5).toUInt32 >>> ((6 : Int32) &&& 31).toUInt32).toInt32) &&& (3 : Int32)) (x0 &&& (2147483647 : Int32)) (x1 &&& (2147483647 : Int32)) (x2 &&& (2147483647 : Int32)) x4)), .val (.int (pk ((((x5).toUInt32 >>> ((8 : Int32) &&& 31).toUInt32).toInt32) &&& (3 : Int32)) (x0 &&& (2147483647 : Int32)) (x1 &&& (2147483647 : Int32)) (x2 &&& (2147483647 : Int32)) (x3 ^^^ x4))), .val (.ref b123), .val (.ref b131), .unset] [])
      refine Go.iload X198 hx (hb hby at_185) rfl rfl  ?_
      refine Go.iconst X198 hx (hb hby at_187) rfl (1 : Int32) rfl ?_
      refine Go.icmpNo X198 hx (hb hby at_188) rfl (flt (by decide : ¬ ((2 : Int32) < (1 : Int32)))).1 ?_
      refine Go.iload X198 hx (hb hby at_191) rfl rfl  ?_
      refine Go.iload X198 hx (hb hby at_193) rfl rfl  ?_
      refine Go.iload X198 hx (hb hby at_195) rfl rfl  ?_
      refine Go.iload X198 hx (hb hby at_197) rfl rfl  ?_
      refine Go.iload X198 hx (hb hby at_199) rfl rfl  ?_
      refine Go.pureS X198 hx hZ hown (wd 44 rfl) (wd 45 rfl) (wd 3 rfl) (wd 46 rfl) (by decide) [(.int (pk ((((x5).toUInt32 >>> ((4 : Int32) &&& 31).toUInt32).toInt32) &&& (3 : Int32)) (x0 &&& (2147483647 : Int32)) (x1 &&& (2147483647 : Int32)) (x2 &&& (2147483647 : Int32)) x3)), (.int (3 : Int32)), (.int (x0 &&& (2147483647 : Int32))), (.int (x1 &&& (2147483647 : Int32))), (.int (x2 &&& (2147483647 : Int32)))] [] (lwIn3 l Z a0 hw (pk ((((x5).toUInt32 >>> ((4 : Int32) &&& 31).toUInt32).toInt32) &&& (3 : Int32)) (x0 &&& (2147483647 : Int32)) (x1 &&& (2147483647 : Int32)) (x2 &&& (2147483647 : Int32)) x3) (x0 &&& (2147483647 : Int32)) (x1 &&& (2147483647 : Int32)) (x2 &&& (2147483647 : Int32)) T198.heap) rfl rfl (by rw [hml]; rfl) pd_7 rfl (hb hby at_201) (Nat.le_of_ble_eq_true rfl) (Nat.le_of_ble_eq_true rfl) (Nat.le_of_ble_eq_true rfl) (Nat.le_of_ble_eq_true rfl) ?_
      intro T203 X203 e203
      by_cases hc204 : (if (pk ((((x5).toUInt32 >>> ((4 : Int32) &&& 31).toUInt32).toInt32) &&& (3 : Int32)) (x0 &&& (2147483647 : Int32)) (x1 &&& (2147483647 : Int32)) (x2 &&& (2147483647 : Int32)) x3) ∈ (addL (addL (addL ([] : List Int32) (x0 &&& (2147483647 : Int32))) (x1 &&& (2147483647 : Int32))) (x2 &&& (2147483647 : Int32))) then 1 else 0 : Int32) = (0 : Int32)
      · refine Go.ifYes X203 hx (hb hby at_204) rfl 255 ((if0 _ _).trans (teq hc204).1) (by decide) (by decide) ?_
        refine Go.iconst X203 hx (hb hby at_255) rfl (0 : Int32) rfl ?_
        refine Go.istore X203 hx (hb hby at_256) rfl  #[.val (.int x0), .val (.int x1), .val (.int x2), .val (.int x3), .val (.int x4), .val (.int x5), .val (.int (x0 &&& (2147483647 : Int32))), .val (.int (x1 &&& (2147483647 : Int32))), .val (.int (x2 &&& (2147483647 : Int32))), .val (.int (3 : Int32)), .val (.int (2 : Int32)), .val (.int (pk ((((x5).toUInt32 >>> ((4 : Int32) &&& 31).toUInt32).toInt32) &&& (3 : Int32)) (x0 &&& (2147483647 : Int32)) (x1 &&& (2147483647 : Int32)) (x2 &&& (2147483647 : Int32)) x3)), .val (.int (pk ((((x5).toUInt32 >>> ((6 : Int32) &&& 31).toUInt32).toInt32) &&& (3 : Int32)) (x0 &&& (2147483647 : Int32)) (x1 &&& (2147483647 : Int32)) (x2 &&& (2147483647 : Int32)) x4)), .val (.int (pk ((((x5).toUInt32 >>> ((8 : Int32) &&& 31).toUInt32).toInt32) &&& (3 : Int32)) (x0 &&& (2147483647 : Int32)) (x1 &&& (2147483647 : Int32)) (x2 &&& (2147483647 : Int32)) (x3 ^^^ x4))), .val (.ref b123), .val (.ref b131), .val (.int (0 : Int32))] rfl ?_
        refine Go.aload X203 hx (hb hby at_258) rfl rfl rfl ?_
        refine Go.aload X203 hx (hb hby at_260) rfl rfl rfl ?_
        refine Go.pureV X203 hx hZ hown (wd 39 rfl) (wd 40 rfl) (notFace_of_selects (args := #[]) (mvT hZ (wd 42 rfl))) (wd 42 rfl) (wd 41 rfl) (wd 8 rfl) (wd 43 rfl) (by decide) [(.ref b123)] [] E202 (isAll2 l Z a0 hw b131 a_NONE b123 k123 (pk ((((x5).toUInt32 >>> ((4 : Int32) &&& 31).toUInt32).toInt32) &&& (3 : Int32)) (x0 &&& (2147483647 : Int32)) (x1 &&& (2147483647 : Int32)) (x2 &&& (2147483647 : Int32)) x3) (pk ((((x5).toUInt32 >>> ((6 : Int32) &&& 31).toUInt32).toInt32) &&& (3 : Int32)) (x0 &&& (2147483647 : Int32)) (x1 &&& (2147483647 : Int32)) (x2 &&& (2147483647 : Int32)) x4) (addL (addL (addL ([] : List Int32) (x0 &&& (2147483647 : Int32))) (x1 &&& (2147483647 : Int32))) (x2 &&& (2147483647 : Int32))) T198.heap E202 R198.2.1 (rep_read4 R198 (Nat.le_trans (Nat.le_trans (addL_len _ _) (Nat.succ_le_succ (Nat.le_trans (addL_len _ _) (Nat.succ_le_succ (Nat.le_trans (addL_len _ _) (Nat.succ_le_succ (Nat.le_refl 0))))))) (Nat.le_of_ble_eq_true rfl))) V201) e203 rfl (by rw [hml]; rfl) pd_6 rfl (hb hby at_262) (Nat.le_of_ble_eq_true rfl) (Nat.le_of_ble_eq_true rfl) (Nat.le_of_ble_eq_true rfl) (Nat.le_of_ble_eq_true rfl) ?_
        intro T205 X205 e205
        have B206 : (if (if (pk ((((x5).toUInt32 >>> ((4 : Int32) &&& 31).toUInt32).toInt32) &&& (3 : Int32)) (x0 &&& (2147483647 : Int32)) (x1 &&& (2147483647 : Int32)) (x2 &&& (2147483647 : Int32)) x3) ∈ (addL (addL (addL ([] : List Int32) (x0 &&& (2147483647 : Int32))) (x1 &&& (2147483647 : Int32))) (x2 &&& (2147483647 : Int32))) then 1 else 0 : Int32) = (0 : Int32) then (0 : Int32) else if (if (pk ((((x5).toUInt32 >>> ((6 : Int32) &&& 31).toUInt32).toInt32) &&& (3 : Int32)) (x0 &&& (2147483647 : Int32)) (x1 &&& (2147483647 : Int32)) (x2 &&& (2147483647 : Int32)) x4) ∈ (addL (addL (addL ([] : List Int32) (x0 &&& (2147483647 : Int32))) (x1 &&& (2147483647 : Int32))) (x2 &&& (2147483647 : Int32))) then 1 else 0 : Int32) = (0 : Int32) then (0 : Int32) else (1 : Int32)) = (0 : Int32) := by rw [if_pos hc204]
        show Go p e below _ T205 (mkF m 265 #[.val (.int x0), .val (.int x1), .val (.int x2), .val (.int x3), .val (.int x4), .val (.int x5), .val (.int (x0 &&& (2147483647 : Int32))), .val (.int (x1 &&& (2147483647 : Int32))), .val (.int (x2 &&& (2147483647 : Int32))), .val (.int (3 : Int32)), .val (.int (2 : Int32)), .val (.int (pk ((((x5).toUInt32 >>> ((4 : Int32) &&& 31).toUInt32).toInt32) &&& (3 : Int32)) (x0 &&& (2147483647 : Int32)) (x1 &&& (2147483647 : Int32)) (x2 &&& (2147483647 : Int32)) x3)), .val (.int (pk ((((x5).toUInt32 >>> ((6 : Int32) &&& 31).toUInt32).toInt32) &&& (3 : Int32)) (x0 &&& (2147483647 : Int32)) (x1 &&& (2147483647 : Int32)) (x2 &&& (2147483647 : Int32)) x4)), .val (.int (pk ((((x5).toUInt32 >>> ((8 : Int32) &&& 31).toUInt32).toInt32) &&& (3 : Int32)) (x0 &&& (2147483647 : Int32)) (x1 &&& (2147483647 : Int32)) (x2 &&& (2147483647 : Int32)) (x3 ^^^ x4))), .val (.ref b123), .val (.ref b131), .val (.int (0 : Int32))] [(.int (if (if (pk ((((x5).toUInt32 >>> ((4 : Int32) &&& 31).toUInt32).toInt32) &&& (3 : Int32)) (x0 &&& (2147483647 : Int32)) (x1 &&& (2147483647 : Int32)) (x2 &&& (2147483647 : Int32)) x3) ∈ (addL (addL (addL ([] : List Int32) (x0 &&& (2147483647 : Int32))) (x1 &&& (2147483647 : Int32))) (x2 &&& (2147483647 : Int32))) then 1 else 0 : Int32) = (0 : Int32) then (0 : Int32) else if (if (pk ((((x5).toUInt32 >>> ((6 : Int32) &&& 31).toUInt32).toInt32) &&& (3 : Int32)) (x0 &&& (2147483647 : Int32)) (x1 &&& (2147483647 : Int32)) (x2 &&& (2147483647 : Int32)) x4) ∈ (addL (addL (addL ([] : List Int32) (x0 &&& (2147483647 : Int32))) (x1 &&& (2147483647 : Int32))) (x2 &&& (2147483647 : Int32))) then 1 else 0 : Int32) = (0 : Int32) then (0 : Int32) else (1 : Int32)))])
        refine Go.iload X205 hx (hb hby at_265) rfl rfl  ?_
        refine Go.icmpNo X205 hx (hb hby at_267) rfl (teq B206).2 ?_
        refine Go.iconst X205 hx (hb hby at_270) rfl (1 : Int32) rfl ?_
        refine Go.goto X205 hx (hb hby at_271) rfl 275 (by decide) (by decide) ?_
        exact Go.retZ X205 hx (z' := (1 : Int32)) hret hlk (hb hby at_275) rfl (by decide) ⟨by first | rfl | simp [hc204], M199⟩ (Nat.le_of_ble_eq_true rfl) (Nat.le_of_ble_eq_true rfl)
      · refine Go.ifNo X203 hx (hb hby at_204) rfl ((if0 _ _).trans (feq hc204).1) ?_
        refine Go.iload X203 hx (hb hby at_207) rfl rfl  ?_
        refine Go.iconst X203 hx (hb hby at_209) rfl (2 : Int32) rfl ?_
        refine Go.icmpNo X203 hx (hb hby at_210) rfl (flt (by decide : ¬ ((2 : Int32) < (2 : Int32)))).1 ?_
        refine Go.iload X203 hx (hb hby at_213) rfl rfl  ?_
        refine Go.iload X203 hx (hb hby at_215) rfl rfl  ?_
        refine Go.iload X203 hx (hb hby at_217) rfl rfl  ?_
        refine Go.iload X203 hx (hb hby at_219) rfl rfl  ?_
        refine Go.iload X203 hx (hb hby at_221) rfl rfl  ?_
        refine Go.pureS X203 hx hZ hown (wd 44 rfl) (wd 45 rfl) (wd 3 rfl) (wd 46 rfl) (by decide) [(.int (pk ((((x5).toUInt32 >>> ((6 : Int32) &&& 31).toUInt32).toInt32) &&& (3 : Int32)) (x0 &&& (2147483647 : Int32)) (x1 &&& (2147483647 : Int32)) (x2 &&& (2147483647 : Int32)) x4)), (.int (3 : Int32)), (.int (x0 &&& (2147483647 : Int32))), (.int (x1 &&& (2147483647 : Int32))), (.int (x2 &&& (2147483647 : Int32)))] [] (lwIn3 l Z a0 hw (pk ((((x5).toUInt32 >>> ((6 : Int32) &&& 31).toUInt32).toInt32) &&& (3 : Int32)) (x0 &&& (2147483647 : Int32)) (x1 &&& (2147483647 : Int32)) (x2 &&& (2147483647 : Int32)) x4) (x0 &&& (2147483647 : Int32)) (x1 &&& (2147483647 : Int32)) (x2 &&& (2147483647 : Int32)) T198.heap) e203 rfl (by rw [hml]; rfl) pd_7 rfl (hb hby at_223) (Nat.le_of_ble_eq_true rfl) (Nat.le_of_ble_eq_true rfl) (Nat.le_of_ble_eq_true rfl) (Nat.le_of_ble_eq_true rfl) ?_
        intro T207 X207 e207
        by_cases hc208 : (if (pk ((((x5).toUInt32 >>> ((6 : Int32) &&& 31).toUInt32).toInt32) &&& (3 : Int32)) (x0 &&& (2147483647 : Int32)) (x1 &&& (2147483647 : Int32)) (x2 &&& (2147483647 : Int32)) x4) ∈ (addL (addL (addL ([] : List Int32) (x0 &&& (2147483647 : Int32))) (x1 &&& (2147483647 : Int32))) (x2 &&& (2147483647 : Int32))) then 1 else 0 : Int32) = (0 : Int32)
        · refine Go.ifYes X207 hx (hb hby at_226) rfl 255 ((if0 _ _).trans (teq hc208).1) (by decide) (by decide) ?_
          refine Go.iconst X207 hx (hb hby at_255) rfl (0 : Int32) rfl ?_
          refine Go.istore X207 hx (hb hby at_256) rfl  #[.val (.int x0), .val (.int x1), .val (.int x2), .val (.int x3), .val (.int x4), .val (.int x5), .val (.int (x0 &&& (2147483647 : Int32))), .val (.int (x1 &&& (2147483647 : Int32))), .val (.int (x2 &&& (2147483647 : Int32))), .val (.int (3 : Int32)), .val (.int (2 : Int32)), .val (.int (pk ((((x5).toUInt32 >>> ((4 : Int32) &&& 31).toUInt32).toInt32) &&& (3 : Int32)) (x0 &&& (2147483647 : Int32)) (x1 &&& (2147483647 : Int32)) (x2 &&& (2147483647 : Int32)) x3)), .val (.int (pk ((((x5).toUInt32 >>> ((6 : Int32) &&& 31).toUInt32).toInt32) &&& (3 : Int32)) (x0 &&& (2147483647 : Int32)) (x1 &&& (2147483647 : Int32)) (x2 &&& (2147483647 : Int32)) x4)), .val (.int (pk ((((x5).toUInt32 >>> ((8 : Int32) &&& 31).toUInt32).toInt32) &&& (3 : Int32)) (x0 &&& (2147483647 : Int32)) (x1 &&& (2147483647 : Int32)) (x2 &&& (2147483647 : Int32)) (x3 ^^^ x4))), .val (.ref b123), .val (.ref b131), .val (.int (0 : Int32))] rfl ?_
          refine Go.aload X207 hx (hb hby at_258) rfl rfl rfl ?_
          refine Go.aload X207 hx (hb hby at_260) rfl rfl rfl ?_
          refine Go.pureV X207 hx hZ hown (wd 39 rfl) (wd 40 rfl) (notFace_of_selects (args := #[]) (mvT hZ (wd 42 rfl))) (wd 42 rfl) (wd 41 rfl) (wd 8 rfl) (wd 43 rfl) (by decide) [(.ref b123)] [] E202 (isAll2 l Z a0 hw b131 a_NONE b123 k123 (pk ((((x5).toUInt32 >>> ((4 : Int32) &&& 31).toUInt32).toInt32) &&& (3 : Int32)) (x0 &&& (2147483647 : Int32)) (x1 &&& (2147483647 : Int32)) (x2 &&& (2147483647 : Int32)) x3) (pk ((((x5).toUInt32 >>> ((6 : Int32) &&& 31).toUInt32).toInt32) &&& (3 : Int32)) (x0 &&& (2147483647 : Int32)) (x1 &&& (2147483647 : Int32)) (x2 &&& (2147483647 : Int32)) x4) (addL (addL (addL ([] : List Int32) (x0 &&& (2147483647 : Int32))) (x1 &&& (2147483647 : Int32))) (x2 &&& (2147483647 : Int32))) T198.heap E202 R198.2.1 (rep_read4 R198 (Nat.le_trans (Nat.le_trans (addL_len _ _) (Nat.succ_le_succ (Nat.le_trans (addL_len _ _) (Nat.succ_le_succ (Nat.le_trans (addL_len _ _) (Nat.succ_le_succ (Nat.le_refl 0))))))) (Nat.le_of_ble_eq_true rfl))) V201) e207 rfl (by rw [hml]; rfl) pd_6 rfl (hb hby at_262) (Nat.le_of_ble_eq_true rfl) (Nat.le_of_ble_eq_true rfl) (Nat.le_of_ble_eq_true rfl) (Nat.le_of_ble_eq_true rfl) ?_
          intro T209 X209 e209
          have B210 : (if (if (pk ((((x5).toUInt32 >>> ((4 : Int32) &&& 31).toUInt32).toInt32) &&& (3 : Int32)) (x0 &&& (2147483647 : Int32)) (x1 &&& (2147483647 : Int32)) (x2 &&& (2147483647 : Int32)) x3) ∈ (addL (addL (addL ([] : List Int32) (x0 &&& (2147483647 : Int32))) (x1 &&& (2147483647 : Int32))) (x2 &&& (2147483647 : Int32))) then 1 else 0 : Int32) = (0 : Int32) then (0 : Int32) else if (if (pk ((((x5).toUInt32 >>> ((6 : Int32) &&& 31).toUInt32).toInt32) &&& (3 : Int32)) (x0 &&& (2147483647 : Int32)) (x1 &&& (2147483647 : Int32)) (x2 &&& (2147483647 : Int32)) x4) ∈ (addL (addL (addL ([] : List Int32) (x0 &&& (2147483647 : Int32))) (x1 &&& (2147483647 : Int32))) (x2 &&& (2147483647 : Int32))) then 1 else 0 : Int32) = (0 : Int32) then (0 : Int32) else (1 : Int32)) = (0 : Int32) := by rw [if_neg hc204, if_pos hc208]
          show Go p e below _ T209 (mkF m 265 #[.val (.int x0), .val (.int x1), .val (.int x2), .val (.int x3), .val (.int x4), .val (.int x5), .val (.int (x0 &&& (2147483647 : Int32))), .val (.int (x1 &&& (2147483647 : Int32))), .val (.int (x2 &&& (2147483647 : Int32))), .val (.int (3 : Int32)), .val (.int (2 : Int32)), .val (.int (pk ((((x5).toUInt32 >>> ((4 : Int32) &&& 31).toUInt32).toInt32) &&& (3 : Int32)) (x0 &&& (2147483647 : Int32)) (x1 &&& (2147483647 : Int32)) (x2 &&& (2147483647 : Int32)) x3)), .val (.int (pk ((((x5).toUInt32 >>> ((6 : Int32) &&& 31).toUInt32).toInt32) &&& (3 : Int32)) (x0 &&& (2147483647 : Int32)) (x1 &&& (2147483647 : Int32)) (x2 &&& (2147483647 : Int32)) x4)), .val (.int (pk ((((x5).toUInt32 >>> ((8 : Int32) &&& 31).toUInt32).toInt32) &&& (3 : Int32)) (x0 &&& (2147483647 : Int32)) (x1 &&& (2147483647 : Int32)) (x2 &&& (2147483647 : Int32)) (x3 ^^^ x4))), .val (.ref b123), .val (.ref b131), .val (.int (0 : Int32))] [(.int (if (if (pk ((((x5).toUInt32 >>> ((4 : Int32) &&& 31).toUInt32).toInt32) &&& (3 : Int32)) (x0 &&& (2147483647 : Int32)) (x1 &&& (2147483647 : Int32)) (x2 &&& (2147483647 : Int32)) x3) ∈ (addL (addL (addL ([] : List Int32) (x0 &&& (2147483647 : Int32))) (x1 &&& (2147483647 : Int32))) (x2 &&& (2147483647 : Int32))) then 1 else 0 : Int32) = (0 : Int32) then (0 : Int32) else if (if (pk ((((x5).toUInt32 >>> ((6 : Int32) &&& 31).toUInt32).toInt32) &&& (3 : Int32)) (x0 &&& (2147483647 : Int32)) (x1 &&& (2147483647 : Int32)) (x2 &&& (2147483647 : Int32)) x4) ∈ (addL (addL (addL ([] : List Int32) (x0 &&& (2147483647 : Int32))) (x1 &&& (2147483647 : Int32))) (x2 &&& (2147483647 : Int32))) then 1 else 0 : Int32) = (0 : Int32) then (0 : Int32) else (1 : Int32)))])
          refine Go.iload X209 hx (hb hby at_265) rfl rfl  ?_
          refine Go.icmpNo X209 hx (hb hby at_267) rfl (teq B210).2 ?_
          refine Go.iconst X209 hx (hb hby at_270) rfl (1 : Int32) rfl ?_
          refine Go.goto X209 hx (hb hby at_271) rfl 275 (by decide) (by decide) ?_
          exact Go.retZ X209 hx (z' := (1 : Int32)) hret hlk (hb hby at_275) rfl (by decide) ⟨by first | rfl | simp [hc204, hc208], M199⟩ (Nat.le_of_ble_eq_true rfl) (Nat.le_of_ble_eq_true rfl)
        · refine Go.ifNo X207 hx (hb hby at_226) rfl ((if0 _ _).trans (feq hc208).1) ?_
          refine Go.iload X207 hx (hb hby at_229) rfl rfl  ?_
          refine Go.iconst X207 hx (hb hby at_231) rfl (3 : Int32) rfl ?_
          refine Go.icmpYes X207 hx (hb hby at_232) rfl 251 (tlt (by decide : (2 : Int32) < (3 : Int32))).1 (by decide) (by decide) ?_
          refine Go.iconst X207 hx (hb hby at_251) rfl (1 : Int32) rfl ?_
          refine Go.goto X207 hx (hb hby at_252) rfl 256 (by decide) (by decide) ?_
          refine Go.istore X207 hx (hb hby at_256) rfl  #[.val (.int x0), .val (.int x1), .val (.int x2), .val (.int x3), .val (.int x4), .val (.int x5), .val (.int (x0 &&& (2147483647 : Int32))), .val (.int (x1 &&& (2147483647 : Int32))), .val (.int (x2 &&& (2147483647 : Int32))), .val (.int (3 : Int32)), .val (.int (2 : Int32)), .val (.int (pk ((((x5).toUInt32 >>> ((4 : Int32) &&& 31).toUInt32).toInt32) &&& (3 : Int32)) (x0 &&& (2147483647 : Int32)) (x1 &&& (2147483647 : Int32)) (x2 &&& (2147483647 : Int32)) x3)), .val (.int (pk ((((x5).toUInt32 >>> ((6 : Int32) &&& 31).toUInt32).toInt32) &&& (3 : Int32)) (x0 &&& (2147483647 : Int32)) (x1 &&& (2147483647 : Int32)) (x2 &&& (2147483647 : Int32)) x4)), .val (.int (pk ((((x5).toUInt32 >>> ((8 : Int32) &&& 31).toUInt32).toInt32) &&& (3 : Int32)) (x0 &&& (2147483647 : Int32)) (x1 &&& (2147483647 : Int32)) (x2 &&& (2147483647 : Int32)) (x3 ^^^ x4))), .val (.ref b123), .val (.ref b131), .val (.int (1 : Int32))] rfl ?_
          refine Go.aload X207 hx (hb hby at_258) rfl rfl rfl ?_
          refine Go.aload X207 hx (hb hby at_260) rfl rfl rfl ?_
          refine Go.pureV X207 hx hZ hown (wd 39 rfl) (wd 40 rfl) (notFace_of_selects (args := #[]) (mvT hZ (wd 42 rfl))) (wd 42 rfl) (wd 41 rfl) (wd 8 rfl) (wd 43 rfl) (by decide) [(.ref b123)] [] E202 (isAll2 l Z a0 hw b131 a_NONE b123 k123 (pk ((((x5).toUInt32 >>> ((4 : Int32) &&& 31).toUInt32).toInt32) &&& (3 : Int32)) (x0 &&& (2147483647 : Int32)) (x1 &&& (2147483647 : Int32)) (x2 &&& (2147483647 : Int32)) x3) (pk ((((x5).toUInt32 >>> ((6 : Int32) &&& 31).toUInt32).toInt32) &&& (3 : Int32)) (x0 &&& (2147483647 : Int32)) (x1 &&& (2147483647 : Int32)) (x2 &&& (2147483647 : Int32)) x4) (addL (addL (addL ([] : List Int32) (x0 &&& (2147483647 : Int32))) (x1 &&& (2147483647 : Int32))) (x2 &&& (2147483647 : Int32))) T198.heap E202 R198.2.1 (rep_read4 R198 (Nat.le_trans (Nat.le_trans (addL_len _ _) (Nat.succ_le_succ (Nat.le_trans (addL_len _ _) (Nat.succ_le_succ (Nat.le_trans (addL_len _ _) (Nat.succ_le_succ (Nat.le_refl 0))))))) (Nat.le_of_ble_eq_true rfl))) V201) e207 rfl (by rw [hml]; rfl) pd_6 rfl (hb hby at_262) (Nat.le_of_ble_eq_true rfl) (Nat.le_of_ble_eq_true rfl) (Nat.le_of_ble_eq_true rfl) (Nat.le_of_ble_eq_true rfl) ?_
          intro T211 X211 e211
          have B212 : (if (if (pk ((((x5).toUInt32 >>> ((4 : Int32) &&& 31).toUInt32).toInt32) &&& (3 : Int32)) (x0 &&& (2147483647 : Int32)) (x1 &&& (2147483647 : Int32)) (x2 &&& (2147483647 : Int32)) x3) ∈ (addL (addL (addL ([] : List Int32) (x0 &&& (2147483647 : Int32))) (x1 &&& (2147483647 : Int32))) (x2 &&& (2147483647 : Int32))) then 1 else 0 : Int32) = (0 : Int32) then (0 : Int32) else if (if (pk ((((x5).toUInt32 >>> ((6 : Int32) &&& 31).toUInt32).toInt32) &&& (3 : Int32)) (x0 &&& (2147483647 : Int32)) (x1 &&& (2147483647 : Int32)) (x2 &&& (2147483647 : Int32)) x4) ∈ (addL (addL (addL ([] : List Int32) (x0 &&& (2147483647 : Int32))) (x1 &&& (2147483647 : Int32))) (x2 &&& (2147483647 : Int32))) then 1 else 0 : Int32) = (0 : Int32) then (0 : Int32) else (1 : Int32)) = (1 : Int32) := by rw [if_neg hc204, if_neg hc208]
          show Go p e below _ T211 (mkF m 265 #[.val (.int x0), .val (.int x1), .val (.int x2), .val (.int x3), .val (.int x4), .val (.int x5), .val (.int (x0 &&& (2147483647 : Int32))), .val (.int (x1 &&& (2147483647 : Int32))), .val (.int (x2 &&& (2147483647 : Int32))), .val (.int (3 : Int32)), .val (.int (2 : Int32)), .val (.int (pk ((((x5).toUInt32 >>> ((4 : Int32) &&& 31).toUInt32).toInt32) &&& (3 : Int32)) (x0 &&& (2147483647 : Int32)) (x1 &&& (2147483647 : Int32)) (x2 &&& (2147483647 : Int32)) x3)), .val (.int (pk ((((x5).toUInt32 >>> ((6 : Int32) &&& 31).toUInt32).toInt32) &&& (3 : Int32)) (x0 &&& (2147483647 : Int32)) (x1 &&& (2147483647 : Int32)) (x2 &&& (2147483647 : Int32)) x4)), .val (.int (pk ((((x5).toUInt32 >>> ((8 : Int32) &&& 31).toUInt32).toInt32) &&& (3 : Int32)) (x0 &&& (2147483647 : Int32)) (x1 &&& (2147483647 : Int32)) (x2 &&& (2147483647 : Int32)) (x3 ^^^ x4))), .val (.ref b123), .val (.ref b131), .val (.int (1 : Int32))] [(.int (if (if (pk ((((x5).toUInt32 >>> ((4 : Int32) &&& 31).toUInt32).toInt32) &&& (3 : Int32)) (x0 &&& (2147483647 : Int32)) (x1 &&& (2147483647 : Int32)) (x2 &&& (2147483647 : Int32)) x3) ∈ (addL (addL (addL ([] : List Int32) (x0 &&& (2147483647 : Int32))) (x1 &&& (2147483647 : Int32))) (x2 &&& (2147483647 : Int32))) then 1 else 0 : Int32) = (0 : Int32) then (0 : Int32) else if (if (pk ((((x5).toUInt32 >>> ((6 : Int32) &&& 31).toUInt32).toInt32) &&& (3 : Int32)) (x0 &&& (2147483647 : Int32)) (x1 &&& (2147483647 : Int32)) (x2 &&& (2147483647 : Int32)) x4) ∈ (addL (addL (addL ([] : List Int32) (x0 &&& (2147483647 : Int32))) (x1 &&& (2147483647 : Int32))) (x2 &&& (2147483647 : Int32))) then 1 else 0 : Int32) = (0 : Int32) then (0 : Int32) else (1 : Int32)))])
          refine Go.iload X211 hx (hb hby at_265) rfl rfl  ?_
          refine Go.icmpNo X211 hx (hb hby at_267) rfl (teq B212).2 ?_
          refine Go.iconst X211 hx (hb hby at_270) rfl (1 : Int32) rfl ?_
          refine Go.goto X211 hx (hb hby at_271) rfl 275 (by decide) (by decide) ?_
          exact Go.retZ X211 hx (z' := (1 : Int32)) hret hlk (hb hby at_275) rfl (by decide) ⟨by first | rfl | simp [hc204, hc208], M199⟩ (Nat.le_of_ble_eq_true rfl) (Nat.le_of_ble_eq_true rfl)
  · rw [hk]
    refine Go.iload X3 hx (hb hby at_92) rfl rfl  ?_
    refine Go.newP X3 hx hZ (wd 5 rfl) e3 3 (by decide) 3 (by decide) (by decide) (Nat.le_of_ble_eq_true rfl) (Nat.le_of_ble_eq_true rfl) "[I" (by decide) (hb hby at_94) rfl ?_
    intro T213 h213 b213 k213 g213 X213 e213 E213 V213' A213
    have V213 : Arv Z h213 b213 k213 .int (3 : Int32) [(.int (0 : Int32)), (.int (0 : Int32)), (.int (0 : Int32))] (.int (0 : Int32)) := V213'
    have q213 : Z.heap.size ≤ b213 := Nat.le_trans O0.2.1 (Nat.le_of_eq g213.symm)
    have O214 := O0.ext E213
    refine Go.astore X213 hx (hb hby at_96) rfl rfl #[.val (.int x0), .val (.int x1), .val (.int x2), .val (.int x3), .val (.int x4), .val (.int x5), .val (.int (x0 &&& (2147483647 : Int32))), .val (.int (x1 &&& (2147483647 : Int32))), .val (.int (x2 &&& (2147483647 : Int32))), .val (.int (x5 &&& (3 : Int32))), .val (.int (3 : Int32)), .val (.int (pk ((((x5).toUInt32 >>> ((4 : Int32) &&& 31).toUInt32).toInt32) &&& (3 : Int32)) (x0 &&& (2147483647 : Int32)) (x1 &&& (2147483647 : Int32)) (x2 &&& (2147483647 : Int32)) x3)), .val (.int (pk ((((x5).toUInt32 >>> ((6 : Int32) &&& 31).toUInt32).toInt32) &&& (3 : Int32)) (x0 &&& (2147483647 : Int32)) (x1 &&& (2147483647 : Int32)) (x2 &&& (2147483647 : Int32)) x4)), .val (.int (pk ((((x5).toUInt32 >>> ((8 : Int32) &&& 31).toUInt32).toInt32) &&& (3 : Int32)) (x0 &&& (2147483647 : Int32)) (x1 &&& (2147483647 : Int32)) (x2 &&& (2147483647 : Int32)) (x3 ^^^ x4))), .val (.ref b213), .unset, .unset] rfl ?_
    refine Go.iload X213 hx (hb hby at_98) rfl rfl  ?_
    refine Go.iconst X213 hx (hb hby at_100) rfl (1 : Int32) rfl ?_
    refine Go.icmpNo X213 hx (hb hby at_101) rfl (flt (by decide : ¬ ((3 : Int32) < (1 : Int32)))).1 ?_
    refine Go.aload X213 hx (hb hby at_104) rfl rfl rfl ?_
    refine Go.iconst X213 hx (hb hby at_106) rfl (0 : Int32) rfl ?_
    refine Go.iload X213 hx (hb hby at_107) rfl rfl  ?_
    refine Go.iastore X213 hx hZ V213 e213 ⟨by decide, by decide⟩ 0 (by decide) (Nat.le_of_ble_eq_true rfl)  (hb hby at_109) rfl ?_
    intro T215 h215 X215 e215 W215 V215'
    have V215 : Arv Z h215 b213 k213 .int (3 : Int32) [(.int (pk ((((x5).toUInt32 >>> ((4 : Int32) &&& 31).toUInt32).toInt32) &&& (3 : Int32)) (x0 &&& (2147483647 : Int32)) (x1 &&& (2147483647 : Int32)) (x2 &&& (2147483647 : Int32)) x3)), (.int (0 : Int32)), (.int (0 : Int32))] (.int (0 : Int32)) := V215'
    have O216 := O214.wr W215 q213
    have N217 := Fr.snoc X215 (Fr.nil _) q213
    refine Go.iload X215 hx (hb hby at_110) rfl rfl  ?_
    refine Go.iconst X215 hx (hb hby at_112) rfl (2 : Int32) rfl ?_
    refine Go.icmpNo X215 hx (hb hby at_113) rfl (flt (by decide : ¬ ((3 : Int32) < (2 : Int32)))).1 ?_
    refine Go.aload X215 hx (hb hby at_116) rfl rfl rfl ?_
    refine Go.iconst X215 hx (hb hby at_118) rfl (1 : Int32) rfl ?_
    refine Go.iload X215 hx (hb hby at_119) rfl rfl  ?_
    refine Go.iastore X215 hx hZ V215 e215 ⟨by decide, by decide⟩ 1 (by decide) (Nat.le_of_ble_eq_true rfl)  (hb hby at_121) rfl ?_
    intro T218 h218 X218 e218 W218 V218'
    have V218 : Arv Z h218 b213 k213 .int (3 : Int32) [(.int (pk ((((x5).toUInt32 >>> ((4 : Int32) &&& 31).toUInt32).toInt32) &&& (3 : Int32)) (x0 &&& (2147483647 : Int32)) (x1 &&& (2147483647 : Int32)) (x2 &&& (2147483647 : Int32)) x3)), (.int (pk ((((x5).toUInt32 >>> ((6 : Int32) &&& 31).toUInt32).toInt32) &&& (3 : Int32)) (x0 &&& (2147483647 : Int32)) (x1 &&& (2147483647 : Int32)) (x2 &&& (2147483647 : Int32)) x4)), (.int (0 : Int32))] (.int (0 : Int32)) := V218'
    have O219 := O216.wr W218 q213
    have N220 := Fr.snoc X218 N217 q213
    refine Go.iload X218 hx (hb hby at_122) rfl rfl  ?_
    refine Go.iconst X218 hx (hb hby at_124) rfl (3 : Int32) rfl ?_
    refine Go.icmpNo X218 hx (hb hby at_125) rfl (flt (by decide : ¬ ((3 : Int32) < (3 : Int32)))).1 ?_
    refine Go.aload X218 hx (hb hby at_128) rfl rfl rfl ?_
    refine Go.iconst X218 hx (hb hby at_130) rfl (2 : Int32) rfl ?_
    refine Go.iload X218 hx (hb hby at_131) rfl rfl  ?_
    refine Go.iastore X218 hx hZ V218 e218 ⟨by decide, by decide⟩ 2 (by decide) (Nat.le_of_ble_eq_true rfl)  (hb hby at_133) rfl ?_
    intro T221 h221 X221 e221 W221 V221'
    have V221 : Arv Z h221 b213 k213 .int (3 : Int32) [(.int (pk ((((x5).toUInt32 >>> ((4 : Int32) &&& 31).toUInt32).toInt32) &&& (3 : Int32)) (x0 &&& (2147483647 : Int32)) (x1 &&& (2147483647 : Int32)) (x2 &&& (2147483647 : Int32)) x3)), (.int (pk ((((x5).toUInt32 >>> ((6 : Int32) &&& 31).toUInt32).toInt32) &&& (3 : Int32)) (x0 &&& (2147483647 : Int32)) (x1 &&& (2147483647 : Int32)) (x2 &&& (2147483647 : Int32)) x4)), (.int (pk ((((x5).toUInt32 >>> ((8 : Int32) &&& 31).toUInt32).toInt32) &&& (3 : Int32)) (x0 &&& (2147483647 : Int32)) (x1 &&& (2147483647 : Int32)) (x2 &&& (2147483647 : Int32)) (x3 ^^^ x4)))] (.int (0 : Int32)) := V221'
    have O222 := O219.wr W221 q213
    have N223 := Fr.snoc X221 N220 q213
    refine Go.newO X221 hx hZ hown (wd 6 rfl) (wd 7 rfl) (wd 8 rfl) e221 (hb hby at_134) rfl (Nat.le_of_ble_eq_true rfl) (Nat.le_of_ble_eq_true rfl) ?_
    intro T224 h224 b224 g224 X224 e224 E224 A224 D224
    have F225 : Fld Z h224 b224 "com/example/overrule/overrule/engine/IntSet" "elements" "[I" .null := D224 (Or.inl (wd 18 rfl)) (ty := (.array .int)) (by decide)
    have F226 : Fld Z h224 b224 "com/example/overrule/overrule/engine/IntSet" "slots" "[I" .null := D224 (Or.inl (wd 20 rfl)) (ty := (.array .int)) (by decide)
    have F227 : Fld Z h224 b224 "com/example/overrule/overrule/engine/IntSet" "size" "I" (.int (0 : Int32)) := D224 (Or.inl (wd 38 rfl)) (ty := .int) (by decide)
    have q224 : Z.heap.size ≤ b224 := Nat.le_trans O222.2.1 (Nat.le_of_eq g224.symm)
    have ne_b213_b224 : b213 ≠ b224 := Nat.ne_of_lt (Nat.lt_of_lt_of_le V221.lt (Nat.le_of_eq g224.symm))
    have O228 := O222.ext E224
    have V229 := V221.ext E224
    refine Go.dup X224 hx (hb hby at_137) rfl rfl ?_
    refine Go.callI X224 hx hZ rfl hown (wd 9 rfl) (wd 10 rfl) (wd 8 rfl) (wd 11 rfl) (by decide) [] [(.ref b224)] (isInit l Z a0 hw b224 a_NONE k_NONE h224 O228 FF A224 q224 F225 F227 F226) e224 rfl (by rw [hml]; rfl) pd_5 rfl (hb hby at_138) (Nat.le_of_ble_eq_true rfl) (Nat.le_of_ble_eq_true rfl) (Nat.le_of_ble_eq_true rfl) (Nat.le_of_ble_eq_true rfl) ?_
    rintro vv230 T230 L230 X230 Q230
    obtain ⟨rfl, N230, K230, Y230, Fe230, Fn230, Fs230⟩ := Q230
    have M231 := Fr.app N223 N230
    have O232 := O228.keep K230 (allS q224 (all0))
    have V233 := V229.keep K230 (ninS ne_b213_b224 (nin0))
    have E234 := A224.keep K230
    have R235 : Rep Z a_NONE T230.heap b224 ([] : List Int32) := ⟨q224, good_nil, Y230, Or.inl ⟨rfl, Fe230, Fn230, Fs230⟩⟩
    show Go p e below _ T230 (mkF m 141 #[.val (.int x0), .val (.int x1), .val (.int x2), .val (.int x3), .val (.int x4), .val (.int x5), .val (.int (x0 &&& (2147483647 : Int32))), .val (.int (x1 &&& (2147483647 : Int32))), .val (.int (x2 &&& (2147483647 : Int32))), .val (.int (x5 &&& (3 : Int32))), .val (.int (3 : Int32)), .val (.int (pk ((((x5).toUInt32 >>> ((4 : Int32) &&& 31).toUInt32).toInt32) &&& (3 : Int32)) (x0 &&& (2147483647 : Int32)) (x1 &&& (2147483647 : Int32)) (x2 &&& (2147483647 : Int32)) x3)), .val (.int (pk ((((x5).toUInt32 >>> ((6 : Int32) &&& 31).toUInt32).toInt32) &&& (3 : Int32)) (x0 &&& (2147483647 : Int32)) (x1 &&& (2147483647 : Int32)) (x2 &&& (2147483647 : Int32)) x4)), .val (.int (pk ((((x5).toUInt32 >>> ((8 : Int32) &&& 31).toUInt32).toInt32) &&& (3 : Int32)) (x0 &&& (2147483647 : Int32)) (x1 &&& (2147483647 : Int32)) (x2 &&& (2147483647 : Int32)) (x3 ^^^ x4))), .val (.ref b213), .unset, .unset] [(.ref b224)])
    refine Go.astore X230 hx (hb hby at_141) rfl rfl #[.val (.int x0), .val (.int x1), .val (.int x2), .val (.int x3), .val (.int x4), .val (.int x5), .val (.int (x0 &&& (2147483647 : Int32))), .val (.int (x1 &&& (2147483647 : Int32))), .val (.int (x2 &&& (2147483647 : Int32))), .val (.int (x5 &&& (3 : Int32))), .val (.int (3 : Int32)), .val (.int (pk ((((x5).toUInt32 >>> ((4 : Int32) &&& 31).toUInt32).toInt32) &&& (3 : Int32)) (x0 &&& (2147483647 : Int32)) (x1 &&& (2147483647 : Int32)) (x2 &&& (2147483647 : Int32)) x3)), .val (.int (pk ((((x5).toUInt32 >>> ((6 : Int32) &&& 31).toUInt32).toInt32) &&& (3 : Int32)) (x0 &&& (2147483647 : Int32)) (x1 &&& (2147483647 : Int32)) (x2 &&& (2147483647 : Int32)) x4)), .val (.int (pk ((((x5).toUInt32 >>> ((8 : Int32) &&& 31).toUInt32).toInt32) &&& (3 : Int32)) (x0 &&& (2147483647 : Int32)) (x1 &&& (2147483647 : Int32)) (x2 &&& (2147483647 : Int32)) (x3 ^^^ x4))), .val (.ref b213), .val (.ref b224), .unset] rfl ?_
    show Go p e below _ T230 (mkF m 143 #[.val (.int x0), .val (.int x1), .val (.int x2), .val (.int x3), .val (.int x4), .val (.int x5), .val (.int (x0 &&& (2147483647 : Int32))), .val (.int (x1 &&& (2147483647 : Int32))), .val (.int (x2 &&& (2147483647 : Int32))), .val (.int (x5 &&& (3 : Int32))), .val (.int (3 : Int32)), .val (.int (pk ((((x5).toUInt32 >>> ((4 : Int32) &&& 31).toUInt32).toInt32) &&& (3 : Int32)) (x0 &&& (2147483647 : Int32)) (x1 &&& (2147483647 : Int32)) (x2 &&& (2147483647 : Int32)) x3)), .val (.int (pk ((((x5).toUInt32 >>> ((6 : Int32) &&& 31).toUInt32).toInt32) &&& (3 : Int32)) (x0 &&& (2147483647 : Int32)) (x1 &&& (2147483647 : Int32)) (x2 &&& (2147483647 : Int32)) x4)), .val (.int (pk ((((x5).toUInt32 >>> ((8 : Int32) &&& 31).toUInt32).toInt32) &&& (3 : Int32)) (x0 &&& (2147483647 : Int32)) (x1 &&& (2147483647 : Int32)) (x2 &&& (2147483647 : Int32)) (x3 ^^^ x4))), .val (.ref b213), .val (.ref b224), .unset] [])
    rcases own_and3 x5 with hk | hk | hk | hk
    · rw [hk]
      refine Go.iload X230 hx (hb hby at_143) rfl rfl  ?_
      refine Go.iconst X230 hx (hb hby at_145) rfl (1 : Int32) rfl ?_
      refine Go.icmpYes X230 hx (hb hby at_146) rfl 157 (tlt (by decide : (0 : Int32) < (1 : Int32))).1 (by decide) (by decide) ?_
      refine Go.iload X230 hx (hb hby at_157) rfl rfl  ?_
      refine Go.iconst X230 hx (hb hby at_159) rfl (2 : Int32) rfl ?_
      refine Go.icmpYes X230 hx (hb hby at_160) rfl 171 (tlt (by decide : (0 : Int32) < (2 : Int32))).1 (by decide) (by decide) ?_
      refine Go.iload X230 hx (hb hby at_171) rfl rfl  ?_
      refine Go.iconst X230 hx (hb hby at_173) rfl (3 : Int32) rfl ?_
      refine Go.icmpYes X230 hx (hb hby at_174) rfl 185 (tlt (by decide : (0 : Int32) < (3 : Int32))).1 (by decide) (by decide) ?_
      show Go p e below _ T230 (mkF m 185 #[.val (.int x0), .val (.int x1), .val (.int x2), .val (.int x3), .val (.int x4), .val (.int x5), .val (.int (x0 &&& (2147483647 : Int32))), .val (.int (x1 &&& (2147483647 : Int32))), .val (.int (x2 &&& (2147483647 : Int32))), .val (.int (0 : Int32)), .val (.int (3 : Int32)), .val (.int (pk ((((x5).toUInt32 >>> ((4 : Int32) &&& 31).toUInt32).toInt32) &&& (3 : Int32)) (x0 &&& (2147483647 : Int32)) (x1 &&& (2147483647 : Int32)) (x2 &&& (2147483647 : Int32)) x3)), .val (.int (pk ((((x5).toUInt32 >>> ((6 : Int32) &&& 31).toUInt32).toInt32) &&& (3 : Int32)) (x0 &&& (2147483647 : Int32)) (x1 &&& (2147483647 : Int32)) (x2 &&& (2147483647 : Int32)) x4)), .val (.int (pk ((((x5).toUInt32 >>> ((8 : Int32) &&& 31).toUInt32).toInt32) &&& (3 : Int32)) (x0 &&& (2147483647 : Int32)) (x1 &&& (2147483647 : Int32)) (x2 &&& (2147483647 : Int32)) (x3 ^^^ x4))), .val (.ref b213), .val (.ref b224), .unset] [])
      refine Go.iload X230 hx (hb hby at_185) rfl rfl  ?_
      refine Go.iconst X230 hx (hb hby at_187) rfl (1 : Int32) rfl ?_
      refine Go.icmpNo X230 hx (hb hby at_188) rfl (flt (by decide : ¬ ((3 : Int32) < (1 : Int32)))).1 ?_
      refine Go.iload X230 hx (hb hby at_191) rfl rfl  ?_
      refine Go.iload X230 hx (hb hby at_193) rfl rfl  ?_
      refine Go.iload X230 hx (hb hby at_195) rfl rfl  ?_
      refine Go.iload X230 hx (hb hby at_197) rfl rfl  ?_
      refine Go.iload X230 hx (hb hby at_199) rfl rfl  ?_
      refine Go.pureS X230 hx hZ hown (wd 44 rfl) (wd 45 rfl) (wd 3 rfl) (wd 46 rfl) (by decide) [(.int (pk ((((x5).toUInt32 >>> ((4 : Int32) &&& 31).toUInt32).toInt32) &&& (3 : Int32)) (x0 &&& (2147483647 : Int32)) (x1 &&& (2147483647 : Int32)) (x2 &&& (2147483647 : Int32)) x3)), (.int (0 : Int32)), (.int (x0 &&& (2147483647 : Int32))), (.int (x1 &&& (2147483647 : Int32))), (.int (x2 &&& (2147483647 : Int32)))] [] (lwIn0 l Z a0 hw (pk ((((x5).toUInt32 >>> ((4 : Int32) &&& 31).toUInt32).toInt32) &&& (3 : Int32)) (x0 &&& (2147483647 : Int32)) (x1 &&& (2147483647 : Int32)) (x2 &&& (2147483647 : Int32)) x3) (x0 &&& (2147483647 : Int32)) (x1 &&& (2147483647 : Int32)) (x2 &&& (2147483647 : Int32)) T230.heap) rfl rfl (by rw [hml]; rfl) pd_7 rfl (hb hby at_201) (Nat.le_of_ble_eq_true rfl) (Nat.le_of_ble_eq_true rfl) (Nat.le_of_ble_eq_true rfl) (Nat.le_of_ble_eq_true rfl) ?_
      intro T236 X236 e236
      by_cases hc237 : (if (pk ((((x5).toUInt32 >>> ((4 : Int32) &&& 31).toUInt32).toInt32) &&& (3 : Int32)) (x0 &&& (2147483647 : Int32)) (x1 &&& (2147483647 : Int32)) (x2 &&& (2147483647 : Int32)) x3) ∈ ([] : List Int32) then 1 else 0 : Int32) = (0 : Int32)
      · refine Go.ifYes X236 hx (hb hby at_204) rfl 255 ((if0 _ _).trans (teq hc237).1) (by decide) (by decide) ?_
        refine Go.iconst X236 hx (hb hby at_255) rfl (0 : Int32) rfl ?_
        refine Go.istore X236 hx (hb hby at_256) rfl  #[.val (.int x0), .val (.int x1), .val (.int x2), .val (.int x3), .val (.int x4), .val (.int x5), .val (.int (x0 &&& (2147483647 : Int32))), .val (.int (x1 &&& (2147483647 : Int32))), .val (.int (x2 &&& (2147483647 : Int32))), .val (.int (0 : Int32)), .val (.int (3 : Int32)), .val (.int (pk ((((x5).toUInt32 >>> ((4 : Int32) &&& 31).toUInt32).toInt32) &&& (3 : Int32)) (x0 &&& (2147483647 : Int32)) (x1 &&& (2147483647 : Int32)) (x2 &&& (2147483647 : Int32)) x3)), .val (.int (pk ((((x5).toUInt32 >>> ((6 : Int32) &&& 31).toUInt32).toInt32) &&& (3 : Int32)) (x0 &&& (2147483647 : Int32)) (x1 &&& (2147483647 : Int32)) (x2 &&& (2147483647 : Int32)) x4)), .val (.int (pk ((((x5).toUInt32 >>> ((8 : Int32) &&& 31).toUInt32).toInt32) &&& (3 : Int32)) (x0 &&& (2147483647 : Int32)) (x1 &&& (2147483647 : Int32)) (x2 &&& (2147483647 : Int32)) (x3 ^^^ x4))), .val (.ref b213), .val (.ref b224), .val (.int (0 : Int32))] rfl ?_
        refine Go.aload X236 hx (hb hby at_258) rfl rfl rfl ?_
        refine Go.aload X236 hx (hb hby at_260) rfl rfl rfl ?_
        refine Go.pureV X236 hx hZ hown (wd 39 rfl) (wd 40 rfl) (notFace_of_selects (args := #[]) (mvT hZ (wd 42 rfl))) (wd 42 rfl) (wd 41 rfl) (wd 8 rfl) (wd 43 rfl) (by decide) [(.ref b213)] [] Y230 (isAll3 l Z a0 hw b224 a_NONE b213 k213 (pk ((((x5).toUInt32 >>> ((4 : Int32) &&& 31).toUInt32).toInt32) &&& (3 : Int32)) (x0 &&& (2147483647 : Int32)) (x1 &&& (2147483647 : Int32)) (x2 &&& (2147483647 : Int32)) x3) (pk ((((x5).toUInt32 >>> ((6 : Int32) &&& 31).toUInt32).toInt32) &&& (3 : Int32)) (x0 &&& (2147483647 : Int32)) (x1 &&& (2147483647 : Int32)) (x2 &&& (2147483647 : Int32)) x4) (pk ((((x5).toUInt32 >>> ((8 : Int32) &&& 31).toUInt32).toInt32) &&& (3 : Int32)) (x0 &&& (2147483647 : Int32)) (x1 &&& (2147483647 : Int32)) (x2 &&& (2147483647 : Int32)) (x3 ^^^ x4)) ([] : List Int32) T230.heap Y230 R235.2.1 (rep_read4 R235 (Nat.le_trans (Nat.le_refl 0) (Nat.le_of_ble_eq_true rfl))) V233) e236 rfl (by rw [hml]; rfl) pd_6 rfl (hb hby at_262) (Nat.le_of_ble_eq_true rfl) (Nat.le_of_ble_eq_true rfl) (Nat.le_of_ble_eq_true rfl) (Nat.le_of_ble_eq_true rfl) ?_
        intro T238 X238 e238
        have B239 : (if (if (pk ((((x5).toUInt32 >>> ((4 : Int32) &&& 31).toUInt32).toInt32) &&& (3 : Int32)) (x0 &&& (2147483647 : Int32)) (x1 &&& (2147483647 : Int32)) (x2 &&& (2147483647 : Int32)) x3) ∈ ([] : List Int32) then 1 else 0 : Int32) = (0 : Int32) then (0 : Int32) else if (if (pk ((((x5).toUInt32 >>> ((6 : Int32) &&& 31).toUInt32).toInt32) &&& (3 : Int32)) (x0 &&& (2147483647 : Int32)) (x1 &&& (2147483647 : Int32)) (x2 &&& (2147483647 : Int32)) x4) ∈ ([] : List Int32) then 1 else 0 : Int32) = (0 : Int32) then (0 : Int32) else if (if (pk ((((x5).toUInt32 >>> ((8 : Int32) &&& 31).toUInt32).toInt32) &&& (3 : Int32)) (x0 &&& (2147483647 : Int32)) (x1 &&& (2147483647 : Int32)) (x2 &&& (2147483647 : Int32)) (x3 ^^^ x4)) ∈ ([] : List Int32) then 1 else 0 : Int32) = (0 : Int32) then (0 : Int32) else (1 : Int32)) = (0 : Int32) := by rw [if_pos hc237]
        show Go p e below _ T238 (mkF m 265 #[.val (.int x0), .val (.int x1), .val (.int x2), .val (.int x3), .val (.int x4), .val (.int x5), .val (.int (x0 &&& (2147483647 : Int32))), .val (.int (x1 &&& (2147483647 : Int32))), .val (.int (x2 &&& (2147483647 : Int32))), .val (.int (0 : Int32)), .val (.int (3 : Int32)), .val (.int (pk ((((x5).toUInt32 >>> ((4 : Int32) &&& 31).toUInt32).toInt32) &&& (3 : Int32)) (x0 &&& (2147483647 : Int32)) (x1 &&& (2147483647 : Int32)) (x2 &&& (2147483647 : Int32)) x3)), .val (.int (pk ((((x5).toUInt32 >>> ((6 : Int32) &&& 31).toUInt32).toInt32) &&& (3 : Int32)) (x0 &&& (2147483647 : Int32)) (x1 &&& (2147483647 : Int32)) (x2 &&& (2147483647 : Int32)) x4)), .val (.int (pk ((((x5).toUInt32 >>> ((8 : Int32) &&& 31).toUInt32).toInt32) &&& (3 : Int32)) (x0 &&& (2147483647 : Int32)) (x1 &&& (2147483647 : Int32)) (x2 &&& (2147483647 : Int32)) (x3 ^^^ x4))), .val (.ref b213), .val (.ref b224), .val (.int (0 : Int32))] [(.int (if (if (pk ((((x5).toUInt32 >>> ((4 : Int32) &&& 31).toUInt32).toInt32) &&& (3 : Int32)) (x0 &&& (2147483647 : Int32)) (x1 &&& (2147483647 : Int32)) (x2 &&& (2147483647 : Int32)) x3) ∈ ([] : List Int32) then 1 else 0 : Int32) = (0 : Int32) then (0 : Int32) else if (if (pk ((((x5).toUInt32 >>> ((6 : Int32) &&& 31).toUInt32).toInt32) &&& (3 : Int32)) (x0 &&& (2147483647 : Int32)) (x1 &&& (2147483647 : Int32)) (x2 &&& (2147483647 : Int32)) x4) ∈ ([] : List Int32) then 1 else 0 : Int32) = (0 : Int32) then (0 : Int32) else if (if (pk ((((x5).toUInt32 >>> ((8 : Int32) &&& 31).toUInt32).toInt32) &&& (3 : Int32)) (x0 &&& (2147483647 : Int32)) (x1 &&& (2147483647 : Int32)) (x2 &&& (2147483647 : Int32)) (x3 ^^^ x4)) ∈ ([] : List Int32) then 1 else 0 : Int32) = (0 : Int32) then (0 : Int32) else (1 : Int32)))])
        refine Go.iload X238 hx (hb hby at_265) rfl rfl  ?_
        refine Go.icmpNo X238 hx (hb hby at_267) rfl (teq B239).2 ?_
        refine Go.iconst X238 hx (hb hby at_270) rfl (1 : Int32) rfl ?_
        refine Go.goto X238 hx (hb hby at_271) rfl 275 (by decide) (by decide) ?_
        exact Go.retZ X238 hx (z' := (1 : Int32)) hret hlk (hb hby at_275) rfl (by decide) ⟨by first | rfl | simp [hc237], M231⟩ (Nat.le_of_ble_eq_true rfl) (Nat.le_of_ble_eq_true rfl)
      · refine Go.ifNo X236 hx (hb hby at_204) rfl ((if0 _ _).trans (feq hc237).1) ?_
        refine Go.iload X236 hx (hb hby at_207) rfl rfl  ?_
        refine Go.iconst X236 hx (hb hby at_209) rfl (2 : Int32) rfl ?_
        refine Go.icmpNo X236 hx (hb hby at_210) rfl (flt (by decide : ¬ ((3 : Int32) < (2 : Int32)))).1 ?_
        refine Go.iload X236 hx (hb hby at_213) rfl rfl  ?_
        refine Go.iload X236 hx (hb hby at_215) rfl rfl  ?_
        refine Go.iload X236 hx (hb hby at_217) rfl rfl  ?_
        refine Go.iload X236 hx (hb hby at_219) rfl rfl  ?_
        refine Go.iload X236 hx (hb hby at_221) rfl rfl  ?_
        refine Go.pureS X236 hx hZ hown (wd 44 rfl) (wd 45 rfl) (wd 3 rfl) (wd 46 rfl) (by decide) [(.int (pk ((((x5).toUInt32 >>> ((6 : Int32) &&& 31).toUInt32).toInt32) &&& (3 : Int32)) (x0 &&& (2147483647 : Int32)) (x1 &&& (2147483647 : Int32)) (x2 &&& (2147483647 : Int32)) x4)), (.int (0 : Int32)), (.int (x0 &&& (2147483647 : Int32))), (.int (x1 &&& (2147483647 : Int32))), (.int (x2 &&& (2147483647 : Int32)))] [] (lwIn0 l Z a0 hw (pk ((((x5).toUInt32 >>> ((6 : Int32) &&& 31).toUInt32).toInt32) &&& (3 : Int32)) (x0 &&& (2147483647 : Int32)) (x1 &&& (2147483647 : Int32)) (x2 &&& (2147483647 : Int32)) x4) (x0 &&& (2147483647 : Int32)) (x1 &&& (2147483647 : Int32)) (x2 &&& (2147483647 : Int32)) T230.heap) e236 rfl (by rw [hml]; rfl) pd_7 rfl (hb hby at_223) (Nat.le_of_ble_eq_true rfl) (Nat.le_of_ble_eq_true rfl) (Nat.le_of_ble_eq_true rfl) (Nat.le_of_ble_eq_true rfl) ?_
        intro T240 X240 e240
        by_cases hc241 : (if (pk ((((x5).toUInt32 >>> ((6 : Int32) &&& 31).toUInt32).toInt32) &&& (3 : Int32)) (x0 &&& (2147483647 : Int32)) (x1 &&& (2147483647 : Int32)) (x2 &&& (2147483647 : Int32)) x4) ∈ ([] : List Int32) then 1 else 0 : Int32) = (0 : Int32)
        · refine Go.ifYes X240 hx (hb hby at_226) rfl 255 ((if0 _ _).trans (teq hc241).1) (by decide) (by decide) ?_
          refine Go.iconst X240 hx (hb hby at_255) rfl (0 : Int32) rfl ?_
          refine Go.istore X240 hx (hb hby at_256) rfl  #[.val (.int x0), .val (.int x1), .val (.int x2), .val (.int x3), .val (.int x4), .val (.int x5), .val (.int (x0 &&& (2147483647 : Int32))), .val (.int (x1 &&& (2147483647 : Int32))), .val (.int (x2 &&& (2147483647 : Int32))), .val (.int (0 : Int32)), .val (.int (3 : Int32)), .val (.int (pk ((((x5).toUInt32 >>> ((4 : Int32) &&& 31).toUInt32).toInt32) &&& (3 : Int32)) (x0 &&& (2147483647 : Int32)) (x1 &&& (2147483647 : Int32)) (x2 &&& (2147483647 : Int32)) x3)), .val (.int (pk ((((x5).toUInt32 >>> ((6 : Int32) &&& 31).toUInt32).toInt32) &&& (3 : Int32)) (x0 &&& (2147483647 : Int32)) (x1 &&& (2147483647 : Int32)) (x2 &&& (2147483647 : Int32)) x4)), .val (.int (pk ((((x5).toUInt32 >>> ((8 : Int32) &&& 31).toUInt32).toInt32) &&& (3 : Int32)) (x0 &&& (2147483647 : Int32)) (x1 &&& (2147483647 : Int32)) (x2 &&& (2147483647 : Int32)) (x3 ^^^ x4))), .val (.ref b213), .val (.ref b224), .val (.int (0 : Int32))] rfl ?_
          refine Go.aload X240 hx (hb hby at_258) rfl rfl rfl ?_
          refine Go.aload X240 hx (hb hby at_260) rfl rfl rfl ?_
          refine Go.pureV X240 hx hZ hown (wd 39 rfl) (wd 40 rfl) (notFace_of_selects (args := #[]) (mvT hZ (wd 42 rfl))) (wd 42 rfl) (wd 41 rfl) (wd 8 rfl) (wd 43 rfl) (by decide) [(.ref b213)] [] Y230 (isAll3 l Z a0 hw b224 a_NONE b213 k213 (pk ((((x5).toUInt32 >>> ((4 : Int32) &&& 31).toUInt32).toInt32) &&& (3 : Int32)) (x0 &&& (2147483647 : Int32)) (x1 &&& (2147483647 : Int32)) (x2 &&& (2147483647 : Int32)) x3) (pk ((((x5).toUInt32 >>> ((6 : Int32) &&& 31).toUInt32).toInt32) &&& (3 : Int32)) (x0 &&& (2147483647 : Int32)) (x1 &&& (2147483647 : Int32)) (x2 &&& (2147483647 : Int32)) x4) (pk ((((x5).toUInt32 >>> ((8 : Int32) &&& 31).toUInt32).toInt32) &&& (3 : Int32)) (x0 &&& (2147483647 : Int32)) (x1 &&& (2147483647 : Int32)) (x2 &&& (2147483647 : Int32)) (x3 ^^^ x4)) ([] : List Int32) T230.heap Y230 R235.2.1 (rep_read4 R235 (Nat.le_trans (Nat.le_refl 0) (Nat.le_of_ble_eq_true rfl))) V233) e240 rfl (by rw [hml]; rfl) pd_6 rfl (hb hby at_262) (Nat.le_of_ble_eq_true rfl) (Nat.le_of_ble_eq_true rfl) (Nat.le_of_ble_eq_true rfl) (Nat.le_of_ble_eq_true rfl) ?_
          intro T242 X242 e242
          have B243 : (if (if (pk ((((x5).toUInt32 >>> ((4 : Int32) &&& 31).toUInt32).toInt32) &&& (3 : Int32)) (x0 &&& (2147483647 : Int32)) (x1 &&& (2147483647 : Int32)) (x2 &&& (2147483647 : Int32)) x3) ∈ ([] : List Int32) then 1 else 0 : Int32) = (0 : Int32) then (0 : Int32) else if (if (pk ((((x5).toUInt32 >>> ((6 : Int32) &&& 31).toUInt32).toInt32) &&& (3 : Int32)) (x0 &&& (2147483647 : Int32)) (x1 &&& (2147483647 : Int32)) (x2 &&& (2147483647 : Int32)) x4) ∈ ([] : List Int32) then 1 else 0 : Int32) = (0 : Int32) then (0 : Int32) else if (if (pk ((((x5).toUInt32 >>> ((8 : Int32) &&& 31).toUInt32).toInt32) &&& (3 : Int32)) (x0 &&& (2147483647 : Int32)) (x1 &&& (2147483647 : Int32)) (x2 &&& (2147483647 : Int32)) (x3 ^^^ x4)) ∈ ([] : List Int32) then 1 else 0 : Int32) = (0 : Int32) then (0 : Int32) else (1 : Int32)) = (0 : Int32) := by rw [if_neg hc237, if_pos hc241]
          show Go p e below _ T242 (mkF m 265 #[.val (.int x0), .val (.int x1), .val (.int x2), .val (.int x3), .val (.int x4), .val (.int x5), .val (.int (x0 &&& (2147483647 : Int32))), .val (.int (x1 &&& (2147483647 : Int32))), .val (.int (x2 &&& (2147483647 : Int32))), .val (.int (0 : Int32)), .val (.int (3 : Int32)), .val (.int (pk ((((x5).toUInt32 >>> ((4 : Int32) &&& 31).toUInt32).toInt32) &&& (3 : Int32)) (x0 &&& (2147483647 : Int32)) (x1 &&& (2147483647 : Int32)) (x2 &&& (2147483647 : Int32)) x3)), .val (.int (pk ((((x5).toUInt32 >>> ((6 : Int32) &&& 31).toUInt32).toInt32) &&& (3 : Int32)) (x0 &&& (2147483647 : Int32)) (x1 &&& (2147483647 : Int32)) (x2 &&& (2147483647 : Int32)) x4)), .val (.int (pk ((((x5).toUInt32 >>> ((8 : Int32) &&& 31).toUInt32).toInt32) &&& (3 : Int32)) (x0 &&& (2147483647 : Int32)) (x1 &&& (2147483647 : Int32)) (x2 &&& (2147483647 : Int32)) (x3 ^^^ x4))), .val (.ref b213), .val (.ref b224), .val (.int (0 : Int32))] [(.int (if (if (pk ((((x5).toUInt32 >>> ((4 : Int32) &&& 31).toUInt32).toInt32) &&& (3 : Int32)) (x0 &&& (2147483647 : Int32)) (x1 &&& (2147483647 : Int32)) (x2 &&& (2147483647 : Int32)) x3) ∈ ([] : List Int32) then 1 else 0 : Int32) = (0 : Int32) then (0 : Int32) else if (if (pk ((((x5).toUInt32 >>> ((6 : Int32) &&& 31).toUInt32).toInt32) &&& (3 : Int32)) (x0 &&& (2147483647 : Int32)) (x1 &&& (2147483647 : Int32)) (x2 &&& (2147483647 : Int32)) x4) ∈ ([] : List Int32) then 1 else 0 : Int32) = (0 : Int32) then (0 : Int32) else if (if (pk ((((x5).toUInt32 >>> ((8 : Int32) &&& 31).toUInt32).toInt32) &&& (3 : Int32)) (x0 &&& (2147483647 : Int32)) (x1 &&& (2147483647 : Int32)) (x2 &&& (2147483647 : Int32)) (x3 ^^^ x4)) ∈ ([] : List Int32) then 1 else 0 : Int32) = (0 : Int32) then (0 : Int32) else (1 : Int32)))])
          refine Go.iload X242 hx (hb hby at_265) rfl rfl  ?_
          refine Go.icmpNo X242 hx (hb hby at_267) rfl (teq B243).2 ?_
          refine Go.iconst X242 hx (hb hby at_270) rfl (1 : Int32) rfl ?_
          refine Go.goto X242 hx (hb hby at_271) rfl 275 (by decide) (by decide) ?_
          exact Go.retZ X242 hx (z' := (1 : Int32)) hret hlk (hb hby at_275) rfl (by decide) ⟨by first | rfl | simp [hc237, hc241], M231⟩ (Nat.le_of_ble_eq_true rfl) (Nat.le_of_ble_eq_true rfl)
        · refine Go.ifNo X240 hx (hb hby at_226) rfl ((if0 _ _).trans (feq hc241).1) ?_
          refine Go.iload X240 hx (hb hby at_229) rfl rfl  ?_
          refine Go.iconst X240 hx (hb hby at_231) rfl (3 : Int32) rfl ?_
          refine Go.icmpNo X240 hx (hb hby at_232) rfl (flt (by decide : ¬ ((3 : Int32) < (3 : Int32)))).1 ?_
          refine Go.iload X240 hx (hb hby at_235) rfl rfl  ?_
          refine Go.iload X240 hx (hb hby at_237) rfl rfl  ?_
          refine Go.iload X240 hx (hb hby at_239) rfl rfl  ?_
          refine Go.iload X240 hx (hb hby at_241) rfl rfl  ?_
          refine Go.iload X240 hx (hb hby at_243) rfl rfl  ?_
          refine Go.pureS X240 hx hZ hown (wd 44 rfl) (wd 45 rfl) (wd 3 rfl) (wd 46 rfl) (by decide) [(.int (pk ((((x5).toUInt32 >>> ((8 : Int32) &&& 31).toUInt32).toInt32) &&& (3 : Int32)) (x0 &&& (2147483647 : Int32)) (x1 &&& (2147483647 : Int32)) (x2 &&& (2147483647 : Int32)) (x3 ^^^ x4))), (.int (0 : Int32)), (.int (x0 &&& (2147483647 : Int32))), (.int (x1 &&& (2147483647 : Int32))), (.int (x2 &&& (2147483647 : Int32)))] [] (lwIn0 l Z a0 hw (pk ((((x5).toUInt32 >>> ((8 : Int32) &&& 31).toUInt32).toInt32) &&& (3 : Int32)) (x0 &&& (2147483647 : Int32)) (x1 &&& (2147483647 : Int32)) (x2 &&& (2147483647 : Int32)) (x3 ^^^ x4)) (x0 &&& (2147483647 : Int32)) (x1 &&& (2147483647 : Int32)) (x2 &&& (2147483647 : Int32)) T230.heap) e240 rfl (by rw [hml]; rfl) pd_7 rfl (hb hby at_245) (Nat.le_of_ble_eq_true rfl) (Nat.le_of_ble_eq_true rfl) (Nat.le_of_ble_eq_true rfl) (Nat.le_of_ble_eq_true rfl) ?_
          intro T244 X244 e244
          by_cases hc245 : (if (pk ((((x5).toUInt32 >>> ((8 : Int32) &&& 31).toUInt32).toInt32) &&& (3 : Int32)) (x0 &&& (2147483647 : Int32)) (x1 &&& (2147483647 : Int32)) (x2 &&& (2147483647 : Int32)) (x3 ^^^ x4)) ∈ ([] : List Int32) then 1 else 0 : Int32) = (0 : Int32)
          · refine Go.ifYes X244 hx (hb hby at_248) rfl 255 ((if0 _ _).trans (teq hc245).1) (by decide) (by decide) ?_
            refine Go.iconst X244 hx (hb hby at_255) rfl (0 : Int32) rfl ?_
            refine Go.istore X244 hx (hb hby at_256) rfl  #[.val (.int x0), .val (.int x1), .val (.int x2), .val (.int x3), .val (.int x4), .val (.int x5), .val (.int (x0 &&& (2147483647 : Int32))), .val (.int (x1 &&& (2147483647 : Int32))), .val (.int (x2 &&& (2147483647 : Int32))), .val (.int (0 : Int32)), .val (.int (3 : Int32)), .val (.int (pk ((((x5).toUInt32 >>> ((4 : Int32) &&& 31).toUInt32).toInt32) &&& (3 : Int32)) (x0 &&& (2147483647 : Int32)) (x1 &&& (2147483647 : Int32)) (x2 &&& (2147483647 : Int32)) x3)), .val (.int (pk ((((x5).toUInt32 >>> ((6 : Int32) &&& 31).toUInt32).toInt32) &&& (3 : Int32)) (x0 &&& (2147483647 : Int32)) (x1 &&& (2147483647 : Int32)) (x2 &&& (2147483647 : Int32)) x4)), .val (.int (pk ((((x5).toUInt32 >>> ((8 : Int32) &&& 31).toUInt32).toInt32) &&& (3 : Int32)) (x0 &&& (2147483647 : Int32)) (x1 &&& (2147483647 : Int32)) (x2 &&& (2147483647 : Int32)) (x3 ^^^ x4))), .val (.ref b213), .val (.ref b224), .val (.int (0 : Int32))] rfl ?_
            refine Go.aload X244 hx (hb hby at_258) rfl rfl rfl ?_
            refine Go.aload X244 hx (hb hby at_260) rfl rfl rfl ?_
            refine Go.pureV X244 hx hZ hown (wd 39 rfl) (wd 40 rfl) (notFace_of_selects (args := #[]) (mvT hZ (wd 42 rfl))) (wd 42 rfl) (wd 41 rfl) (wd 8 rfl) (wd 43 rfl) (by decide) [(.ref b213)] [] Y230 (isAll3 l Z a0 hw b224 a_NONE b213 k213 (pk ((((x5).toUInt32 >>> ((4 : Int32) &&& 31).toUInt32).toInt32) &&& (3 : Int32)) (x0 &&& (2147483647 : Int32)) (x1 &&& (2147483647 : Int32)) (x2 &&& (2147483647 : Int32)) x3) (pk ((((x5).toUInt32 >>> ((6 : Int32) &&& 31).toUInt32).toInt32) &&& (3 : Int32)) (x0 &&& (2147483647 : Int32)) (x1 &&& (2147483647 : Int32)) (x2 &&& (2147483647 : Int32)) x4) (pk ((((x5).toUInt32 >>> ((8 : Int32) &&& 31).toUInt32).toInt32) &&& (3 : Int32)) (x0 &&& (2147483647 : Int32)) (x1 &&& (2147483647 : Int32)) (x2 &&& (2147483647 : Int32)) (x3 ^^^ x4)) ([] : List Int32) T230.heap Y230 R235.2.1 (rep_read4 R235 (Nat.le_trans (Nat.le_refl 0) (Nat.le_of_ble_eq_true rfl))) V233) e244 rfl (by rw [hml]; rfl) pd_6 rfl (hb hby at_262) (Nat.le_of_ble_eq_true rfl) (Nat.le_of_ble_eq_true rfl) (Nat.le_of_ble_eq_true rfl) (Nat.le_of_ble_eq_true rfl) ?_
            intro T246 X246 e246
            have B247 : (if (if (pk ((((x5).toUInt32 >>> ((4 : Int32) &&& 31).toUInt32).toInt32) &&& (3 : Int32)) (x0 &&& (2147483647 : Int32)) (x1 &&& (2147483647 : Int32)) (x2 &&& (2147483647 : Int32)) x3) ∈ ([] : List Int32) then 1 else 0 : Int32) = (0 : Int32) then (0 : Int32) else if (if (pk ((((x5).toUInt32 >>> ((6 : Int32) &&& 31).toUInt32).toInt32) &&& (3 : Int32)) (x0 &&& (2147483647 : Int32)) (x1 &&& (2147483647 : Int32)) (x2 &&& (2147483647 : Int32)) x4) ∈ ([] : List Int32) then 1 else 0 : Int32) = (0 : Int32) then (0 : Int32) else if (if (pk ((((x5).toUInt32 >>> ((8 : Int32) &&& 31).toUInt32).toInt32) &&& (3 : Int32)) (x0 &&& (2147483647 : Int32)) (x1 &&& (2147483647 : Int32)) (x2 &&& (2147483647 : Int32)) (x3 ^^^ x4)) ∈ ([] : List Int32) then 1 else 0 : Int32) = (0 : Int32) then (0 : Int32) else (1 : Int32)) = (0 : Int32) := by rw [if_neg hc237, if_neg hc241, if_pos hc245]
            show Go p e below _ T246 (mkF m 265 #[.val (.int x0), .val (.int x1), .val (.int x2), .val (.int x3), .val (.int x4), .val (.int x5), .val (.int (x0 &&& (2147483647 : Int32))), .val (.int (x1 &&& (2147483647 : Int32))), .val (.int (x2 &&& (2147483647 : Int32))), .val (.int (0 : Int32)), .val (.int (3 : Int32)), .val (.int (pk ((((x5).toUInt32 >>> ((4 : Int32) &&& 31).toUInt32).toInt32) &&& (3 : Int32)) (x0 &&& (2147483647 : Int32)) (x1 &&& (2147483647 : Int32)) (x2 &&& (2147483647 : Int32)) x3)), .val (.int (pk ((((x5).toUInt32 >>> ((6 : Int32) &&& 31).toUInt32).toInt32) &&& (3 : Int32)) (x0 &&& (2147483647 : Int32)) (x1 &&& (2147483647 : Int32)) (x2 &&& (2147483647 : Int32)) x4)), .val (.int (pk ((((x5).toUInt32 >>> ((8 : Int32) &&& 31).toUInt32).toInt32) &&& (3 : Int32)) (x0 &&& (2147483647 : Int32)) (x1 &&& (2147483647 : Int32)) (x2 &&& (2147483647 : Int32)) (x3 ^^^ x4))), .val (.ref b213), .val (.ref b224), .val (.int (0 : Int32))] [(.int (if (if (pk ((((x5).toUInt32 >>> ((4 : Int32) &&& 31).toUInt32).toInt32) &&& (3 : Int32)) (x0 &&& (2147483647 : Int32)) (x1 &&& (2147483647 : Int32)) (x2 &&& (2147483647 : Int32)) x3) ∈ ([] : List Int32) then 1 else 0 : Int32) = (0 : Int32) then (0 : Int32) else if (if (pk ((((x5).toUInt32 >>> ((6 : Int32) &&& 31).toUInt32).toInt32) &&& (3 : Int32)) (x0 &&& (2147483647 : Int32)) (x1 &&& (2147483647 : Int32)) (x2 &&& (2147483647 : Int32)) x4) ∈ ([] : List Int32) then 1 else 0 : Int32) = (0 : Int32) then (0 : Int32) else if (if (pk ((((x5).toUInt32 >>> ((8 : Int32) &&& 31).toUInt32).toInt32) &&& (3 : Int32)) (x0 &&& (2147483647 : Int32)) (x1 &&& (2147483647 : Int32)) (x2 &&& (2147483647 : Int32)) (x3 ^^^ x4)) ∈ ([] : List Int32) then 1 else 0 : Int32) = (0 : Int32) then (0 : Int32) else (1 : Int32)))])
            refine Go.iload X246 hx (hb hby at_265) rfl rfl  ?_
            refine Go.icmpNo X246 hx (hb hby at_267) rfl (teq B247).2 ?_
            refine Go.iconst X246 hx (hb hby at_270) rfl (1 : Int32) rfl ?_
            refine Go.goto X246 hx (hb hby at_271) rfl 275 (by decide) (by decide) ?_
            exact Go.retZ X246 hx (z' := (1 : Int32)) hret hlk (hb hby at_275) rfl (by decide) ⟨by first | rfl | simp [hc237, hc241, hc245], M231⟩ (Nat.le_of_ble_eq_true rfl) (Nat.le_of_ble_eq_true rfl)
          · refine Go.ifNo X244 hx (hb hby at_248) rfl ((if0 _ _).trans (feq hc245).1) ?_
            refine Go.iconst X244 hx (hb hby at_251) rfl (1 : Int32) rfl ?_
            refine Go.goto X244 hx (hb hby at_252) rfl 256 (by decide) (by decide) ?_
            refine Go.istore X244 hx (hb hby at_256) rfl  #[.val (.int x0), .val (.int x1), .val (.int x2), .val (.int x3), .val (.int x4), .val (.int x5), .val (.int (x0 &&& (2147483647 : Int32))), .val (.int (x1 &&& (2147483647 : Int32))), .val (.int (x2 &&& (2147483647 : Int32))), .val (.int (0 : Int32)), .val (.int (3 : Int32)), .val (.int (pk ((((x5).toUInt32 >>> ((4 : Int32) &&& 31).toUInt32).toInt32) &&& (3 : Int32)) (x0 &&& (2147483647 : Int32)) (x1 &&& (2147483647 : Int32)) (x2 &&& (2147483647 : Int32)) x3)), .val (.int (pk ((((x5).toUInt32 >>> ((6 : Int32) &&& 31).toUInt32).toInt32) &&& (3 : Int32)) (x0 &&& (2147483647 : Int32)) (x1 &&& (2147483647 : Int32)) (x2 &&& (2147483647 : Int32)) x4)), .val (.int (pk ((((x5).toUInt32 >>> ((8 : Int32) &&& 31).toUInt32).toInt32) &&& (3 : Int32)) (x0 &&& (2147483647 : Int32)) (x1 &&& (2147483647 : Int32)) (x2 &&& (2147483647 : Int32)) (x3 ^^^ x4))), .val (.ref b213), .val (.ref b224), .val (.int (1 : Int32))] rfl ?_
            refine Go.aload X244 hx (hb hby at_258) rfl rfl rfl ?_
            refine Go.aload X244 hx (hb hby at_260) rfl rfl rfl ?_
            refine Go.pureV X244 hx hZ hown (wd 39 rfl) (wd 40 rfl) (notFace_of_selects (args := #[]) (mvT hZ (wd 42 rfl))) (wd 42 rfl) (wd 41 rfl) (wd 8 rfl) (wd 43 rfl) (by decide) [(.ref b213)] [] Y230 (isAll3 l Z a0 hw b224 a_NONE b213 k213 (pk ((((x5).toUInt32 >>> ((4 : Int32) &&& 31).toUInt32).toInt32) &&& (3 : Int32)) (x0 &&& (2147483647 : Int32)) (x1 &&& (2147483647 : Int32)) (x2 &&& (2147483647 : Int32)) x3) (pk ((((x5).toUInt32 >>> ((6 : Int32) &&& 31).toUInt32).toInt32) &&& (3 : Int32)) (x0 &&& (2147483647 : Int32)) (x1 &&& (2147483647 : Int32)) (x2 &&& (2147483647 : Int32)) x4) (pk ((((x5).toUInt32 >>> ((8 : Int32) &&& 31).toUInt32).toInt32) &&& (3 : Int32)) (x0 &&& (2147483647 : Int32)) (x1 &&& (2147483647 : Int32)) (x2 &&& (2147483647 : Int32)) (x3 ^^^ x4)) ([] : List Int32) T230.heap Y230 R235.2.1 (rep_read4 R235 (Nat.le_trans (Nat.le_refl 0) (Nat.le_of_ble_eq_true rfl))) V233) e244 rfl (by rw [hml]; rfl) pd_6 rfl (hb hby at_262) (Nat.le_of_ble_eq_true rfl) (Nat.le_of_ble_eq_true rfl) (Nat.le_of_ble_eq_true rfl) (Nat.le_of_ble_eq_true rfl) ?_
            intro T248 X248 e248
            have B249 : (if (if (pk ((((x5).toUInt32 >>> ((4 : Int32) &&& 31).toUInt32).toInt32) &&& (3 : Int32)) (x0 &&& (2147483647 : Int32)) (x1 &&& (2147483647 : Int32)) (x2 &&& (2147483647 : Int32)) x3) ∈ ([] : List Int32) then 1 else 0 : Int32) = (0 : Int32) then (0 : Int32) else if (if (pk ((((x5).toUInt32 >>> ((6 : Int32) &&& 31).toUInt32).toInt32) &&& (3 : Int32)) (x0 &&& (2147483647 : Int32)) (x1 &&& (2147483647 : Int32)) (x2 &&& (2147483647 : Int32)) x4) ∈ ([] : List Int32) then 1 else 0 : Int32) = (0 : Int32) then (0 : Int32) else if (if (pk ((((x5).toUInt32 >>> ((8 : Int32) &&& 31).toUInt32).toInt32) &&& (3 : Int32)) (x0 &&& (2147483647 : Int32)) (x1 &&& (2147483647 : Int32)) (x2 &&& (2147483647 : Int32)) (x3 ^^^ x4)) ∈ ([] : List Int32) then 1 else 0 : Int32) = (0 : Int32) then (0 : Int32) else (1 : Int32)) = (1 : Int32) := by rw [if_neg hc237, if_neg hc241, if_neg hc245]
            show Go p e below _ T248 (mkF m 265 #[.val (.int x0), .val (.int x1), .val (.int x2), .val (.int x3), .val (.int x4), .val (.int x5), .val (.int (x0 &&& (2147483647 : Int32))), .val (.int (x1 &&& (2147483647 : Int32))), .val (.int (x2 &&& (2147483647 : Int32))), .val (.int (0 : Int32)), .val (.int (3 : Int32)), .val (.int (pk ((((x5).toUInt32 >>> ((4 : Int32) &&& 31).toUInt32).toInt32) &&& (3 : Int32)) (x0 &&& (2147483647 : Int32)) (x1 &&& (2147483647 : Int32)) (x2 &&& (2147483647 : Int32)) x3)), .val (.int (pk ((((x5).toUInt32 >>> ((6 : Int32) &&& 31).toUInt32).toInt32) &&& (3 : Int32)) (x0 &&& (2147483647 : Int32)) (x1 &&& (2147483647 : Int32)) (x2 &&& (2147483647 : Int32)) x4)), .val (.int (pk ((((x5).toUInt32 >>> ((8 : Int32) &&& 31).toUInt32).toInt32) &&& (3 : Int32)) (x0 &&& (2147483647 : Int32)) (x1 &&& (2147483647 : Int32)) (x2 &&& (2147483647 : Int32)) (x3 ^^^ x4))), .val (.ref b213), .val (.ref b224), .val (.int (1 : Int32))] [(.int (if (if (pk ((((x5).toUInt32 >>> ((4 : Int32) &&& 31).toUInt32).toInt32) &&& (3 : Int32)) (x0 &&& (2147483647 : Int32)) (x1 &&& (2147483647 : Int32)) (x2 &&& (2147483647 : Int32)) x3) ∈ ([] : List Int32) then 1 else 0 : Int32) = (0 : Int32) then (0 : Int32) else if (if (pk ((((x5).toUInt32 >>> ((6 : Int32) &&& 31).toUInt32).toInt32) &&& (3 : Int32)) (x0 &&& (2147483647 : Int32)) (x1 &&& (2147483647 : Int32)) (x2 &&& (2147483647 : Int32)) x4) ∈ ([] : List Int32) then 1 else 0 : Int32) = (0 : Int32) then (0 : Int32) else if (if (pk ((((x5).toUInt32 >>> ((8 : Int32) &&& 31).toUInt32).toInt32) &&& (3 : Int32)) (x0 &&& (2147483647 : Int32)) (x1 &&& (2147483647 : Int32)) (x2 &&& (2147483647 : Int32)) (x3 ^^^ x4)) ∈ ([] : List Int32) then 1 else 0 : Int32) = (0 : Int32) then (0 : Int32) else (1 : Int32)))])
            refine Go.iload X248 hx (hb hby at_265) rfl rfl  ?_
            refine Go.icmpNo X248 hx (hb hby at_267) rfl (teq B249).2 ?_
            refine Go.iconst X248 hx (hb hby at_270) rfl (1 : Int32) rfl ?_
            refine Go.goto X248 hx (hb hby at_271) rfl 275 (by decide) (by decide) ?_
            exact Go.retZ X248 hx (z' := (1 : Int32)) hret hlk (hb hby at_275) rfl (by decide) ⟨by first | rfl | simp [hc237, hc241, hc245], M231⟩ (Nat.le_of_ble_eq_true rfl) (Nat.le_of_ble_eq_true rfl)
    · rw [hk]
      refine Go.iload X230 hx (hb hby at_143) rfl rfl  ?_
      refine Go.iconst X230 hx (hb hby at_145) rfl (1 : Int32) rfl ?_
      refine Go.icmpNo X230 hx (hb hby at_146) rfl (flt (by decide : ¬ ((1 : Int32) < (1 : Int32)))).1 ?_
      refine Go.aload X230 hx (hb hby at_149) rfl rfl rfl ?_
      refine Go.iload X230 hx (hb hby at_151) rfl rfl  ?_
      refine Go.callV X230 hx hZ hown (wd 21 rfl) (wd 22 rfl) (notFace_of_selects (args := #[]) (mvT hZ (wd 24 rfl))) (wd 24 rfl) (wd 23 rfl) (wd 8 rfl) (wd 25 rfl) (by decide) [(.int (x0 &&& (2147483647 : Int32)))] [] Y230 (isAddR l Z a0 hw b224 (x0 &&& (2147483647 : Int32)) a_NONE k_NONE ([] : List Int32) T230.heap O232 FF R235 (own_nn x0) (Nat.le_trans (Nat.le_refl 0) (Nat.le_of_ble_eq_true rfl))) rfl rfl (by rw [hml]; rfl) pd_3 rfl (hb hby at_153) (Nat.le_of_ble_eq_true rfl) (Nat.le_of_ble_eq_true rfl) (Nat.le_of_ble_eq_true rfl) (Nat.le_of_ble_eq_true rfl) ?_
      rintro vv250 T250 L250 X250 Q250
      obtain ⟨rfl, N250, B250, R250⟩ := Q250
      have M251 := Fr.app M231 N250
      have O252 := Blw.old B250 q224 O232
      have V253 := Arv.blw V233 B250 (Nat.lt_of_lt_of_le V221.lt (Nat.le_of_eq g224.symm))
      have E254 := R250.2.2.1
      refine Go.pop X250 hx (hb hby at_156) rfl rfl ?_
      refine Go.iload X250 hx (hb hby at_157) rfl rfl  ?_
      refine Go.iconst X250 hx (hb hby at_159) rfl (2 : Int32) rfl ?_
      refine Go.icmpYes X250 hx (hb hby at_160) rfl 171 (tlt (by decide : (1 : Int32) < (2 : Int32))).1 (by decide) (by decide) ?_
      refine Go.iload X250 hx (hb hby at_171) rfl rfl  ?_
      refine Go.iconst X250 hx (hb hby at_173) rfl (3 : Int32) rfl ?_
      refine Go.icmpYes X250 hx (hb hby at_174) rfl 185 (tlt (by decide : (1 : Int32) < (3 : Int32))).1 (by decide) (by decide) ?_
      show Go p e below _ T250 (mkF m 185 #[.val (.int x0), .val (.int x1), .val (.int x2), .val (.int x3), .val (.int x4), .val (.int x5), .val (.int (x0 &&& (2147483647 : Int32))), .val (.int (x1 &&& (2147483647 : Int32))), .val (.int (x2 &&& (2147483647 : Int32))), .val (.int (1 : Int32)), .val (.int (3 : Int32)), .val (.int (pk ((((x5).toUInt32 >>> ((4 : Int32) &&& 31).toUInt32).toInt32) &&& (3 : Int32)) (x0 &&& (2147483647 : Int32)) (x1 &&& (2147483647 : Int32)) (x2 &&& (2147483647 : Int32)) x3)), .val (.int (pk ((((x5).toUInt32 >>> ((6 : Int32) &&& 31).toUInt32).toInt32) &&& (3 : Int32)) (x0 &&& (2147483647 : Int32)) (x1 &&& (2147483647 : Int32)) (x2 &&& (2147483647 : Int32)) x4)), .val (.int (pk ((((x5).toUInt32 >>> ((8 : Int32) &&& 31).toUInt32).toInt32) &&& (3 : Int32)) (x0 &&& (2147483647 : Int32)) (x1 &&& (2147483647 : Int32)) (x2 &&& (2147483647 : Int32)) (x3 ^^^ x4))), .val (.ref b213), .val (.ref b224), .unset] [])
      refine Go.iload X250 hx (hb hby at_185) rfl rfl  ?_
      refine Go.iconst X250 hx (hb hby at_187) rfl (1 : Int32) rfl ?_
      refine Go.icmpNo X250 hx (hb hby at_188) rfl (flt (by decide : ¬ ((3 : Int32) < (1 : Int32)))).1 ?_
      refine Go.iload X250 hx (hb hby at_191) rfl rfl  ?_
      refine Go.iload X250 hx (hb hby at_193) rfl rfl  ?_
      refine Go.iload X250 hx (hb hby at_195) rfl rfl  ?_
      refine Go.iload X250 hx (hb hby at_197) rfl rfl  ?_
      refine Go.iload X250 hx (hb hby at_199) rfl rfl  ?_
      refine Go.pureS X250 hx hZ hown (wd 44 rfl) (wd 45 rfl) (wd 3 rfl) (wd 46 rfl) (by decide) [(.int (pk ((((x5).toUInt32 >>> ((4 : Int32) &&& 31).toUInt32).toInt32) &&& (3 : Int32)) (x0 &&& (2147483647 : Int32)) (x1 &&& (2147483647 : Int32)) (x2 &&& (2147483647 : Int32)) x3)), (.int (1 : Int32)), (.int (x0 &&& (2147483647 : Int32))), (.int (x1 &&& (2147483647 : Int32))), (.int (x2 &&& (2147483647 : Int32)))] [] (lwIn1 l Z a0 hw (pk ((((x5).toUInt32 >>> ((4 : Int32) &&& 31).toUInt32).toInt32) &&& (3 : Int32)) (x0 &&& (2147483647 : Int32)) (x1 &&& (2147483647 : Int32)) (x2 &&& (2147483647 : Int32)) x3) (x0 &&& (2147483647 : Int32)) (x1 &&& (2147483647 : Int32)) (x2 &&& (2147483647 : Int32)) T250.heap) rfl rfl (by rw [hml]; rfl) pd_7 rfl (hb hby at_201) (Nat.le_of_ble_eq_true rfl) (Nat.le_of_ble_eq_true rfl) (Nat.le_of_ble_eq_true rfl) (Nat.le_of_ble_eq_true rfl) ?_
      intro T255 X255 e255
      by_cases hc256 : (if (pk ((((x5).toUInt32 >>> ((4 : Int32) &&& 31).toUInt32).toInt32) &&& (3 : Int32)) (x0 &&& (2147483647 : Int32)) (x1 &&& (2147483647 : Int32)) (x2 &&& (2147483647 : Int32)) x3) ∈ (addL ([] : List Int32) (x0 &&& (2147483647 : Int32))) then 1 else 0 : Int32) = (0 : Int32)
      · refine Go.ifYes X255 hx (hb hby at_204) rfl 255 ((if0 _ _).trans (teq hc256).1) (by decide) (by decide) ?_
        refine Go.iconst X255 hx (hb hby at_255) rfl (0 : Int32) rfl ?_
        refine Go.istore X255 hx (hb hby at_256) rfl  #[.val (.int x0), .val (.int x1), .val (.int x2), .val (.int x3), .val (.int x4), .val (.int x5), .val (.int (x0 &&& (2147483647 : Int32))), .val (.int (x1 &&& (2147483647 : Int32))), .val (.int (x2 &&& (2147483647 : Int32))), .val (.int (1 : Int32)), .val (.int (3 : Int32)), .val (.int (pk ((((x5).toUInt32 >>> ((4 : Int32) &&& 31).toUInt32).toInt32) &&& (3 : Int32)) (x0 &&& (2147483647 : Int32)) (x1 &&& (2147483647 : Int32)) (x2 &&& (2147483647 : Int32)) x3)), .val (.int (pk ((((x5).toUInt32 >>> ((6 : Int32) &&& 31).toUInt32).toInt32) &&& (3 : Int32)) (x0 &&& (2147483647 : Int32)) (x1 &&& (2147483647 : Int32)) (x2 &&& (2147483647 : Int32)) x4)), .val (.int (pk ((((x5).toUInt32 >>> ((8 : Int32) &&& 31).toUInt32).toInt32) &&& (3 : Int32)) (x0 &&& (2147483647 : Int32)) (x1 &&& (2147483647 : Int32)) (x2 &&& (2147483647 : Int32)) (x3 ^^^ x4))), .val (.ref b213), .val (.ref b224), .val (.int (0 : Int32))] rfl ?_
        refine Go.aload X255 hx (hb hby at_258) rfl rfl rfl ?_
        refine Go.aload X255 hx (hb hby at_260) rfl rfl rfl ?_
        refine Go.pureV X255 hx hZ hown (wd 39 rfl) (wd 40 rfl) (notFace_of_selects (args := #[]) (mvT hZ (wd 42 rfl))) (wd 42 rfl) (wd 41 rfl) (wd 8 rfl) (wd 43 rfl) (by decide) [(.ref b213)] [] E254 (isAll3 l Z a0 hw b224 a_NONE b213 k213 (pk ((((x5).toUInt32 >>> ((4 : Int32) &&& 31).toUInt32).toInt32) &&& (3 : Int32)) (x0 &&& (2147483647 : Int32)) (x1 &&& (2147483647 : Int32)) (x2 &&& (2147483647 : Int32)) x3) (pk ((((x5).toUInt32 >>> ((6 : Int32) &&& 31).toUInt32).toInt32) &&& (3 : Int32)) (x0 &&& (2147483647 : Int32)) (x1 &&& (2147483647 : Int32)) (x2 &&& (2147483647 : Int32)) x4) (pk ((((x5).toUInt32 >>> ((8 : Int32) &&& 31).toUInt32).toInt32) &&& (3 : Int32)) (x0 &&& (2147483647 : Int32)) (x1 &&& (2147483647 : Int32)) (x2 &&& (2147483647 : Int32)) (x3 ^^^ x4)) (addL ([] : List Int32) (x0 &&& (2147483647 : Int32))) T250.heap E254 R250.2.1 (rep_read4 R250 (Nat.le_trans (Nat.le_trans (addL_len _ _) (Nat.succ_le_succ (Nat.le_refl 0))) (Nat.le_of_ble_eq_true rfl))) V253) e255 rfl (by rw [hml]; rfl) pd_6 rfl (hb hby at_262) (Nat.le_of_ble_eq_true rfl) (Nat.le_of_ble_eq_true rfl) (Nat.le_of_ble_eq_true rfl) (Nat.le_of_ble_eq_true rfl) ?_
        intro T257 X257 e257
        have B258 : (if (if (pk ((((x5).toUInt32 >>> ((4 : Int32) &&& 31).toUInt32).toInt32) &&& (3 : Int32)) (x0 &&& (2147483647 : Int32)) (x1 &&& (2147483647 : Int32)) (x2 &&& (2147483647 : Int32)) x3) ∈ (addL ([] : List Int32) (x0 &&& (2147483647 : Int32))) then 1 else 0 : Int32) = (0 : Int32) then (0 : Int32) else if (if (pk ((((x5).toUInt32 >>> ((6 : Int32) &&& 31).toUInt32).toInt32) &&& (3 : Int32)) (x0 &&& (2147483647 : Int32)) (x1 &&& (2147483647 : Int32)) (x2 &&& (2147483647 : Int32)) x4) ∈ (addL ([] : List Int32) (x0 &&& (2147483647 : Int32))) then 1 else 0 : Int32) = (0 : Int32) then (0 : Int32) else if (if (pk ((((x5).toUInt32 >>> ((8 : Int32) &&& 31).toUInt32).toInt32) &&& (3 : Int32)) (x0 &&& (2147483647 : Int32)) (x1 &&& (2147483647 : Int32)) (x2 &&& (2147483647 : Int32)) (x3 ^^^ x4)) ∈ (addL ([] : List Int32) (x0 &&& (2147483647 : Int32))) then 1 else 0 : Int32) = (0 : Int32) then (0 : Int32) else (1 : Int32)) = (0 : Int32) := by rw [if_pos hc256]
        show Go p e below _ T257 (mkF m 265 #[.val (.int x0), .val (.int x1), .val (.int x2), .val (.int x3), .val (.int x4), .val (.int x5), .val (.int (x0 &&& (2147483647 : Int32))), .val (.int (x1 &&& (2147483647 : Int32))), .val (.int (x2 &&& (2147483647 : Int32))), .val (.int (1 : Int32)), .val (.int (3 : Int32)), .val (.int (pk ((((x5).toUInt32 >>> ((4 : Int32) &&& 31).toUInt32).toInt32) &&& (3 : Int32)) (x0 &&& (2147483647 : Int32)) (x1 &&& (2147483647 : Int32)) (x2 &&& (2147483647 : Int32)) x3)), .val (.int (pk ((((x5).toUInt32 >>> ((6 : Int32) &&& 31).toUInt32).toInt32) &&& (3 : Int32)) (x0 &&& (2147483647 : Int32)) (x1 &&& (2147483647 : Int32)) (x2 &&& (2147483647 : Int32)) x4)), .val (.int (pk ((((x5).toUInt32 >>> ((8 : Int32) &&& 31).toUInt32).toInt32) &&& (3 : Int32)) (x0 &&& (2147483647 : Int32)) (x1 &&& (2147483647 : Int32)) (x2 &&& (2147483647 : Int32)) (x3 ^^^ x4))), .val (.ref b213), .val (.ref b224), .val (.int (0 : Int32))] [(.int (if (if (pk ((((x5).toUInt32 >>> ((4 : Int32) &&& 31).toUInt32).toInt32) &&& (3 : Int32)) (x0 &&& (2147483647 : Int32)) (x1 &&& (2147483647 : Int32)) (x2 &&& (2147483647 : Int32)) x3) ∈ (addL ([] : List Int32) (x0 &&& (2147483647 : Int32))) then 1 else 0 : Int32) = (0 : Int32) then (0 : Int32) else if (if (pk ((((x5).toUInt32 >>> ((6 : Int32) &&& 31).toUInt32).toInt32) &&& (3 : Int32)) (x0 &&& (2147483647 : Int32)) (x1 &&& (2147483647 : Int32)) (x2 &&& (2147483647 : Int32)) x4) ∈ (addL ([] : List Int32) (x0 &&& (2147483647 : Int32))) then 1 else 0 : Int32) = (0 : Int32) then (0 : Int32) else if (if (pk ((((x5).toUInt32 >>> ((8 : Int32) &&& 31).toUInt32).toInt32) &&& (3 : Int32)) (x0 &&& (2147483647 : Int32)) (x1 &&& (2147483647 : Int32)) (x2 &&& (2147483647 : Int32)) (x3 ^^^ x4)) ∈ (addL ([] : List Int32) (x0 &&& (2147483647 : Int32))) then 1 else 0 : Int32) = (0 : Int32) then (0 : Int32) else (1 : Int32)))])
        refine Go.iload X257 hx (hb hby at_265) rfl rfl  ?_
        refine Go.icmpNo X257 hx (hb hby at_267) rfl (teq B258).2 ?_
        refine Go.iconst X257 hx (hb hby at_270) rfl (1 : Int32) rfl ?_
        refine Go.goto X257 hx (hb hby at_271) rfl 275 (by decide) (by decide) ?_
        exact Go.retZ X257 hx (z' := (1 : Int32)) hret hlk (hb hby at_275) rfl (by decide) ⟨by first | rfl | simp [hc256], M251⟩ (Nat.le_of_ble_eq_true rfl) (Nat.le_of_ble_eq_true rfl)
      · refine Go.ifNo X255 hx (hb hby at_204) rfl ((if0 _ _).trans (feq hc256).1) ?_
        refine Go.iload X255 hx (hb hby at_207) rfl rfl  ?_
        refine Go.iconst X255 hx (hb hby at_209) rfl (2 : Int32) rfl ?_
        refine Go.icmpNo X255 hx (hb hby at_210) rfl (flt (by decide : ¬ ((3 : Int32) < (2 : Int32)))).1 ?_
        refine Go.iload X255 hx (hb hby at_213) rfl rfl  ?_
        refine Go.iload X255 hx (hb hby at_215) rfl rfl  ?_
        refine Go.iload X255 hx (hb hby at_217) rfl rfl  ?_
        refine Go.iload X255 hx (hb hby at_219) rfl rfl  ?_
        refine Go.iload X255 hx (hb hby at_221) rfl rfl  ?_
        refine Go.pureS X255 hx hZ hown (wd 44 rfl) (wd 45 rfl) (wd 3 rfl) (wd 46 rfl) (by decide) [(.int (pk ((((x5).toUInt32 >>> ((6 : Int32) &&& 31).toUInt32).toInt32) &&& (3 : Int32)) (x0 &&& (2147483647 : Int32)) (x1 &&& (2147483647 : Int32)) (x2 &&& (2147483647 : Int32)) x4)), (.int (1 : Int32)), (.int (x0 &&& (2147483647 : Int32))), (.int (x1 &&& (2147483647 : Int32))), (.int (x2 &&& (2147483647 : Int32)))] [] (lwIn1 l Z a0 hw (pk ((((x5).toUInt32 >>> ((6 : Int32) &&& 31).toUInt32).toInt32) &&& (3 : Int32)) (x0 &&& (2147483647 : Int32)) (x1 &&& (2147483647 : Int32)) (x2 &&& (2147483647 : Int32)) x4) (x0 &&& (2147483647 : Int32)) (x1 &&& (2147483647 : Int32)) (x2 &&& (2147483647 : Int32)) T250.heap) e255 rfl (by rw [hml]; rfl) pd_7 rfl (hb hby at_223) (Nat.le_of_ble_eq_true rfl) (Nat.le_of_ble_eq_true rfl) (Nat.le_of_ble_eq_true rfl) (Nat.le_of_ble_eq_true rfl) ?_
        intro T259 X259 e259
        by_cases hc260 : (if (pk ((((x5).toUInt32 >>> ((6 : Int32) &&& 31).toUInt32).toInt32) &&& (3 : Int32)) (x0 &&& (2147483647 : Int32)) (x1 &&& (2147483647 : Int32)) (x2 &&& (2147483647 : Int32)) x4) ∈ (addL ([] : List Int32) (x0 &&& (2147483647 : Int32))) then 1 else 0 : Int32) = (0 : Int32)
        · refine Go.ifYes X259 hx (hb hby at_226) rfl 255 ((if0 _ _).trans (teq hc260).1) (by decide) (by decide) ?_
          refine Go.iconst X259 hx (hb hby at_255) rfl (0 : Int32) rfl ?_
          refine Go.istore X259 hx (hb hby at_256) rfl  #[.val (.int x0), .val (.int x1), .val (.int x2), .val (.int x3), .val (.int x4), .val (.int x5), .val (.int (x0 &&& (2147483647 : Int32))), .val (.int (x1 &&& (2147483647 : Int32))), .val (.int (x2 &&& (2147483647 : Int32))), .val (.int (1 : Int32)), .val (.int (3 : Int32)), .val (.int (pk ((((x5).toUInt32 >>> ((4 : Int32) &&& 31).toUInt32).toInt32) &&& (3 : Int32)) (x0 &&& (2147483647 : Int32)) (x1 &&& (2147483647 : Int32)) (x2 &&& (2147483647 : Int32)) x3)), .val (.int (pk ((((x5).toUInt32 >>> ((6 : Int32) &&& 31).toUInt32).toInt32) &&& (3 : Int32)) (x0 &&& (2147483647 : Int32)) (x1 &&& (2147483647 : Int32)) (x2 &&& (2147483647 : Int32)) x4)), .val (.int (pk ((((x5).toUInt32 >>> ((8 : Int32) &&& 31).toUInt32).toInt32) &&& (3 : Int32)) (x0 &&& (2147483647 : Int32)) (x1 &&& (2147483647 : Int32)) (x2 &&& (2147483647 : Int32)) (x3 ^^^ x4))), .val (.ref b213), .val (.ref b224), .val (.int (0 : Int32))] rfl ?_
          refine Go.aload X259 hx (hb hby at_258) rfl rfl rfl ?_
          refine Go.aload X259 hx (hb hby at_260) rfl rfl rfl ?_
          refine Go.pureV X259 hx hZ hown (wd 39 rfl) (wd 40 rfl) (notFace_of_selects (args := #[]) (mvT hZ (wd 42 rfl))) (wd 42 rfl) (wd 41 rfl) (wd 8 rfl) (wd 43 rfl) (by decide) [(.ref b213)] [] E254 (isAll3 l Z a0 hw b224 a_NONE b213 k213 (pk ((((x5).toUInt32 >>> ((4 : Int32) &&& 31).toUInt32).toInt32) &&& (3 : Int32)) (x0 &&& (2147483647 : Int32)) (x1 &&& (2147483647 : Int32)) (x2 &&& (2147483647 : Int32)) x3) (pk ((((x5).toUInt32 >>> ((6 : Int32) &&& 31).toUInt32).toInt32) &&& (3 : Int32)) (x0 &&& (2147483647 : Int32)) (x1 &&& (2147483647 : Int32)) (x2 &&& (2147483647 : Int32)) x4) (pk ((((x5).toUInt32 >>> ((8 : Int32) &&& 31).toUInt32).toInt32) &&& (3 : Int32)) (x0 &&& (2147483647 : Int32)) (x1 &&& (2147483647 : Int32)) (x2 &&& (2147483647 : Int32)) (x3 ^^^ x4)) (addL ([] : List Int32) (x0 &&& (2147483647 : Int32))) T250.heap E254 R250.2.1 (rep_read4 R250 (Nat.le_trans (Nat.le_trans (addL_len _ _) (Nat.succ_le_succ (Nat.le_refl 0))) (Nat.le_of_ble_eq_true rfl))) V253) e259 rfl (by rw [hml]; rfl) pd_6 rfl (hb hby at_262) (Nat.le_of_ble_eq_true rfl) (Nat.le_of_ble_eq_true rfl) (Nat.le_of_ble_eq_true rfl) (Nat.le_of_ble_eq_true rfl) ?_
          intro T261 X261 e261
          have B262 : (if (if (pk ((((x5).toUInt32 >>> ((4 : Int32) &&& 31).toUInt32).toInt32) &&& (3 : Int32)) (x0 &&& (2147483647 : Int32)) (x1 &&& (2147483647 : Int32)) (x2 &&& (2147483647 : Int32)) x3) ∈ (addL ([] : List Int32) (x0 &&& (2147483647 : Int32))) then 1 else 0 : Int32) = (0 : Int32) then (0 : Int32) else if (if (pk ((((x5).toUInt32 >>> ((6 : Int32) &&& 31).toUInt32).toInt32) &&& (3 : Int32)) (x0 &&& (2147483647 : Int32)) (x1 &&& (2147483647 : Int32)) (x2 &&& (2147483647 : Int32)) x4) ∈ (addL ([] : List Int32) (x0 &&& (2147483647 : Int32))) then 1 else 0 : Int32) = (0 : Int32) then (0 : Int32) else if (if (pk ((((x5).toUInt32 >>> ((8 : Int32) &&& 31).toUInt32).toInt32) &&& (3 : Int32)) (x0 &&& (2147483647 : Int32)) (x1 &&& (2147483647 : Int32)) (x2 &&& (2147483647 : Int32)) (x3 ^^^ x4)) ∈ (addL ([] : List Int32) (x0 &&& (2147483647 : Int32))) then 1 else 0 : Int32) = (0 : Int32) then (0 : Int32) else (1 : Int32)) = (0 : Int32) := by rw [if_neg hc256, if_pos hc260]
          show Go p e below _ T261 (mkF m 265 #[.val (.int x0), .val (.int x1), .val (.int x2), .val (.int x3), .val (.int x4), .val (.int x5), .val (.int (x0 &&& (2147483647 : Int32))), .val (.int (x1 &&& (2147483647 : Int32))), .val (.int (x2 &&& (2147483647 : Int32))), .val (.int (1 : Int32)), .val (.int (3 : Int32)), .val (.int (pk ((((x5).toUInt32 >>> ((4 : Int32) &&& 31).toUInt32).toInt32) &&& (3 : Int32)) (x0 &&& (2147483647 : Int32)) (x1 &&& (2147483647 : Int32)) (x2 &&& (2147483647 : Int32)) x3)), .val (.int (pk ((((x5).toUInt32 >>> ((6 : Int32) &&& 31).toUInt32).toInt32) &&& (3 : Int32)) (x0 &&& (2147483647 : Int32)) (x1 &&& (2147483647 : Int32)) (x2 &&& (2147483647 : Int32)) x4)), .val (.int (pk ((((x5).toUInt32 >>> ((8 : Int32) &&& 31).toUInt32).toInt32) &&& (3 : Int32)) (x0 &&& (2147483647 : Int32)) (x1 &&& (2147483647 : Int32)) (x2 &&& (2147483647 : Int32)) (x3 ^^^ x4))), .val (.ref b213), .val (.ref b224), .val (.int (0 : Int32))] [(.int (if (if (pk ((((x5).toUInt32 >>> ((4 : Int32) &&& 31).toUInt32).toInt32) &&& (3 : Int32)) (x0 &&& (2147483647 : Int32)) (x1 &&& (2147483647 : Int32)) (x2 &&& (2147483647 : Int32)) x3) ∈ (addL ([] : List Int32) (x0 &&& (2147483647 : Int32))) then 1 else 0 : Int32) = (0 : Int32) then (0 : Int32) else if (if (pk ((((x5).toUInt32 >>> ((6 : Int32) &&& 31).toUInt32).toInt32) &&& (3 : Int32)) (x0 &&& (2147483647 : Int32)) (x1 &&& (2147483647 : Int32)) (x2 &&& (2147483647 : Int32)) x4) ∈ (addL ([] : List Int32) (x0 &&& (2147483647 : Int32))) then 1 else 0 : Int32) = (0 : Int32) then (0 : Int32) else if (if (pk ((((x5).toUInt32 >>> ((8 : Int32) &&& 31).toUInt32).toInt32) &&& (3 : Int32)) (x0 &&& (2147483647 : Int32)) (x1 &&& (2147483647 : Int32)) (x2 &&& (2147483647 : Int32)) (x3 ^^^ x4)) ∈ (addL ([] : List Int32) (x0 &&& (2147483647 : Int32))) then 1 else 0 : Int32) = (0 : Int32) then (0 : Int32) else (1 : Int32)))])
          refine Go.iload X261 hx (hb hby at_265) rfl rfl  ?_
          refine Go.icmpNo X261 hx (hb hby at_267) rfl (teq B262).2 ?_
          refine Go.iconst X261 hx (hb hby at_270) rfl (1 : Int32) rfl ?_
          refine Go.goto X261 hx (hb hby at_271) rfl 275 (by decide) (by decide) ?_
          exact Go.retZ X261 hx (z' := (1 : Int32)) hret hlk (hb hby at_275) rfl (by decide) ⟨by first | rfl | simp [hc256, hc260], M251⟩ (Nat.le_of_ble_eq_true rfl) (Nat.le_of_ble_eq_true rfl)
        · refine Go.ifNo X259 hx (hb hby at_226) rfl ((if0 _ _).trans (feq hc260).1) ?_
          refine Go.iload X259 hx (hb hby at_229) rfl rfl  ?_
          refine Go.iconst X259 hx (hb hby at_231) rfl (3 : Int32) rfl ?_
          refine Go.icmpNo X259 hx (hb hby at_232) rfl (flt (by decide : ¬ ((3 : Int32) < (3 : Int32)))).1 ?_
          refine Go.iload X259 hx (hb hby at_235) rfl rfl  ?_
          refine Go.iload X259 hx (hb hby at_237) rfl rfl  ?_
          refine Go.iload X259 hx (hb hby at_239) rfl rfl  ?_
          refine Go.iload X259 hx (hb hby at_241) rfl rfl  ?_
          refine Go.iload X259 hx (hb hby at_243) rfl rfl  ?_
          refine Go.pureS X259 hx hZ hown (wd 44 rfl) (wd 45 rfl) (wd 3 rfl) (wd 46 rfl) (by decide) [(.int (pk ((((x5).toUInt32 >>> ((8 : Int32) &&& 31).toUInt32).toInt32) &&& (3 : Int32)) (x0 &&& (2147483647 : Int32)) (x1 &&& (2147483647 : Int32)) (x2 &&& (2147483647 : Int32)) (x3 ^^^ x4))), (.int (1 : Int32)), (.int (x0 &&& (2147483647 : Int32))), (.int (x1 &&& (2147483647 : Int32))), (.int (x2 &&& (2147483647 : Int32)))] [] (lwIn1 l Z a0 hw (pk ((((x5).toUInt32 >>> ((8 : Int32) &&& 31).toUInt32).toInt32) &&& (3 : Int32)) (x0 &&& (2147483647 : Int32)) (x1 &&& (2147483647 : Int32)) (x2 &&& (2147483647 : Int32)) (x3 ^^^ x4)) (x0 &&& (2147483647 : Int32)) (x1 &&& (2147483647 : Int32)) (x2 &&& (2147483647 : Int32)) T250.heap) e259 rfl (by rw [hml]; rfl) pd_7 rfl (hb hby at_245) (Nat.le_of_ble_eq_true rfl) (Nat.le_of_ble_eq_true rfl) (Nat.le_of_ble_eq_true rfl) (Nat.le_of_ble_eq_true rfl) ?_
          intro T263 X263 e263
          by_cases hc264 : (if (pk ((((x5).toUInt32 >>> ((8 : Int32) &&& 31).toUInt32).toInt32) &&& (3 : Int32)) (x0 &&& (2147483647 : Int32)) (x1 &&& (2147483647 : Int32)) (x2 &&& (2147483647 : Int32)) (x3 ^^^ x4)) ∈ (addL ([] : List Int32) (x0 &&& (2147483647 : Int32))) then 1 else 0 : Int32) = (0 : Int32)
          · refine Go.ifYes X263 hx (hb hby at_248) rfl 255 ((if0 _ _).trans (teq hc264).1) (by decide) (by decide) ?_
            refine Go.iconst X263 hx (hb hby at_255) rfl (0 : Int32) rfl ?_
            refine Go.istore X263 hx (hb hby at_256) rfl  #[.val (.int x0), .val (.int x1), .val (.int x2), .val (.int x3), .val (.int x4), .val (.int x5), .val (.int (x0 &&& (2147483647 : Int32))), .val (.int (x1 &&& (2147483647 : Int32))), .val (.int (x2 &&& (2147483647 : Int32))), .val (.int (1 : Int32)), .val (.int (3 : Int32)), .val (.int (pk ((((x5).toUInt32 >>> ((4 : Int32) &&& 31).toUInt32).toInt32) &&& (3 : Int32)) (x0 &&& (2147483647 : Int32)) (x1 &&& (2147483647 : Int32)) (x2 &&& (2147483647 : Int32)) x3)), .val (.int (pk ((((x5).toUInt32 >>> ((6 : Int32) &&& 31).toUInt32).toInt32) &&& (3 : Int32)) (x0 &&& (2147483647 : Int32)) (x1 &&& (2147483647 : Int32)) (x2 &&& (2147483647 : Int32)) x4)), .val (.int (pk ((((x5).toUInt32 >>> ((8 : Int32) &&& 31).toUInt32).toInt32) &&& (3 : Int32)) (x0 &&& (2147483647 : Int32)) (x1 &&& (2147483647 : Int32)) (x2 &&& (2147483647 : Int32)) (x3 ^^^ x4))), .val (.ref b213), .val (.ref b224), .val (.int (0 : Int32))] rfl ?_
            refine Go.aload X263 hx (hb hby at_258) rfl rfl rfl ?_
            refine Go.aload X263 hx (hb hby at_260) rfl rfl rfl ?_
            refine Go.pureV X263 hx hZ hown (wd 39 rfl) (wd 40 rfl) (notFace_of_selects (args := #[]) (mvT hZ (wd 42 rfl))) (wd 42 rfl) (wd 41 rfl) (wd 8 rfl) (wd 43 rfl) (by decide) [(.ref b213)] [] E254 (isAll3 l Z a0 hw b224 a_NONE b213 k213 (pk ((((x5).toUInt32 >>> ((4 : Int32) &&& 31).toUInt32).toInt32) &&& (3 : Int32)) (x0 &&& (2147483647 : Int32)) (x1 &&& (2147483647 : Int32)) (x2 &&& (2147483647 : Int32)) x3) (pk ((((x5).toUInt32 >>> ((6 : Int32) &&& 31).toUInt32).toInt32) &&& (3 : Int32)) (x0 &&& (2147483647 : Int32)) (x1 &&& (2147483647 : Int32)) (x2 &&& (2147483647 : Int32)) x4) (pk ((((x5).toUInt32 >>> ((8 : Int32) &&& 31).toUInt32).toInt32) &&& (3 : Int32)) (x0 &&& (2147483647 : Int32)) (x1 &&& (2147483647 : Int32)) (x2 &&& (2147483647 : Int32)) (x3 ^^^ x4)) (addL ([] : List Int32) (x0 &&& (2147483647 : Int32))) T250.heap E254 R250.2.1 (rep_read4 R250 (Nat.le_trans (Nat.le_trans (addL_len _ _) (Nat.succ_le_succ (Nat.le_refl 0))) (Nat.le_of_ble_eq_true rfl))) V253) e263 rfl (by rw [hml]; rfl) pd_6 rfl (hb hby at_262) (Nat.le_of_ble_eq_true rfl) (Nat.le_of_ble_eq_true rfl) (Nat.le_of_ble_eq_true rfl) (Nat.le_of_ble_eq_true rfl) ?_
            intro T265 X265 e265
            have B266 : (if (if (pk ((((x5).toUInt32 >>> ((4 : Int32) &&& 31).toUInt32).toInt32) &&& (3 : Int32)) (x0 &&& (2147483647 : Int32)) (x1 &&& (2147483647 : Int32)) (x2 &&& (2147483647 : Int32)) x3) ∈ (addL ([] : List Int32) (x0 &&& (2147483647 : Int32))) then 1 else 0 : Int32) = (0 : Int32) then (0 : Int32) else if (if (pk ((((x5).toUInt32 >>> ((6 : Int32) &&& 31).toUInt32).toInt32) &&& (3 : Int32)) (x0 &&& (2147483647 : Int32)) (x1 &&& (2147483647 : Int32)) (x2 &&& (2147483647 : Int32)) x4) ∈ (addL ([] : List Int32) (x0 &&& (2147483647 : Int32))) then 1 else 0 : Int32) = (0 : Int32) then (0 : Int32) else if (if (pk ((((x5).toUInt32 >>> ((8 : Int32) &&& 31).toUInt32).toInt32) &&& (3 : Int32)) (x0 &&& (2147483647 : Int32)) (x1 &&& (2147483647 : Int32)) (x2 &&& (2147483647 : Int32)) (x3 ^^^ x4)) ∈ (addL ([] : List Int32) (x0 &&& (2147483647 : Int32))) then 1 else 0 : Int32) = (0 : Int32) then (0 : Int32) else (1 : Int32)) = (0 : Int32) := by rw [if_neg hc256, if_neg hc260, if_pos hc264]
            show Go p e below _ T265 (mkF m 265 #[.val (.int x0), .val (.int x1), .val (.int x2), .val (.int x3), .val (.int x4), .val (.int x5), .val (.int (x0 &&& (2147483647 : Int32))), .val (.int (x1 &&& (2147483647 : Int32))), .val (.int (x2 &&& (2147483647 : Int32))), .val (.int (1 : Int32)), .val (.int (3 : Int32)), .val (.int (pk ((((x5).toUInt32 >>> ((4 : Int32) &&& 31).toUInt32).toInt32) &&& (3 : Int32)) (x0 &&& (2147483647 : Int32)) (x1 &&& (2147483647 : Int32)) (x2 &&& (2147483647 : Int32)) x3)), .val (.int (pk ((((x5).toUInt32 >>> ((6 : Int32) &&& 31).toUInt32).toInt32) &&& (3 : Int32)) (x0 &&& (2147483647 : Int32)) (x1 &&& (2147483647 : Int32)) (x2 &&& (2147483647 : Int32)) x4)), .val (.int (pk ((((x5).toUInt32 >>> ((8 : Int32) &&& 31).toUInt32).toInt32) &&& (3 : Int32)) (x0 &&& (2147483647 : Int32)) (x1 &&& (2147483647 : Int32)) (x2 &&& (2147483647 : Int32)) (x3 ^^^ x4))), .val (.ref b213), .val (.ref b224), .val (.int (0 : Int32))] [(.int (if (if (pk ((((x5).toUInt32 >>> ((4 : Int32) &&& 31).toUInt32).toInt32) &&& (3 : Int32)) (x0 &&& (2147483647 : Int32)) (x1 &&& (2147483647 : Int32)) (x2 &&& (2147483647 : Int32)) x3) ∈ (addL ([] : List Int32) (x0 &&& (2147483647 : Int32))) then 1 else 0 : Int32) = (0 : Int32) then (0 : Int32) else if (if (pk ((((x5).toUInt32 >>> ((6 : Int32) &&& 31).toUInt32).toInt32) &&& (3 : Int32)) (x0 &&& (2147483647 : Int32)) (x1 &&& (2147483647 : Int32)) (x2 &&& (2147483647 : Int32)) x4) ∈ (addL ([] : List Int32) (x0 &&& (2147483647 : Int32))) then 1 else 0 : Int32) = (0 : Int32) then (0 : Int32) else if (if (pk ((((x5).toUInt32 >>> ((8 : Int32) &&& 31).toUInt32).toInt32) &&& (3 : Int32)) (x0 &&& (2147483647 : Int32)) (x1 &&& (2147483647 : Int32)) (x2 &&& (2147483647 : Int32)) (x3 ^^^ x4)) ∈ (addL ([] : List Int32) (x0 &&& (2147483647 : Int32))) then 1 else 0 : Int32) = (0 : Int32) then (0 : Int32) else (1 : Int32)))])
            refine Go.iload X265 hx (hb hby at_265) rfl rfl  ?_
            refine Go.icmpNo X265 hx (hb hby at_267) rfl (teq B266).2 ?_
            refine Go.iconst X265 hx (hb hby at_270) rfl (1 : Int32) rfl ?_
            refine Go.goto X265 hx (hb hby at_271) rfl 275 (by decide) (by decide) ?_
            exact Go.retZ X265 hx (z' := (1 : Int32)) hret hlk (hb hby at_275) rfl (by decide) ⟨by first | rfl | simp [hc256, hc260, hc264], M251⟩ (Nat.le_of_ble_eq_true rfl) (Nat.le_of_ble_eq_true rfl)
          · refine Go.ifNo X263 hx (hb hby at_248) rfl ((if0 _ _).trans (feq hc264).1) ?_
            refine Go.iconst X263 hx (hb hby at_251) rfl (1 : Int32) rfl ?_
            refine Go.goto X263 hx (hb hby at_252) rfl 256 (by decide) (by decide) ?_
            refine Go.istore X263 hx (hb hby at_256) rfl  #[.val (.int x0), .val (.int x1), .val (.int x2), .val (.int x3), .val (.int x4), .val (.int x5), .val (.int (x0 &&& (2147483647 : Int32))), .val (.int (x1 &&& (2147483647 : Int32))), .val (.int (x2 &&& (2147483647 : Int32))), .val (.int (1 : Int32)), .val (.int (3 : Int32)), .val (.int (pk ((((x5).toUInt32 >>> ((4 : Int32) &&& 31).toUInt32).toInt32) &&& (3 : Int32)) (x0 &&& (2147483647 : Int32)) (x1 &&& (2147483647 : Int32)) (x2 &&& (2147483647 : Int32)) x3)), .val (.int (pk ((((x5).toUInt32 >>> ((6 : Int32) &&& 31).toUInt32).toInt32) &&& (3 : Int32)) (x0 &&& (2147483647 : Int32)) (x1 &&& (2147483647 : Int32)) (x2 &&& (2147483647 : Int32)) x4)), .val (.int (pk ((((x5).toUInt32 >>> ((8 : Int32) &&& 31).toUInt32).toInt32) &&& (3 : Int32)) (x0 &&& (2147483647 : Int32)) (x1 &&& (2147483647 : Int32)) (x2 &&& (2147483647 : Int32)) (x3 ^^^ x4))), .val (.ref b213), .val (.ref b224), .val (.int (1 : Int32))] rfl ?_
            refine Go.aload X263 hx (hb hby at_258) rfl rfl rfl ?_
            refine Go.aload X263 hx (hb hby at_260) rfl rfl rfl ?_
            refine Go.pureV X263 hx hZ hown (wd 39 rfl) (wd 40 rfl) (notFace_of_selects (args := #[]) (mvT hZ (wd 42 rfl))) (wd 42 rfl) (wd 41 rfl) (wd 8 rfl) (wd 43 rfl) (by decide) [(.ref b213)] [] E254 (isAll3 l Z a0 hw b224 a_NONE b213 k213 (pk ((((x5).toUInt32 >>> ((4 : Int32) &&& 31).toUInt32).toInt32) &&& (3 : Int32)) (x0 &&& (2147483647 : Int32)) (x1 &&& (2147483647 : Int32)) (x2 &&& (2147483647 : Int32)) x3) (pk ((((x5).toUInt32 >>> ((6 : Int32) &&& 31).toUInt32).toInt32) &&& (3 : Int32)) (x0 &&& (2147483647 : Int32)) (x1 &&& (2147483647 : Int32)) (x2 &&& (2147483647 : Int32)) x4) (pk ((((x5).toUInt32 >>> ((8 : Int32) &&& 31).toUInt32).toInt32) &&& (3 : Int32)) (x0 &&& (2147483647 : Int32)) (x1 &&& (2147483647 : Int32)) (x2 &&& (2147483647 : Int32)) (x3 ^^^ x4)) (addL ([] : List Int32) (x0 &&& (2147483647 : Int32))) T250.heap E254 R250.2.1 (rep_read4 R250 (Nat.le_trans (Nat.le_trans (addL_len _ _) (Nat.succ_le_succ (Nat.le_refl 0))) (Nat.le_of_ble_eq_true rfl))) V253) e263 rfl (by rw [hml]; rfl) pd_6 rfl (hb hby at_262) (Nat.le_of_ble_eq_true rfl) (Nat.le_of_ble_eq_true rfl) (Nat.le_of_ble_eq_true rfl) (Nat.le_of_ble_eq_true rfl) ?_
            intro T267 X267 e267
            have B268 : (if (if (pk ((((x5).toUInt32 >>> ((4 : Int32) &&& 31).toUInt32).toInt32) &&& (3 : Int32)) (x0 &&& (2147483647 : Int32)) (x1 &&& (2147483647 : Int32)) (x2 &&& (2147483647 : Int32)) x3) ∈ (addL ([] : List Int32) (x0 &&& (2147483647 : Int32))) then 1 else 0 : Int32) = (0 : Int32) then (0 : Int32) else if (if (pk ((((x5).toUInt32 >>> ((6 : Int32) &&& 31).toUInt32).toInt32) &&& (3 : Int32)) (x0 &&& (2147483647 : Int32)) (x1 &&& (2147483647 : Int32)) (x2 &&& (2147483647 : Int32)) x4) ∈ (addL ([] : List Int32) (x0 &&& (2147483647 : Int32))) then 1 else 0 : Int32) = (0 : Int32) then (0 : Int32) else if (if (pk ((((x5).toUInt32 >>> ((8 : Int32) &&& 31).toUInt32).toInt32) &&& (3 : Int32)) (x0 &&& (2147483647 : Int32)) (x1 &&& (2147483647 : Int32)) (x2 &&& (2147483647 : Int32)) (x3 ^^^ x4)) ∈ (addL ([] : List Int32) (x0 &&& (2147483647 : Int32))) then 1 else 0 : Int32) = (0 : Int32) then (0 : Int32) else (1 : Int32)) = (1 : Int32) := by rw [if_neg hc256, if_neg hc260, if_neg hc264]
            show Go p e below _ T267 (mkF m 265 #[.val (.int x0), .val (.int x1), .val (.int x2), .val (.int x3), .val (.int x4), .val (.int x5), .val (.int (x0 &&& (2147483647 : Int32))), .val (.int (x1 &&& (2147483647 : Int32))), .val (.int (x2 &&& (2147483647 : Int32))), .val (.int (1 : Int32)), .val (.int (3 : Int32)), .val (.int (pk ((((x5).toUInt32 >>> ((4 : Int32) &&& 31).toUInt32).toInt32) &&& (3 : Int32)) (x0 &&& (2147483647 : Int32)) (x1 &&& (2147483647 : Int32)) (x2 &&& (2147483647 : Int32)) x3)), .val (.int (pk ((((x5).toUInt32 >>> ((6 : Int32) &&& 31).toUInt32).toInt32) &&& (3 : Int32)) (x0 &&& (2147483647 : Int32)) (x1 &&& (2147483647 : Int32)) (x2 &&& (2147483647 : Int32)) x4)), .val (.int (pk ((((x5).toUInt32 >>> ((8 : Int32) &&& 31).toUInt32).toInt32) &&& (3 : Int32)) (x0 &&& (2147483647 : Int32)) (x1 &&& (2147483647 : Int32)) (x2 &&& (2147483647 : Int32)) (x3 ^^^ x4))), .val (.ref b213), .val (.ref b224), .val (.int (1 : Int32))] [(.int (if (if (pk ((((x5).toUInt32 >>> ((4 : Int32) &&& 31).toUInt32).toInt32) &&& (3 : Int32)) (x0 &&& (2147483647 : Int32)) (x1 &&& (2147483647 : Int32)) (x2 &&& (2147483647 : Int32)) x3) ∈ (addL ([] : List Int32) (x0 &&& (2147483647 : Int32))) then 1 else 0 : Int32) = (0 : Int32) then (0 : Int32) else if (if (pk ((((x5).toUInt32 >>> ((6 : Int32) &&& 31).toUInt32).toInt32) &&& (3 : Int32)) (x0 &&& (2147483647 : Int32)) (x1 &&& (2147483647 : Int32)) (x2 &&& (2147483647 : Int32)) x4) ∈ (addL ([] : List Int32) (x0 &&& (2147483647 : Int32))) then 1 else 0 : Int32) = (0 : Int32) then (0 : Int32) else if (if (pk ((((x5).toUInt32 >>> ((8 : Int32) &&& 31).toUInt32).toInt32) &&& (3 : Int32)) (x0 &&& (2147483647 : Int32)) (x1 &&& (2147483647 : Int32)) (x2 &&& (2147483647 : Int32)) (x3 ^^^ x4)) ∈ (addL ([] : List Int32) (x0 &&& (2147483647 : Int32))) then 1 else 0 : Int32) = (0 : Int32) then (0 : Int32) else (1 : Int32)))])
            refine Go.iload X267 hx (hb hby at_265) rfl rfl  ?_
            refine Go.icmpNo X267 hx (hb hby at_267) rfl (teq B268).2 ?_
            refine Go.iconst X267 hx (hb hby at_270) rfl (1 : Int32) rfl ?_
            refine Go.goto X267 hx (hb hby at_271) rfl 275 (by decide) (by decide) ?_
            exact Go.retZ X267 hx (z' := (1 : Int32)) hret hlk (hb hby at_275) rfl (by decide) ⟨by first | rfl | simp [hc256, hc260, hc264], M251⟩ (Nat.le_of_ble_eq_true rfl) (Nat.le_of_ble_eq_true rfl)
    · rw [hk]
      refine Go.iload X230 hx (hb hby at_143) rfl rfl  ?_
      refine Go.iconst X230 hx (hb hby at_145) rfl (1 : Int32) rfl ?_
      refine Go.icmpNo X230 hx (hb hby at_146) rfl (flt (by decide : ¬ ((2 : Int32) < (1 : Int32)))).1 ?_
      refine Go.aload X230 hx (hb hby at_149) rfl rfl rfl ?_
      refine Go.iload X230 hx (hb hby at_151) rfl rfl  ?_
      refine Go.callV X230 hx hZ hown (wd 21 rfl) (wd 22 rfl) (notFace_of_selects (args := #[]) (mvT hZ (wd 24 rfl))) (wd 24 rfl) (wd 23 rfl) (wd 8 rfl) (wd 25 rfl) (by decide) [(.int (x0 &&& (2147483647 : Int32)))] [] Y230 (isAddR l Z a0 hw b224 (x0 &&& (2147483647 : Int32)) a_NONE k_NONE ([] : List Int32) T230.heap O232 FF R235 (own_nn x0) (Nat.le_trans (Nat.le_refl 0) (Nat.le_of_ble_eq_true rfl))) rfl rfl (by rw [hml]; rfl) pd_3 rfl (hb hby at_153) (Nat.le_of_ble_eq_true rfl) (Nat.le_of_ble_eq_true rfl) (Nat.le_of_ble_eq_true rfl) (Nat.le_of_ble_eq_true rfl) ?_
      rintro vv269 T269 L269 X269 Q269
      obtain ⟨rfl, N269, B269, R269⟩ := Q269
      have M270 := Fr.app M231 N269
      have O271 := Blw.old B269 q224 O232
      have V272 := Arv.blw V233 B269 (Nat.lt_of_lt_of_le V221.lt (Nat.le_of_eq g224.symm))
      have E273 := R269.2.2.1
      refine Go.pop X269 hx (hb hby at_156) rfl rfl ?_
      refine Go.iload X269 hx (hb hby at_157) rfl rfl  ?_
      refine Go.iconst X269 hx (hb hby at_159) rfl (2 : Int32) rfl ?_
      refine Go.icmpNo X269 hx (hb hby at_160) rfl (flt (by decide : ¬ ((2 : Int32) < (2 : Int32)))).1 ?_
      refine Go.aload X269 hx (hb hby at_163) rfl rfl rfl ?_
      refine Go.iload X269 hx (hb hby at_165) rfl rfl  ?_
      refine Go.callV X269 hx hZ hown (wd 21 rfl) (wd 22 rfl) (notFace_of_selects (args := #[]) (mvT hZ (wd 24 rfl))) (wd 24 rfl) (wd 23 rfl) (wd 8 rfl) (wd 25 rfl) (by decide) [(.int (x1 &&& (2147483647 : Int32)))] [] E273 (isAddR l Z a0 hw b224 (x1 &&& (2147483647 : Int32)) a_NONE k_NONE (addL ([] : List Int32) (x0 &&& (2147483647 : Int32))) T269.heap O271 FF R269 (own_nn x1) (Nat.le_trans (Nat.le_trans (addL_len _ _) (Nat.succ_le_succ (Nat.le_refl 0))) (Nat.le_of_ble_eq_true rfl))) rfl rfl (by rw [hml]; rfl) pd_3 rfl (hb hby at_167) (Nat.le_of_ble_eq_true rfl) (Nat.le_of_ble_eq_true rfl) (Nat.le_of_ble_eq_true rfl) (Nat.le_of_ble_eq_true rfl) ?_
      rintro vv274 T274 L274 X274 Q274
      obtain ⟨rfl, N274, B274, R274⟩ := Q274
      have M275 := Fr.app M270 N274
      have O276 := Blw.old B274 q224 O271
      have V277 := Arv.blw V272 B274 (Nat.lt_of_lt_of_le V221.lt (Nat.le_of_eq g224.symm))
      have E278 := R274.2.2.1
      refine Go.pop X274 hx (hb hby at_170) rfl rfl ?_
      refine Go.iload X274 hx (hb hby at_171) rfl rfl  ?_
      refine Go.iconst X274 hx (hb hby at_173) rfl (3 : Int32) rfl ?_
      refine Go.icmpYes X274 hx (hb hby at_174) rfl 185 (tlt (by decide : (2 : Int32) < (3 : Int32))).1 (by decide) (by decide) ?_
      show Go p e below _ T274 (mkF m 185 #[.val (.int x0), .val (.int x1), .val (.int x2), .val (.int x3), .val (.int x4), .val (.int x5), .val (.int (x0 &&& (2147483647 : Int32))), .val (.int (x1 &&& (2147483647 : Int32))), .val (.int (x2 &&& (2147483647 : Int32))), .val (.int (2 : Int32)), .val (.int (3 : Int32)), .val (.int (pk ((((x5).toUInt32 >>> ((4 : Int32) &&& 31).toUInt32).toInt32) &&& (3 : Int32)) (x0 &&& (2147483647 : Int32)) (x1 &&& (2147483647 : Int32)) (x2 &&& (2147483647 : Int32)) x3)), .val (.int (pk ((((x5).toUInt32 >>> ((6 : Int32) &&& 31).toUInt32).toInt32) &&& (3 : Int32)) (x0 &&& (2147483647 : Int32)) (x1 &&& (2147483647 : Int32)) (x2 &&& (2147483647 : Int32)) x4)), .val (.int (pk ((((x5).toUInt32 >>> ((8 : Int32) &&& 31).toUInt32).toInt32) &&& (3 : Int32)) (x0 &&& (2147483647 : Int32)) (x1 &&& (2147483647 : Int32)) (x2 &&& (2147483647 : Int32)) (x3 ^^^ x4))), .val (.ref b213), .val (.ref b224), .unset] [])
      refine Go.iload X274 hx (hb hby at_185) rfl rfl  ?_
      refine Go.iconst X274 hx (hb hby at_187) rfl (1 : Int32) rfl ?_
      refine Go.icmpNo X274 hx (hb hby at_188) rfl (flt (by decide : ¬ ((3 : Int32) < (1 : Int32)))).1 ?_
      refine Go.iload X274 hx (hb hby at_191) rfl rfl  ?_
      refine Go.iload X274 hx (hb hby at_193) rfl rfl  ?_
      refine Go.iload X274 hx (hb hby at_195) rfl rfl  ?_
      refine Go.iload X274 hx (hb hby at_197) rfl rfl  ?_
      refine Go.iload X274 hx (hb hby at_199) rfl rfl  ?_
      refine Go.pureS X274 hx hZ hown (wd 44 rfl) (wd 45 rfl) (wd 3 rfl) (wd 46 rfl) (by decide) [(.int (pk ((((x5).toUInt32 >>> ((4 : Int32) &&& 31).toUInt32).toInt32) &&& (3 : Int32)) (x0 &&& (2147483647 : Int32)) (x1 &&& (2147483647 : Int32)) (x2 &&& (2147483647 : Int32)) x3)), (.int (2 : Int32)), (.int (x0 &&& (2147483647 : Int32))), (.int (x1 &&& (2147483647 : Int32))), (.int (x2 &&& (2147483647 : Int32)))] [] (lwIn2 l Z a0 hw (pk ((((x5).toUInt32 >>> ((4 : Int32) &&& 31).toUInt32).toInt32) &&& (3 : Int32)) (x0 &&& (2147483647 : Int32)) (x1 &&& (2147483647 : Int32)) (x2 &&& (2147483647 : Int32)) x3) (x0 &&& (2147483647 : Int32)) (x1 &&& (2147483647 : Int32)) (x2 &&& (2147483647 : Int32)) T274.heap) rfl rfl (by rw [hml]; rfl) pd_7 rfl (hb hby at_201) (Nat.le_of_ble_eq_true rfl) (Nat.le_of_ble_eq_true rfl) (Nat.le_of_ble_eq_true rfl) (Nat.le_of_ble_eq_true rfl) ?_
      intro T279 X279 e279
      by_cases hc280 : (if (pk ((((x5).toUInt32 >>> ((4 : Int32) &&& 31).toUInt32).toInt32) &&& (3 : Int32)) (x0 &&& (2147483647 : Int32)) (x1 &&& (2147483647 : Int32)) (x2 &&& (2147483647 : Int32)) x3) ∈ (addL (addL ([] : List Int32) (x0 &&& (2147483647 : Int32))) (x1 &&& (2147483647 : Int32))) then 1 else 0 : Int32) = (0 : Int32)
      · refine Go.ifYes X279 hx (hb hby at_204) rfl 255 ((if0 _ _).trans (teq hc280).1) (by decide) (by decide) ?_
        refine Go.iconst X279 hx (hb hby at_255) rfl (0 : Int32) rfl ?_
        refine Go.istore X279 hx (hb hby at_256) rfl  #[.val (.int x0), .val (.int x1), .val (.int x2), .val (.int x3), .val (.int x4), .val (.int x5), .val (.int (x0 &&& (2147483647 : Int32))), .val (.int (x1 &&& (2147483647 : Int32))), .val (.int (x2 &&& (2147483647 : Int32))), .val (.int (2 : Int32)), .val (.int (3 : Int32)), .val (.int (pk ((((x5).toUInt32 >>> ((4 : Int32) &&& 31).toUInt32).toInt32) &&& (3 : Int32)) (x0 &&& (2147483647 : Int32)) (x1 &&& (2147483647 : Int32)) (x2 &&& (2147483647 : Int32)) x3)), .val (.int (pk ((((x5).toUInt32 >>> ((6 : Int32) &&& 31).toUInt32).toInt32) &&& (3 : Int32)) (x0 &&& (2147483647 : Int32)) (x1 &&& (2147483647 : Int32)) (x2 &&& (2147483647 : Int32)) x4)), .val (.int (pk ((((x5).toUInt32 >>> ((8 : Int32) &&& 31).toUInt32).toInt32) &&& (3 : Int32)) (x0 &&& (2147483647 : Int32)) (x1 &&& (2147483647 : Int32)) (x2 &&& (2147483647 : Int32)) (x3 ^^^ x4))), .val (.ref b213), .val (.ref b224), .val (.int (0 : Int32))] rfl ?_
        refine Go.aload X279 hx (hb hby at_258) rfl rfl rfl ?_
        refine Go.aload X279 hx (hb hby at_260) rfl rfl rfl ?_
        refine Go.pureV X279 hx hZ hown (wd 39 rfl) (wd 40 rfl) (notFace_of_selects (args := #[]) (mvT hZ (wd 42 rfl))) (wd 42 rfl) (wd 41 rfl) (wd 8 rfl) (wd 43 rfl) (by decide) [(.ref b213)] [] E278 (isAll3 l Z a0 hw b224 a_NONE b213 k213 (pk ((((x5).toUInt32 >>> ((4 : Int32) &&& 31).toUInt32).toInt32) &&& (3 : Int32)) (x0 &&& (2147483647 : Int32)) (x1 &&& (2147483647 : Int32)) (x2 &&& (2147483647 : Int32)) x3) (pk ((((x5).toUInt32 >>> ((6 : Int32) &&& 31).toUInt32).toInt32) &&& (3 : Int32)) (x0 &&& (2147483647 : Int32)) (x1 &&& (2147483647 : Int32)) (x2 &&& (2147483647 : Int32)) x4) (pk ((((x5).toUInt32 >>> ((8 : Int32) &&& 31).toUInt32).toInt32) &&& (3 : Int32)) (x0 &&& (2147483647 : Int32)) (x1 &&& (2147483647 : Int32)) (x2 &&& (2147483647 : Int32)) (x3 ^^^ x4)) (addL (addL ([] : List Int32) (x0 &&& (2147483647 : Int32))) (x1 &&& (2147483647 : Int32))) T274.heap E278 R274.2.1 (rep_read4 R274 (Nat.le_trans (Nat.le_trans (addL_len _ _) (Nat.succ_le_succ (Nat.le_trans (addL_len _ _) (Nat.succ_le_succ (Nat.le_refl 0))))) (Nat.le_of_ble_eq_true rfl))) V277) e279 rfl (by rw [hml]; rfl) pd_6 rfl (hb hby at_262) (Nat.le_of_ble_eq_true rfl) (Nat.le_of_ble_eq_true rfl) (Nat.le_of_ble_eq_true rfl) (Nat.le_of_ble_eq_true rfl) ?_
        intro T281 X281 e281
        have B282 : (if (if (pk ((((x5).toUInt32 >>> ((4 : Int32) &&& 31).toUInt32).toInt32) &&& (3 : Int32)) (x0 &&& (2147483647 : Int32)) (x1 &&& (2147483647 : Int32)) (x2 &&& (2147483647 : Int32)) x3) ∈ (addL (addL ([] : List Int32) (x0 &&& (2147483647 : Int32))) (x1 &&& (2147483647 : Int32))) then 1 else 0 : Int32) = (0 : Int32) then (0 : Int32) else if (if (pk ((((x5).toUInt32 >>> ((6 : Int32) &&& 31).toUInt32).toInt32) &&& (3 : Int32)) (x0 &&& (2147483647 : Int32)) (x1 &&& (2147483647 : Int32)) (x2 &&& (2147483647 : Int32)) x4) ∈ (addL (addL ([] : List Int32) (x0 &&& (2147483647 : Int32))) (x1 &&& (2147483647 : Int32))) then 1 else 0 : Int32) = (0 : Int32) then (0 : Int32) else if (if (pk ((((x5).toUInt32 >>> ((8 : Int32) &&& 31).toUInt32).toInt32) &&& (3 : Int32)) (x0 &&& (2147483647 : Int32)) (x1 &&& (2147483647 : Int32)) (x2 &&& (2147483647 : Int32)) (x3 ^^^ x4)) ∈ (addL (addL ([] : List Int32) (x0 &&& (2147483647 : Int32))) (x1 &&& (2147483647 : Int32))) then 1 else 0 : Int32) = (0 : Int32) then (0 : Int32) else (1 : Int32)) = (0 : Int32) := by rw [if_pos hc280]
        show Go p e below _ T281 (mkF m 265 #[.val (.int x0), .val (.int x1), .val (.int x2), .val (.int x3), .val (.int x4), .val (.int x5), .val (.int (x0 &&& (2147483647 : Int32))), .val (.int (x1 &&& (2147483647 : Int32))), .val (.int (x2 &&& (2147483647 : Int32))), .val (.int (2 : Int32)), .val (.int (3 : Int32)), .val (.int (pk ((((x5).toUInt32 >>> ((4 : Int32) &&& 31).toUInt32).toInt32) &&& (3 : Int32)) (x0 &&& (2147483647 : Int32)) (x1 &&& (2147483647 : Int32)) (x2 &&& (2147483647 : Int32)) x3)), .val (.int (pk ((((x5).toUInt32 >>> ((6 : Int32) &&& 31).toUInt32).toInt32) &&& (3 : Int32)) (x0 &&& (2147483647 : Int32)) (x1 &&& (2147483647 : Int32)) (x2 &&& (2147483647 : Int32)) x4)), .val (.int (pk ((((x5).toUInt32 >>> ((8 : Int32) &&& 31).toUInt32).toInt32) &&& (3 : Int32)) (x0 &&& (2147483647 : Int32)) (x1 &&& (2147483647 : Int32)) (x2 &&& (2147483647 : Int32)) (x3 ^^^ x4))), .val (.ref b213), .val (.ref b224), .val (.int (0 : Int32))] [(.int (if (if (pk ((((x5).toUInt32 >>> ((4 : Int32) &&& 31).toUInt32).toInt32) &&& (3 : Int32)) (x0 &&& (2147483647 : Int32)) (x1 &&& (2147483647 : Int32)) (x2 &&& (2147483647 : Int32)) x3) ∈ (addL (addL ([] : List Int32) (x0 &&& (2147483647 : Int32))) (x1 &&& (2147483647 : Int32))) then 1 else 0 : Int32) = (0 : Int32) then (0 : Int32) else if (if (pk ((((x5).toUInt32 >>> ((6 : Int32) &&& 31).toUInt32).toInt32) &&& (3 : Int32)) (x0 &&& (2147483647 : Int32)) (x1 &&& (2147483647 : Int32)) (x2 &&& (2147483647 : Int32)) x4) ∈ (addL (addL ([] : List Int32) (x0 &&& (2147483647 : Int32))) (x1 &&& (2147483647 : Int32))) then 1 else 0 : Int32) = (0 : Int32) then (0 : Int32) else if (if (pk ((((x5).toUInt32 >>> ((8 : Int32) &&& 31).toUInt32).toInt32) &&& (3 : Int32)) (x0 &&& (2147483647 : Int32)) (x1 &&& (2147483647 : Int32)) (x2 &&& (2147483647 : Int32)) (x3 ^^^ x4)) ∈ (addL (addL ([] : List Int32) (x0 &&& (2147483647 : Int32))) (x1 &&& (2147483647 : Int32))) then 1 else 0 : Int32) = (0 : Int32) then (0 : Int32) else (1 : Int32)))])
        refine Go.iload X281 hx (hb hby at_265) rfl rfl  ?_
        refine Go.icmpNo X281 hx (hb hby at_267) rfl (teq B282).2 ?_
        refine Go.iconst X281 hx (hb hby at_270) rfl (1 : Int32) rfl ?_
        refine Go.goto X281 hx (hb hby at_271) rfl 275 (by decide) (by decide) ?_
        exact Go.retZ X281 hx (z' := (1 : Int32)) hret hlk (hb hby at_275) rfl (by decide) ⟨by first | rfl | simp [hc280], M275⟩ (Nat.le_of_ble_eq_true rfl) (Nat.le_of_ble_eq_true rfl)
      · refine Go.ifNo X279 hx (hb hby at_204) rfl ((if0 _ _).trans (feq hc280).1) ?_
        refine Go.iload X279 hx (hb hby at_207) rfl rfl  ?_
        refine Go.iconst X279 hx (hb hby at_209) rfl (2 : Int32) rfl ?_
        refine Go.icmpNo X279 hx (hb hby at_210) rfl (flt (by decide : ¬ ((3 : Int32) < (2 : Int32)))).1 ?_
        refine Go.iload X279 hx (hb hby at_213) rfl rfl  ?_
        refine Go.iload X279 hx (hb hby at_215) rfl rfl  ?_
        refine Go.iload X279 hx (hb hby at_217) rfl rfl  ?_
        refine Go.iload X279 hx (hb hby at_219) rfl rfl  ?_
        refine Go.iload X279 hx (hb hby at_221) rfl rfl  ?_
        refine Go.pureS X279 hx hZ hown (wd 44 rfl) (wd 45 rfl) (wd 3 rfl) (wd 46 rfl) (by decide) [(.int (pk ((((x5).toUInt32 >>> ((6 : Int32) &&& 31).toUInt32).toInt32) &&& (3 : Int32)) (x0 &&& (2147483647 : Int32)) (x1 &&& (2147483647 : Int32)) (x2 &&& (2147483647 : Int32)) x4)), (.int (2 : Int32)), (.int (x0 &&& (2147483647 : Int32))), (.int (x1 &&& (2147483647 : Int32))), (.int (x2 &&& (2147483647 : Int32)))] [] (lwIn2 l Z a0 hw (pk ((((x5).toUInt32 >>> ((6 : Int32) &&& 31).toUInt32).toInt32) &&& (3 : Int32)) (x0 &&& (2147483647 : Int32)) (x1 &&& (2147483647 : Int32)) (x2 &&& (2147483647 : Int32)) x4) (x0 &&& (2147483647 : Int32)) (x1 &&& (2147483647 : Int32)) (x2 &&& (2147483647 : Int32)) T274.heap) e279 rfl (by rw [hml]; rfl) pd_7 rfl (hb hby at_223) (Nat.le_of_ble_eq_true rfl) (Nat.le_of_ble_eq_true rfl) (Nat.le_of_ble_eq_true rfl) (Nat.le_of_ble_eq_true rfl) ?_
        intro T283 X283 e283
        by_cases hc284 : (if (pk ((((x5).toUInt32 >>> ((6 : Int32) &&& 31).toUInt32).toInt32) &&& (3 : Int32)) (x0 &&& (2147483647 : Int32)) (x1 &&& (2147483647 : Int32)) (x2 &&& (2147483647 : Int32)) x4) ∈ (addL (addL ([] : List Int32) (x0 &&& (2147483647 : Int32))) (x1 &&& (2147483647 : Int32))) then 1 else 0 : Int32) = (0 : Int32)
        · refine Go.ifYes X283 hx (hb hby at_226) rfl 255 ((if0 _ _).trans (teq hc284).1) (by decide) (by decide) ?_
          refine Go.iconst X283 hx (hb hby at_255) rfl (0 : Int32) rfl ?_
          refine Go.istore X283 hx (hb hby at_256) rfl  #[.val (.int x0), .val (.int x1), .val (.int x2), .val (.int x3), .val (.int x4), .val (.int x5), .val (.int (x0 &&& (2147483647 : Int32))), .val (.int (x1 &&& (2147483647 : Int32))), .val (.int (x2 &&& (2147483647 : Int32))), .val (.int (2 : Int32)), .val (.int (3 : Int32)), .val (.int (pk ((((x5).toUInt32 >>> ((4 : Int32) &&& 31).toUInt32).toInt32) &&& (3 : Int32)) (x0 &&& (2147483647 : Int32)) (x1 &&& (2147483647 : Int32)) (x2 &&& (2147483647 : Int32)) x3)), .val (.int (pk ((((x5).toUInt32 >>> ((6 : Int32) &&& 31).toUInt32).toInt32) &&& (3 : Int32)) (x0 &&& (2147483647 : Int32)) (x1 &&& (2147483647 : Int32)) (x2 &&& (2147483647 : Int32)) x4)), .val (.int (pk ((((x5).toUInt32 >>> ((8 : Int32) &&& 31).toUInt32).toInt32) &&& (3 : Int32)) (x0 &&& (2147483647 : Int32)) (x1 &&& (2147483647 : Int32)) (x2 &&& (2147483647 : Int32)) (x3 ^^^ x4))), .val (.ref b213), .val (.ref b224), .val (.int (0 : Int32))] rfl ?_
          refine Go.aload X283 hx (hb hby at_258) rfl rfl rfl ?_
          refine Go.aload X283 hx (hb hby at_260) rfl rfl rfl ?_
          refine Go.pureV X283 hx hZ hown (wd 39 rfl) (wd 40 rfl) (notFace_of_selects (args := #[]) (mvT hZ (wd 42 rfl))) (wd 42 rfl) (wd 41 rfl) (wd 8 rfl) (wd 43 rfl) (by decide) [(.ref b213)] [] E278 (isAll3 l Z a0 hw b224 a_NONE b213 k213 (pk ((((x5).toUInt32 >>> ((4 : Int32) &&& 31).toUInt32).toInt32) &&& (3 : Int32)) (x0 &&& (2147483647 : Int32)) (x1 &&& (2147483647 : Int32)) (x2 &&& (2147483647 : Int32)) x3) (pk ((((x5).toUInt32 >>> ((6 : Int32) &&& 31).toUInt32).toInt32) &&& (3 : Int32)) (x0 &&& (2147483647 : Int32)) (x1 &&& (2147483647 : Int32)) (x2 &&& (2147483647 : Int32)) x4) (pk ((((x5).toUInt32 >>> ((8 : Int32) &&& 31).toUInt32).toInt32) &&& (3 : Int32)) (x0 &&& (2147483647 : Int32)) (x1 &&& (2147483647 : Int32)) (x2 &&& (2147483647 : Int32)) (x3 ^^^ x4)) (addL (addL ([] : List Int32) (x0 &&& (2147483647 : Int32))) (x1 &&& (2147483647 : Int32))) T274.heap E278 R274.2.1 (rep_read4 R274 (Nat.le_trans (Nat.le_trans (addL_len _ _) (Nat.succ_le_succ (Nat.le_trans (addL_len _ _) (Nat.succ_le_succ (Nat.le_refl 0))))) (Nat.le_of_ble_eq_true rfl))) V277) e283 rfl (by rw [hml]; rfl) pd_6 rfl (hb hby at_262) (Nat.le_of_ble_eq_true rfl) (Nat.le_of_ble_eq_true rfl) (Nat.le_of_ble_eq_true rfl) (Nat.le_of_ble_eq_true rfl) ?_
          intro T285 X285 e285
          have B286 : (if (if (pk ((((x5).toUInt32 >>> ((4 : Int32) &&& 31).toUInt32).toInt32) &&& (3 : Int32)) (x0 &&& (2147483647 : Int32)) (x1 &&& (2147483647 : Int32)) (x2 &&& (2147483647 : Int32)) x3) ∈ (addL (addL ([] : List Int32) (x0 &&& (2147483647 : Int32))) (x1 &&& (2147483647 : Int32))) then 1 else 0 : Int32) = (0 : Int32) then (0 : Int32) else if (if (pk ((((x5).toUInt32 >>> ((6 : Int32) &&& 31).toUInt32).toInt32) &&& (3 : Int32)) (x0 &&& (2147483647 : Int32)) (x1 &&& (2147483647 : Int32)) (x2 &&& (2147483647 : Int32)) x4) ∈ (addL (addL ([] : List Int32) (x0 &&& (2147483647 : Int32))) (x1 &&& (2147483647 : Int32))) then 1 else 0 : Int32) = (0 : Int32) then (0 : Int32) else if (if (pk ((((x5).toUInt32 >>> ((8 : Int32) &&& 31).toUInt32).toInt32) &&& (3 : Int32)) (x0 &&& (2147483647 : Int32)) (x1 &&& (2147483647 : Int32)) (x2 &&& (2147483647 : Int32)) (x3 ^^^ x4)) ∈ (addL (addL ([] : List Int32) (x0 &&& (2147483647 : Int32))) (x1 &&& (2147483647 : Int32))) then 1 else 0 : Int32) = (0 : Int32) then (0 : Int32) else (1 : Int32)) = (0 : Int32) := by rw [if_neg hc280, if_pos hc284]
          show Go p e below _ T285 (mkF m 265 #[.val (.int x0), .val (.int x1), .val (.int x2), .val (.int x3), .val (.int x4), .val (.int x5), .val (.int (x0 &&& (2147483647 : Int32))), .val (.int (x1 &&& (2147483647 : Int32))), .val (.int (x2 &&& (2147483647 : Int32))), .val (.int (2 : Int32)), .val (.int (3 : Int32)), .val (.int (pk ((((x5).toUInt32 >>> ((4 : Int32) &&& 31).toUInt32).toInt32) &&& (3 : Int32)) (x0 &&& (2147483647 : Int32)) (x1 &&& (2147483647 : Int32)) (x2 &&& (2147483647 : Int32)) x3)), .val (.int (pk ((((x5).toUInt32 >>> ((6 : Int32) &&& 31).toUInt32).toInt32) &&& (3 : Int32)) (x0 &&& (2147483647 : Int32)) (x1 &&& (2147483647 : Int32)) (x2 &&& (2147483647 : Int32)) x4)), .val (.int (pk ((((x5).toUInt32 >>> ((8 : Int32) &&& 31).toUInt32).toInt32) &&& (3 : Int32)) (x0 &&& (2147483647 : Int32)) (x1 &&& (2147483647 : Int32)) (x2 &&& (2147483647 : Int32)) (x3 ^^^ x4))), .val (.ref b213), .val (.ref b224), .val (.int (0 : Int32))] [(.int (if (if (pk ((((x5).toUInt32 >>> ((4 : Int32) &&& 31).toUInt32).toInt32) &&& (3 : Int32)) (x0 &&& (2147483647 : Int32)) (x1 &&& (2147483647 : Int32)) (x2 &&& (2147483647 : Int32)) x3) ∈ (addL (addL ([] : List Int32) (x0 &&& (2147483647 : Int32))) (x1 &&& (2147483647 : Int32))) then 1 else 0 : Int32) = (0 : Int32) then (0 : Int32) else if (if (pk ((((x5).toUInt32 >>> ((6 : Int32) &&& 31).toUInt32).toInt32) &&& (3 : Int32)) (x0 &&& (2147483647 : Int32)) (x1 &&& (2147483647 : Int32)) (x2 &&& (2147483647 : Int32)) x4) ∈ (addL (addL ([] : List Int32) (x0 &&& (2147483647 : Int32))) (x1 &&& (2147483647 : Int32))) then 1 else 0 : Int32) = (0 : Int32) then (0 : Int32) else if (if (pk ((((x5).toUInt32 >>> ((8 : Int32) &&& 31).toUInt32).toInt32) &&& (3 : Int32)) (x0 &&& (2147483647 : Int32)) (x1 &&& (2147483647 : Int32)) (x2 &&& (2147483647 : Int32)) (x3 ^^^ x4)) ∈ (addL (addL ([] : List Int32) (x0 &&& (2147483647 : Int32))) (x1 &&& (2147483647 : Int32))) then 1 else 0 : Int32) = (0 : Int32) then (0 : Int32) else (1 : Int32)))])
          refine Go.iload X285 hx (hb hby at_265) rfl rfl  ?_
          refine Go.icmpNo X285 hx (hb hby at_267) rfl (teq B286).2 ?_
          refine Go.iconst X285 hx (hb hby at_270) rfl (1 : Int32) rfl ?_
          refine Go.goto X285 hx (hb hby at_271) rfl 275 (by decide) (by decide) ?_
          exact Go.retZ X285 hx (z' := (1 : Int32)) hret hlk (hb hby at_275) rfl (by decide) ⟨by first | rfl | simp [hc280, hc284], M275⟩ (Nat.le_of_ble_eq_true rfl) (Nat.le_of_ble_eq_true rfl)
        · refine Go.ifNo X283 hx (hb hby at_226) rfl ((if0 _ _).trans (feq hc284).1) ?_
          refine Go.iload X283 hx (hb hby at_229) rfl rfl  ?_
          refine Go.iconst X283 hx (hb hby at_231) rfl (3 : Int32) rfl ?_
          refine Go.icmpNo X283 hx (hb hby at_232) rfl (flt (by decide : ¬ ((3 : Int32) < (3 : Int32)))).1 ?_
          refine Go.iload X283 hx (hb hby at_235) rfl rfl  ?_
          refine Go.iload X283 hx (hb hby at_237) rfl rfl  ?_
          refine Go.iload X283 hx (hb hby at_239) rfl rfl  ?_
          refine Go.iload X283 hx (hb hby at_241) rfl rfl  ?_
          refine Go.iload X283 hx (hb hby at_243) rfl rfl  ?_
          refine Go.pureS X283 hx hZ hown (wd 44 rfl) (wd 45 rfl) (wd 3 rfl) (wd 46 rfl) (by decide) [(.int (pk ((((x5).toUInt32 >>> ((8 : Int32) &&& 31).toUInt32).toInt32) &&& (3 : Int32)) (x0 &&& (2147483647 : Int32)) (x1 &&& (2147483647 : Int32)) (x2 &&& (2147483647 : Int32)) (x3 ^^^ x4))), (.int (2 : Int32)), (.int (x0 &&& (2147483647 : Int32))), (.int (x1 &&& (2147483647 : Int32))), (.int (x2 &&& (2147483647 : Int32)))] [] (lwIn2 l Z a0 hw (pk ((((x5).toUInt32 >>> ((8 : Int32) &&& 31).toUInt32).toInt32) &&& (3 : Int32)) (x0 &&& (2147483647 : Int32)) (x1 &&& (2147483647 : Int32)) (x2 &&& (2147483647 : Int32)) (x3 ^^^ x4)) (x0 &&& (2147483647 : Int32)) (x1 &&& (2147483647 : Int32)) (x2 &&& (2147483647 : Int32)) T274.heap) e283 rfl (by rw [hml]; rfl) pd_7 rfl (hb hby at_245) (Nat.le_of_ble_eq_true rfl) (Nat.le_of_ble_eq_true rfl) (Nat.le_of_ble_eq_true rfl) (Nat.le_of_ble_eq_true rfl) ?_
          intro T287 X287 e287
          by_cases hc288 : (if (pk ((((x5).toUInt32 >>> ((8 : Int32) &&& 31).toUInt32).toInt32) &&& (3 : Int32)) (x0 &&& (2147483647 : Int32)) (x1 &&& (2147483647 : Int32)) (x2 &&& (2147483647 : Int32)) (x3 ^^^ x4)) ∈ (addL (addL ([] : List Int32) (x0 &&& (2147483647 : Int32))) (x1 &&& (2147483647 : Int32))) then 1 else 0 : Int32) = (0 : Int32)
          · refine Go.ifYes X287 hx (hb hby at_248) rfl 255 ((if0 _ _).trans (teq hc288).1) (by decide) (by decide) ?_
            refine Go.iconst X287 hx (hb hby at_255) rfl (0 : Int32) rfl ?_
            refine Go.istore X287 hx (hb hby at_256) rfl  #[.val (.int x0), .val (.int x1), .val (.int x2), .val (.int x3), .val (.int x4), .val (.int x5), .val (.int (x0 &&& (2147483647 : Int32))), .val (.int (x1 &&& (2147483647 : Int32))), .val (.int (x2 &&& (2147483647 : Int32))), .val (.int (2 : Int32)), .val (.int (3 : Int32)), .val (.int (pk ((((x5).toUInt32 >>> ((4 : Int32) &&& 31).toUInt32).toInt32) &&& (3 : Int32)) (x0 &&& (2147483647 : Int32)) (x1 &&& (2147483647 : Int32)) (x2 &&& (2147483647 : Int32)) x3)), .val (.int (pk ((((x5).toUInt32 >>> ((6 : Int32) &&& 31).toUInt32).toInt32) &&& (3 : Int32)) (x0 &&& (2147483647 : Int32)) (x1 &&& (2147483647 : Int32)) (x2 &&& (2147483647 : Int32)) x4)), .val (.int (pk ((((x5).toUInt32 >>> ((8 : Int32) &&& 31).toUInt32).toInt32) &&& (3 : Int32)) (x0 &&& (2147483647 : Int32)) (x1 &&& (2147483647 : Int32)) (x2 &&& (2147483647 : Int32)) (x3 ^^^ x4))), .val (.ref b213), .val (.ref b224), .val (.int (0 : Int32))] rfl ?_
            refine Go.aload X287 hx (hb hby at_258) rfl rfl rfl ?_
            refine Go.aload X287 hx (hb hby at_260) rfl rfl rfl ?_
            refine Go.pureV X287 hx hZ hown (wd 39 rfl) (wd 40 rfl) (notFace_of_selects (args := #[]) (mvT hZ (wd 42 rfl))) (wd 42 rfl) (wd 41 rfl) (wd 8 rfl) (wd 43 rfl) (by decide) [(.ref b213)] [] E278 (isAll3 l Z a0 hw b224 a_NONE b213 k213 (pk ((((x5).toUInt32 >>> ((4 : Int32) &&& 31).toUInt32).toInt32) &&& (3 : Int32)) (x0 &&& (2147483647 : Int32)) (x1 &&& (2147483647 : Int32)) (x2 &&& (2147483647 : Int32)) x3) (pk ((((x5).toUInt32 >>> ((6 : Int32) &&& 31).toUInt32).toInt32) &&& (3 : Int32)) (x0 &&& (2147483647 : Int32)) (x1 &&& (2147483647 : Int32)) (x2 &&& (2147483647 : Int32)) x4) (pk ((((x5).toUInt32 >>> ((8 : Int32) &&& 31).toUInt32).toInt32) &&& (3 : Int32)) (x0 &&& (2147483647 : Int32)) (x1 &&& (2147483647 : Int32)) (x2 &&& (2147483647 : Int32)) (x3 ^^^ x4)) (addL (addL ([] : List Int32) (x0 &&& (2147483647 : Int32))) (x1 &&& (2147483647 : Int32))) T274.heap E278 R274.2.1 (rep_read4 R274 (Nat.le_trans (Nat.le_trans (addL_len _ _) (Nat.succ_le_succ (Nat.le_trans (addL_len _ _) (Nat.succ_le_succ (Nat.le_refl 0))))) (Nat.le_of_ble_eq_true rfl))) V277) e287 rfl (by rw [hml]; rfl) pd_6 rfl (hb hby at_262) (Nat.le_of_ble_eq_true rfl) (Nat.le_of_ble_eq_true rfl) (Nat.le_of_ble_eq_true rfl) (Nat.le_of_ble_eq_true rfl) ?_
            intro T289 X289 e289
            have B290 : (if (if (pk ((((x5).toUInt32 >>> ((4 : Int32) &&& 31).toUInt32).toInt32) &&& (3 : Int32)) (x0 &&& (2147483647 : Int32)) (x1 &&& (2147483647 : Int32)) (x2 &&& (2147483647 : Int32)) x3) ∈ (addL (addL ([] : List Int32) (x0 &&& (2147483647 : Int32))) (x1 &&& (2147483647 : Int32))) then 1 else 0 : Int32) = (0 : Int32) then (0 : Int32) else if (if (pk ((((x5).toUInt32 >>> ((6 : Int32) &&& 31).toUInt32).toInt32) &&& (3 : Int32)) (x0 &&& (2147483647 : Int32)) (x1 &&& (2147483647 : Int32)) (x2 &&& (2147483647 : Int32)) x4) ∈ (addL (addL ([] : List Int32) (x0 &&& (2147483647 : Int32))) (x1 &&& (2147483647 : Int32))) then 1 else 0 : Int32) = (0 : Int32) then (0 : Int32) else if (if (pk ((((x5).toUInt32 >>> ((8 : Int32) &&& 31).toUInt32).toInt32) &&& (3 : Int32)) (x0 &&& (2147483647 : Int32)) (x1 &&& (2147483647 : Int32)) (x2 &&& (2147483647 : Int32)) (x3 ^^^ x4)) ∈ (addL (addL ([] : List Int32) (x0 &&& (2147483647 : Int32))) (x1 &&& (2147483647 : Int32))) then 1 else 0 : Int32) = (0 : Int32) then (0 : Int32) else (1 : Int32)) = (0 : Int32) := by rw [if_neg hc280, if_neg hc284, if_pos hc288]
            show Go p e below _ T289 (mkF m 265 #[.val (.int x0), .val (.int x1), .val (.int x2), .val (.int x3), .val (.int x4), .val (.int x5), .val (.int (x0 &&& (2147483647 : Int32))), .val (.int (x1 &&& (2147483647 : Int32))), .val (.int (x2 &&& (2147483647 : Int32))), .val (.int (2 : Int32)), .val (.int (3 : Int32)), .val (.int (pk ((((x5).toUInt32 >>> ((4 : Int32) &&& 31).toUInt32).toInt32) &&& (3 : Int32)) (x0 &&& (2147483647 : Int32)) (x1 &&& (2147483647 : Int32)) (x2 &&& (2147483647 : Int32)) x3)), .val (.int (pk ((((x5).toUInt32 >>> ((6 : Int32) &&& 31).toUInt32).toInt32) &&& (3 : Int32)) (x0 &&& (2147483647 : Int32)) (x1 &&& (2147483647 : Int32)) (x2 &&& (2147483647 : Int32)) x4)), .val (.int (pk ((((x5).toUInt32 >>> ((8 : Int32) &&& 31).toUInt32).toInt32) &&& (3 : Int32)) (x0 &&& (2147483647 : Int32)) (x1 &&& (2147483647 : Int32)) (x2 &&& (2147483647 : Int32)) (x3 ^^^ x4))), .val (.ref b213), .val (.ref b224), .val (.int (0 : Int32))] [(.int (if (if (pk ((((x5).toUInt32 >>> ((4 : Int32) &&& 31).toUInt32).toInt32) &&& (3 : Int32)) (x0 &&& (2147483647 : Int32)) (x1 &&& (2147483647 : Int32)) (x2 &&& (2147483647 : Int32)) x3) ∈ (addL (addL ([] : List Int32) (x0 &&& (2147483647 : Int32))) (x1 &&& (2147483647 : Int32))) then 1 else 0 : Int32) = (0 : Int32) then (0 : Int32) else if (if (pk ((((x5).toUInt32 >>> ((6 : Int32) &&& 31).toUInt32).toInt32) &&& (3 : Int32)) (x0 &&& (2147483647 : Int32)) (x1 &&& (2147483647 : Int32)) (x2 &&& (2147483647 : Int32)) x4) ∈ (addL (addL ([] : List Int32) (x0 &&& (2147483647 : Int32))) (x1 &&& (2147483647 : Int32))) then 1 else 0 : Int32) = (0 : Int32) then (0 : Int32) else if (if (pk ((((x5).toUInt32 >>> ((8 : Int32) &&& 31).toUInt32).toInt32) &&& (3 : Int32)) (x0 &&& (2147483647 : Int32)) (x1 &&& (2147483647 : Int32)) (x2 &&& (2147483647 : Int32)) (x3 ^^^ x4)) ∈ (addL (addL ([] : List Int32) (x0 &&& (2147483647 : Int32))) (x1 &&& (2147483647 : Int32))) then 1 else 0 : Int32) = (0 : Int32) then (0 : Int32) else (1 : Int32)))])
            refine Go.iload X289 hx (hb hby at_265) rfl rfl  ?_
            refine Go.icmpNo X289 hx (hb hby at_267) rfl (teq B290).2 ?_
            refine Go.iconst X289 hx (hb hby at_270) rfl (1 : Int32) rfl ?_
            refine Go.goto X289 hx (hb hby at_271) rfl 275 (by decide) (by decide) ?_
            exact Go.retZ X289 hx (z' := (1 : Int32)) hret hlk (hb hby at_275) rfl (by decide) ⟨by first | rfl | simp [hc280, hc284, hc288], M275⟩ (Nat.le_of_ble_eq_true rfl) (Nat.le_of_ble_eq_true rfl)
          · refine Go.ifNo X287 hx (hb hby at_248) rfl ((if0 _ _).trans (feq hc288).1) ?_
            refine Go.iconst X287 hx (hb hby at_251) rfl (1 : Int32) rfl ?_
            refine Go.goto X287 hx (hb hby at_252) rfl 256 (by decide) (by decide) ?_
            refine Go.istore X287 hx (hb hby at_256) rfl  #[.val (.int x0), .val (.int x1), .val (.int x2), .val (.int x3), .val (.int x4), .val (.int x5), .val (.int (x0 &&& (2147483647 : Int32))), .val (.int (x1 &&& (2147483647 : Int32))), .val (.int (x2 &&& (2147483647 : Int32))), .val (.int (2 : Int32)), .val (.int (3 : Int32)), .val (.int (pk ((((x5).toUInt32 >>> ((4 : Int32) &&& 31).toUInt32).toInt32) &&& (3 : Int32)) (x0 &&& (2147483647 : Int32)) (x1 &&& (2147483647 : Int32)) (x2 &&& (2147483647 : Int32)) x3)), .val (.int (pk ((((x5).toUInt32 >>> ((6 : Int32) &&& 31).toUInt32).toInt32) &&& (3 : Int32)) (x0 &&& (2147483647 : Int32)) (x1 &&& (2147483647 : Int32)) (x2 &&& (2147483647 : Int32)) x4)), .val (.int (pk ((((x5).toUInt32 >>> ((8 : Int32) &&& 31).toUInt32).toInt32) &&& (3 : Int32)) (x0 &&& (2147483647 : Int32)) (x1 &&& (2147483647 : Int32)) (x2 &&& (2147483647 : Int32)) (x3 ^^^ x4))), .val (.ref b213), .val (.ref b224), .val (.int (1 : Int32))] rfl ?_
            refine Go.aload X287 hx (hb hby at_258) rfl rfl rfl ?_
            refine Go.aload X287 hx (hb hby at_260) rfl rfl rfl ?_
            refine Go.pureV X287 hx hZ hown (wd 39 rfl) (wd 40 rfl) (notFace_of_selects (args := #[]) (mvT hZ (wd 42 rfl))) (wd 42 rfl) (wd 41 rfl) (wd 8 rfl) (wd 43 rfl) (by decide) [(.ref b213)] [] E278 (isAll3 l Z a0 hw b224 a_NONE b213 k213 (pk ((((x5).toUInt32 >>> ((4 : Int32) &&& 31).toUInt32).toInt32) &&& (3 : Int32)) (x0 &&& (2147483647 : Int32)) (x1 &&& (2147483647 : Int32)) (x2 &&& (2147483647 : Int32)) x3) (pk ((((x5).toUInt32 >>> ((6 : Int32) &&& 31).toUInt32).toInt32) &&& (3 : Int32)) (x0 &&& (2147483647 : Int32)) (x1 &&& (2147483647 : Int32)) (x2 &&& (2147483647 : Int32)) x4) (pk ((((x5).toUInt32 >>> ((8 : Int32) &&& 31).toUInt32).toInt32) &&& (3 : Int32)) (x0 &&& (2147483647 : Int32)) (x1 &&& (2147483647 : Int32)) (x2 &&& (2147483647 : Int32)) (x3 ^^^ x4)) (addL (addL ([] : List Int32) (x0 &&& (2147483647 : Int32))) (x1 &&& (2147483647 : Int32))) T274.heap E278 R274.2.1 (rep_read4 R274 (Nat.le_trans (Nat.le_trans (addL_len _ _) (Nat.succ_le_succ (Nat.le_trans (addL_len _ _) (Nat.succ_le_succ (Nat.le_refl 0))))) (Nat.le_of_ble_eq_true rfl))) V277) e287 rfl (by rw [hml]; rfl) pd_6 rfl (hb hby at_262) (Nat.le_of_ble_eq_true rfl) (Nat.le_of_ble_eq_true rfl) (Nat.le_of_ble_eq_true rfl) (Nat.le_of_ble_eq_true rfl) ?_
            intro T291 X291 e291
            have B292 : (if (if (pk ((((x5).toUInt32 >>> ((4 : Int32) &&& 31).toUInt32).toInt32) &&& (3 : Int32)) (x0 &&& (2147483647 : Int32)) (x1 &&& (2147483647 : Int32)) (x2 &&& (2147483647 : Int32)) x3) ∈ (addL (addL ([] : List Int32) (x0 &&& (2147483647 : Int32))) (x1 &&& (2147483647 : Int32))) then 1 else 0 : Int32) = (0 : Int32) then (0 : Int32) else if (if (pk ((((x5).toUInt32 >>> ((6 : Int32) &&& 31).toUInt32).toInt32) &&& (3 : Int32)) (x0 &&& (2147483647 : Int32)) (x1 &&& (2147483647 : Int32)) (x2 &&& (2147483647 : Int32)) x4) ∈ (addL (addL ([] : List Int32) (x0 &&& (2147483647 : Int32))) (x1 &&& (2147483647 : Int32))) then 1 else 0 : Int32) = (0 : Int32) then (0 : Int32) else if (if (pk ((((x5).toUInt32 >>> ((8 : Int32) &&& 31).toUInt32).toInt32) &&& (3 : Int32)) (x0 &&& (2147483647 : Int32)) (x1 &&& (2147483647 : Int32)) (x2 &&& (2147483647 : Int32)) (x3 ^^^ x4)) ∈ (addL (addL ([] : List Int32) (x0 &&& (2147483647 : Int32))) (x1 &&& (2147483647 : Int32))) then 1 else 0 : Int32) = (0 : Int32) then (0 : Int32) else (1 : Int32)) = (1 : Int32) := by rw [if_neg hc280, if_neg hc284, if_neg hc288]
            show Go p e below _ T291 (mkF m 265 #[.val (.int x0), .val (.int x1), .val (.int x2), .val (.int x3), .val (.int x4), .val (.int x5), .val (.int (x0 &&& (2147483647 : Int32))), .val (.int (x1 &&& (2147483647 : Int32))), .val (.int (x2 &&& (2147483647 : Int32))), .val (.int (2 : Int32)), .val (.int (3 : Int32)), .val (.int (pk ((((x5).toUInt32 >>> ((4 : Int32) &&& 31).toUInt32).toInt32) &&& (3 : Int32)) (x0 &&& (2147483647 : Int32)) (x1 &&& (2147483647 : Int32)) (x2 &&& (2147483647 : Int32)) x3)), .val (.int (pk ((((x5).toUInt32 >>> ((6 : Int32) &&& 31).toUInt32).toInt32) &&& (3 : Int32)) (x0 &&& (2147483647 : Int32)) (x1 &&& (2147483647 : Int32)) (x2 &&& (2147483647 : Int32)) x4)), .val (.int (pk ((((x5).toUInt32 >>> ((8 : Int32) &&& 31).toUInt32).toInt32) &&& (3 : Int32)) (x0 &&& (2147483647 : Int32)) (x1 &&& (2147483647 : Int32)) (x2 &&& (2147483647 : Int32)) (x3 ^^^ x4))), .val (.ref b213), .val (.ref b224), .val (.int (1 : Int32))] [(.int (if (if (pk ((((x5).toUInt32 >>> ((4 : Int32) &&& 31).toUInt32).toInt32) &&& (3 : Int32)) (x0 &&& (2147483647 : Int32)) (x1 &&& (2147483647 : Int32)) (x2 &&& (2147483647 : Int32)) x3) ∈ (addL (addL ([] : List Int32) (x0 &&& (2147483647 : Int32))) (x1 &&& (2147483647 : Int32))) then 1 else 0 : Int32) = (0 : Int32) then (0 : Int32) else if (if (pk ((((x5).toUInt32 >>> ((6 : Int32) &&& 31).toUInt32).toInt32) &&& (3 : Int32)) (x0 &&& (2147483647 : Int32)) (x1 &&& (2147483647 : Int32)) (x2 &&& (2147483647 : Int32)) x4) ∈ (addL (addL ([] : List Int32) (x0 &&& (2147483647 : Int32))) (x1 &&& (2147483647 : Int32))) then 1 else 0 : Int32) = (0 : Int32) then (0 : Int32) else if (if (pk ((((x5).toUInt32 >>> ((8 : Int32) &&& 31).toUInt32).toInt32) &&& (3 : Int32)) (x0 &&& (2147483647 : Int32)) (x1 &&& (2147483647 : Int32)) (x2 &&& (2147483647 : Int32)) (x3 ^^^ x4)) ∈ (addL (addL ([] : List Int32) (x0 &&& (2147483647 : Int32))) (x1 &&& (2147483647 : Int32))) then 1 else 0 : Int32) = (0 : Int32) then (0 : Int32) else (1 : Int32)))])
            refine Go.iload X291 hx (hb hby at_265) rfl rfl  ?_
            refine Go.icmpNo X291 hx (hb hby at_267) rfl (teq B292).2 ?_
            refine Go.iconst X291 hx (hb hby at_270) rfl (1 : Int32) rfl ?_
            refine Go.goto X291 hx (hb hby at_271) rfl 275 (by decide) (by decide) ?_
            exact Go.retZ X291 hx (z' := (1 : Int32)) hret hlk (hb hby at_275) rfl (by decide) ⟨by first | rfl | simp [hc280, hc284, hc288], M275⟩ (Nat.le_of_ble_eq_true rfl) (Nat.le_of_ble_eq_true rfl)
    · rw [hk]
      refine Go.iload X230 hx (hb hby at_143) rfl rfl  ?_
      refine Go.iconst X230 hx (hb hby at_145) rfl (1 : Int32) rfl ?_
      refine Go.icmpNo X230 hx (hb hby at_146) rfl (flt (by decide : ¬ ((3 : Int32) < (1 : Int32)))).1 ?_
      refine Go.aload X230 hx (hb hby at_149) rfl rfl rfl ?_
      refine Go.iload X230 hx (hb hby at_151) rfl rfl  ?_
      refine Go.callV X230 hx hZ hown (wd 21 rfl) (wd 22 rfl) (notFace_of_selects (args := #[]) (mvT hZ (wd 24 rfl))) (wd 24 rfl) (wd 23 rfl) (wd 8 rfl) (wd 25 rfl) (by decide) [(.int (x0 &&& (2147483647 : Int32)))] [] Y230 (isAddR l Z a0 hw b224 (x0 &&& (2147483647 : Int32)) a_NONE k_NONE ([] : List Int32) T230.heap O232 FF R235 (own_nn x0) (Nat.le_trans (Nat.le_refl 0) (Nat.le_of_ble_eq_true rfl))) rfl rfl (by rw [hml]; rfl) pd_3 rfl (hb hby at_153) (Nat.le_of_ble_eq_true rfl) (Nat.le_of_ble_eq_true rfl) (Nat.le_of_ble_eq_true rfl) (Nat.le_of_ble_eq_true rfl) ?_
      rintro vv293 T293 L293 X293 Q293
      obtain ⟨rfl, N293, B293, R293⟩ := Q293
      have M294 := Fr.app M231 N293
      have O295 := Blw.old B293 q224 O232
      have V296 := Arv.blw V233 B293 (Nat.lt_of_lt_of_le V221.lt (Nat.le_of_eq g224.symm))
      have E297 := R293.2.2.1
      refine Go.pop X293 hx (hb hby at_156) rfl rfl ?_
      refine Go.iload X293 hx (hb hby at_157) rfl rfl  ?_
      refine Go.iconst X293 hx (hb hby at_159) rfl (2 : Int32) rfl ?_
      refine Go.icmpNo X293 hx (hb hby at_160) rfl (flt (by decide : ¬ ((3 : Int32) < (2 : Int32)))).1 ?_
      refine Go.aload X293 hx (hb hby at_163) rfl rfl rfl ?_
      refine Go.iload X293 hx (hb hby at_165) rfl rfl  ?_
      refine Go.callV X293 hx hZ hown (wd 21 rfl) (wd 22 rfl) (notFace_of_selects (args := #[]) (mvT hZ (wd 24 rfl))) (wd 24 rfl) (wd 23 rfl) (wd 8 rfl) (wd 25 rfl) (by decide) [(.int (x1 &&& (2147483647 : Int32)))] [] E297 (isAddR l Z a0 hw b224 (x1 &&& (2147483647 : Int32)) a_NONE k_NONE (addL ([] : List Int32) (x0 &&& (2147483647 : Int32))) T293.heap O295 FF R293 (own_nn x1) (Nat.le_trans (Nat.le_trans (addL_len _ _) (Nat.succ_le_succ (Nat.le_refl 0))) (Nat.le_of_ble_eq_true rfl))) rfl rfl (by rw [hml]; rfl) pd_3 rfl (hb hby at_167) (Nat.le_of_ble_eq_true rfl) (Nat.le_of_ble_eq_true rfl) (Nat.le_of_ble_eq_true rfl) (Nat.le_of_ble_eq_true rfl) ?_
      rintro vv298 T298 L298 X298 Q298
      obtain ⟨rfl, N298, B298, R298⟩ := Q298
      have M299 := Fr.app M294 N298
      have O300 := Blw.old B298 q224 O295
      have V301 := Arv.blw V296 B298 (Nat.lt_of_lt_of_le V221.lt (Nat.le_of_eq g224.symm))
      have E302 := R298.2.2.1
      refine Go.pop X298 hx (hb hby at_170) rfl rfl ?_
      refine Go.iload X298 hx (hb hby at_171) rfl rfl  ?_
      refine Go.iconst X298 hx (hb hby at_173) rfl (3 : Int32) rfl ?_
      refine Go.icmpNo X298 hx (hb hby at_174) rfl (flt (by decide : ¬ ((3 : Int32) < (3 : Int32)))).1 ?_
      refine Go.aload X298 hx (hb hby at_177) rfl rfl rfl ?_
      refine Go.iload X298 hx (hb hby at_179) rfl rfl  ?_
      refine Go.callV X298 hx hZ hown (wd 21 rfl) (wd 22 rfl) (notFace_of_selects (args := #[]) (mvT hZ (wd 24 rfl))) (wd 24 rfl) (wd 23 rfl) (wd 8 rfl) (wd 25 rfl) (by decide) [(.int (x2 &&& (2147483647 : Int32)))] [] E302 (isAddR l Z a0 hw b224 (x2 &&& (2147483647 : Int32)) a_NONE k_NONE (addL (addL ([] : List Int32) (x0 &&& (2147483647 : Int32))) (x1 &&& (2147483647 : Int32))) T298.heap O300 FF R298 (own_nn x2) (Nat.le_trans (Nat.le_trans (addL_len _ _) (Nat.succ_le_succ (Nat.le_trans (addL_len _ _) (Nat.succ_le_succ (Nat.le_refl 0))))) (Nat.le_of_ble_eq_true rfl))) rfl rfl (by rw [hml]; rfl) pd_3 rfl (hb hby at_181) (Nat.le_of_ble_eq_true rfl) (Nat.le_of_ble_eq_true rfl) (Nat.le_of_ble_eq_true rfl) (Nat.le_of_ble_eq_true rfl) ?_
      rintro vv303 T303 L303 X303 Q303
      obtain ⟨rfl, N303, B303, R303⟩ := Q303
      have M304 := Fr.app M299 N303
      have O305 := Blw.old B303 q224 O300
      have V306 := Arv.blw V301 B303 (Nat.lt_of_lt_of_le V221.lt (Nat.le_of_eq g224.symm))
      have E307 := R303.2.2.1
      refine Go.pop X303 hx (hb hby at_184) rfl rfl ?_
      show Go p e below _ T303 (mkF m 185 #[.val (.int x0), .val (.int x1), .val (.int x2), .val (.int x3), .val (.int x4), .val (.int x5), .val (.int (x0 &&& (2147483647 : Int32))), .val (.int (x1 &&& (2147483647 : Int32))), .val (.int (x2 &&& (2147483647 : Int32))), .val (.int (3 : Int32)), .val (.int (3 : Int32)), .val (.int (pk ((((x5).toUInt32 >>> ((4 : Int32) &&& 31).toUInt32).toInt32) &&& (3 : Int32)) (x0 &&& (2147483647 : Int32)) (x1 &&& (2147483647 : Int32)) (x2 &&& (2147483647 : Int32)) x3)), .val (.int (pk ((((x5).toUInt32 >>> ((6 : Int32) &&& 31).toUInt32).toInt32) &&& (3 : Int32)) (x0 &&& (2147483647 : Int32)) (x1 &&& (2147483647 : Int32)) (x2 &&& (2147483647 : Int32)) x4)), .val (.int (pk ((((x5).toUInt32 >>> ((8 : Int32) &&& 31).toUInt32).toInt32) &&& (3 : Int32)) (x0 &&& (2147483647 : Int32)) (x1 &&& (2147483647 : Int32)) (x2 &&& (2147483647 : Int32)) (x3 ^^^ x4))), .val (.ref b213), .val (.ref b224), .unset] [])
      refine Go.iload X303 hx (hb hby at_185) rfl rfl  ?_
      refine Go.iconst X303 hx (hb hby at_187) rfl (1 : Int32) rfl ?_
      refine Go.icmpNo X303 hx (hb hby at_188) rfl (flt (by decide : ¬ ((3 : Int32) < (1 : Int32)))).1 ?_
      refine Go.iload X303 hx (hb hby at_191) rfl rfl  ?_
      refine Go.iload X303 hx (hb hby at_193) rfl rfl  ?_
      refine Go.iload X303 hx (hb hby at_195) rfl rfl  ?_
      refine Go.iload X303 hx (hb hby at_197) rfl rfl  ?_
      refine Go.iload X303 hx (hb hby at_199) rfl rfl  ?_
      refine Go.pureS X303 hx hZ hown (wd 44 rfl) (wd 45 rfl) (wd 3 rfl) (wd 46 rfl) (by decide) [(.int (pk ((((x5).toUInt32 >>> ((4 : Int32) &&& 31).toUInt32).toInt32) &&& (3 : Int32)) (x0 &&& (2147483647 : Int32)) (x1 &&& (2147483647 : Int32)) (x2 &&& (2147483647 : Int32)) x3)), (.int (3 : Int32)), (.int (x0 &&& (2147483647 : Int32))), (.int (x1 &&& (2147483647 : Int32))), (.int (x2 &&& (2147483647 : Int32)))] [] (lwIn3 l Z a0 hw (pk ((((x5).toUInt32 >>> ((4 : Int32) &&& 31).toUInt32).toInt32) &&& (3 : Int32)) (x0 &&& (2147483647 : Int32)) (x1 &&& (2147483647 : Int32)) (x2 &&& (2147483647 : Int32)) x3) (x0 &&& (2147483647 : Int32)) (x1 &&& (2147483647 : Int32)) (x2 &&& (2147483647 : Int32)) T303.heap) rfl rfl (by rw [hml]; rfl) pd_7 rfl (hb hby at_201) (Nat.le_of_ble_eq_true rfl) (Nat.le_of_ble_eq_true rfl) (Nat.le_of_ble_eq_true rfl) (Nat.le_of_ble_eq_true rfl) ?_
      intro T308 X308 e308
      by_cases hc309 : (if (pk ((((x5).toUInt32 >>> ((4 : Int32) &&& 31).toUInt32).toInt32) &&& (3 : Int32)) (x0 &&& (2147483647 : Int32)) (x1 &&& (2147483647 : Int32)) (x2 &&& (2147483647 : Int32)) x3) ∈ (addL (addL (addL ([] : List Int32) (x0 &&& (2147483647 : Int32))) (x1 &&& (2147483647 : Int32))) (x2 &&& (2147483647 : Int32))) then 1 else 0 : Int32) = (0 : Int32)
      · refine Go.ifYes X308 hx (hb hby at_204) rfl 255 ((if0 _ _).trans (teq hc309).1) (by decide) (by decide) ?_
        refine Go.iconst X308 hx (hb hby at_255) rfl (0 : Int32) rfl ?_
        refine Go.istore X308 hx (hb hby at_256) rfl  #[.val (.int x0), .val (.int x1), .val (.int x2), .val (.int x3), .val (.int x4), .val (.int x5), .val (.int (x0 &&& (2147483647 : Int32))), .val (.int (x1 &&& (2147483647 : Int32))), .val (.int (x2 &&& (2147483647 : Int32))), .val (.int (3 : Int32)), .val (.int (3 : Int32)), .val (.int (pk ((((x5).toUInt32 >>> ((4 : Int32) &&& 31).toUInt32).toInt32) &&& (3 : Int32)) (x0 &&& (2147483647 : Int32)) (x1 &&& (2147483647 : Int32)) (x2 &&& (2147483647 : Int32)) x3)), .val (.int (pk ((((x5).toUInt32 >>> ((6 : Int32) &&& 31).toUInt32).toInt32) &&& (3 : Int32)) (x0 &&& (2147483647 : Int32)) (x1 &&& (2147483647 : Int32)) (x2 &&& (2147483647 : Int32)) x4)), .val (.int (pk ((((x5).toUInt32 >>> ((8 : Int32) &&& 31).toUInt32).toInt32) &&& (3 : Int32)) (x0 &&& (2147483647 : Int32)) (x1 &&& (2147483647 : Int32)) (x2 &&& (2147483647 : Int32)) (x3 ^^^ x4))), .val (.ref b213), .val (.ref b224), .val (.int (0 : Int32))] rfl ?_
        refine Go.aload X308 hx (hb hby at_258) rfl rfl rfl ?_
        refine Go.aload X308 hx (hb hby at_260) rfl rfl rfl ?_
        refine Go.pureV X308 hx hZ hown (wd 39 rfl) (wd 40 rfl) (notFace_of_selects (args := #[]) (mvT hZ (wd 42 rfl))) (wd 42 rfl) (wd 41 rfl) (wd 8 rfl) (wd 43 rfl) (by decide) [(.ref b213)] [] E307 (isAll3 l Z a0 hw b224 a_NONE b213 k213 (pk ((((x5).toUInt32 >>> ((4 : Int32) &&& 31).toUInt32).toInt32) &&& (3 : Int32)) (x0 &&& (2147483647 : Int32)) (x1 &&& (2147483647 : Int32)) (x2 &&& (2147483647 : Int32)) x3) (pk ((((x5).toUInt32 >>> ((6 : Int32) &&& 31).toUInt32).toInt32) &&& (3 : Int32)) (x0 &&& (2147483647 : Int32)) (x1 &&& (2147483647 : Int32)) (x2 &&& (2147483647 : Int32)) x4) (pk ((((x5).toUInt32 >>> ((8 : Int32) &&& 31).toUInt32).toInt32) &&& (3 : Int32)) (x0 &&& (2147483647 : Int32)) (x1 &&& (2147483647 : Int32)) (x2 &&& (2147483647 : Int32)) (x3 ^^^ x4)) (addL (addL (addL ([] : List Int32) (x0 &&& (2147483647 : Int32))) (x1 &&& (2147483647 : Int32))) (x2 &&& (2147483647 : Int32))) T303.heap E307 R303.2.1 (rep_read4 R303 (Nat.le_trans (Nat.le_trans (addL_len _ _) (Nat.succ_le_succ (Nat.le_trans (addL_len _ _) (Nat.succ_le_succ (Nat.le_trans (addL_len _ _) (Nat.succ_le_succ (Nat.le_refl 0))))))) (Nat.le_of_ble_eq_true rfl))) V306) e308 rfl (by rw [hml]; rfl) pd_6 rfl (hb hby at_262) (Nat.le_of_ble_eq_true rfl) (Nat.le_of_ble_eq_true rfl) (Nat.le_of_ble_eq_true rfl) (Nat.le_of_ble_eq_true rfl) ?_
        intro T310 X310 e310
        have B311 : (if (if (pk ((((x5).toUInt32 >>> ((4 : Int32) &&& 31).toUInt32).toInt32) &&& (3 : Int32)) (x0 &&& (2147483647 : Int32)) (x1 &&& (2147483647 : Int32)) (x2 &&& (2147483647 : Int32)) x3) ∈ (addL (addL (addL ([] : List Int32) (x0 &&& (2147483647 : Int32))) (x1 &&& (2147483647 : Int32))) (x2 &&& (2147483647 : Int32))) then 1 else 0 : Int32) = (0 : Int32) then (0 : Int32) else if (if (pk ((((x5).toUInt32 >>> ((6 : Int32) &&& 31).toUInt32).toInt32) &&& (3 : Int32)) (x0 &&& (2147483647 : Int32)) (x1 &&& (2147483647 : Int32)) (x2 &&& (2147483647 : Int32)) x4) ∈ (addL (addL (addL ([] : List Int32) (x0 &&& (2147483647 : Int32))) (x1 &&& (2147483647 : Int32))) (x2 &&& (2147483647 : Int32))) then 1 else 0 : Int32) = (0 : Int32) then (0 : Int32) else if (if (pk ((((x5).toUInt32 >>> ((8 : Int32) &&& 31).toUInt32).toInt32) &&& (3 : Int32)) (x0 &&& (2147483647 : Int32)) (x1 &&& (2147483647 : Int32)) (x2 &&& (2147483647 : Int32)) (x3 ^^^ x4)) ∈ (addL (addL (addL ([] : List Int32) (x0 &&& (2147483647 : Int32))) (x1 &&& (2147483647 : Int32))) (x2 &&& (2147483647 : Int32))) then 1 else 0 : Int32) = (0 : Int32) then (0 : Int32) else (1 : Int32)) = (0 : Int32) := by rw [if_pos hc309]
        show Go p e below _ T310 (mkF m 265 #[.val (.int x0), .val (.int x1), .val (.int x2), .val (.int x3), .val (.int x4), .val (.int x5), .val (.int (x0 &&& (2147483647 : Int32))), .val (.int (x1 &&& (2147483647 : Int32))), .val (.int (x2 &&& (2147483647 : Int32))), .val (.int (3 : Int32)), .val (.int (3 : Int32)), .val (.int (pk ((((x5).toUInt32 >>> ((4 : Int32) &&& 31).toUInt32).toInt32) &&& (3 : Int32)) (x0 &&& (2147483647 : Int32)) (x1 &&& (2147483647 : Int32)) (x2 &&& (2147483647 : Int32)) x3)), .val (.int (pk ((((x5).toUInt32 >>> ((6 : Int32) &&& 31).toUInt32).toInt32) &&& (3 : Int32)) (x0 &&& (2147483647 : Int32)) (x1 &&& (2147483647 : Int32)) (x2 &&& (2147483647 : Int32)) x4)), .val (.int (pk ((((x5).toUInt32 >>> ((8 : Int32) &&& 31).toUInt32).toInt32) &&& (3 : Int32)) (x0 &&& (2147483647 : Int32)) (x1 &&& (2147483647 : Int32)) (x2 &&& (2147483647 : Int32)) (x3 ^^^ x4))), .val (.ref b213), .val (.ref b224), .val (.int (0 : Int32))] [(.int (if (if (pk ((((x5).toUInt32 >>> ((4 : Int32) &&& 31).toUInt32).toInt32) &&& (3 : Int32)) (x0 &&& (2147483647 : Int32)) (x1 &&& (2147483647 : Int32)) (x2 &&& (2147483647 : Int32)) x3) ∈ (addL (addL (addL ([] : List Int32) (x0 &&& (2147483647 : Int32))) (x1 &&& (2147483647 : Int32))) (x2 &&& (2147483647 : Int32))) then 1 else 0 : Int32) = (0 : Int32) then (0 : Int32) else if (if (pk ((((x5).toUInt32 >>> ((6 : Int32) &&& 31).toUInt32).toInt32) &&& (3 : Int32)) (x0 &&& (2147483647 : Int32)) (x1 &&& (2147483647 : Int32)) (x2 &&& (2147483647 : Int32)) x4) ∈ (addL (addL (addL ([] : List Int32) (x0 &&& (2147483647 : Int32))) (x1 &&& (2147483647 : Int32))) (x2 &&& (2147483647 : Int32))) then 1 else 0 : Int32) = (0 : Int32) then (0 : Int32) else if (if (pk ((((x5).toUInt32 >>> ((8 : Int32) &&& 31).toUInt32).toInt32) &&& (3 : Int32)) (x0 &&& (2147483647 : Int32)) (x1 &&& (2147483647 : Int32)) (x2 &&& (2147483647 : Int32)) (x3 ^^^ x4)) ∈ (addL (addL (addL ([] : List Int32) (x0 &&& (2147483647 : Int32))) (x1 &&& (2147483647 : Int32))) (x2 &&& (2147483647 : Int32))) then 1 else 0 : Int32) = (0 : Int32) then (0 : Int32) else (1 : Int32)))])
        refine Go.iload X310 hx (hb hby at_265) rfl rfl  ?_
        refine Go.icmpNo X310 hx (hb hby at_267) rfl (teq B311).2 ?_
        refine Go.iconst X310 hx (hb hby at_270) rfl (1 : Int32) rfl ?_
        refine Go.goto X310 hx (hb hby at_271) rfl 275 (by decide) (by decide) ?_
        exact Go.retZ X310 hx (z' := (1 : Int32)) hret hlk (hb hby at_275) rfl (by decide) ⟨by first | rfl | simp [hc309], M304⟩ (Nat.le_of_ble_eq_true rfl) (Nat.le_of_ble_eq_true rfl)
      · refine Go.ifNo X308 hx (hb hby at_204) rfl ((if0 _ _).trans (feq hc309).1) ?_
        refine Go.iload X308 hx (hb hby at_207) rfl rfl  ?_
        refine Go.iconst X308 hx (hb hby at_209) rfl (2 : Int32) rfl ?_
        refine Go.icmpNo X308 hx (hb hby at_210) rfl (flt (by decide : ¬ ((3 : Int32) < (2 : Int32)))).1 ?_
        refine Go.iload X308 hx (hb hby at_213) rfl rfl  ?_
        refine Go.iload X308 hx (hb hby at_215) rfl rfl  ?_
        refine Go.iload X308 hx (hb hby at_217) rfl rfl  ?_
        refine Go.iload X308 hx (hb hby at_219) rfl rfl  ?_
        refine Go.iload X308 hx (hb hby at_221) rfl rfl  ?_
        refine Go.pureS X308 hx hZ hown (wd 44 rfl) (wd 45 rfl) (wd 3 rfl) (wd 46 rfl) (by decide) [(.int (pk ((((x5).toUInt32 >>> ((6 : Int32) &&& 31).toUInt32).toInt32) &&& (3 : Int32)) (x0 &&& (2147483647 : Int32)) (x1 &&& (2147483647 : Int32)) (x2 &&& (2147483647 : Int32)) x4)), (.int (3 : Int32)), (.int (x0 &&& (2147483647 : Int32))), (.int (x1 &&& (2147483647 : Int32))), (.int (x2 &&& (2147483647 : Int32)))] [] (lwIn3 l Z a0 hw (pk ((((x5).toUInt32 >>> ((6 : Int32) &&& 31).toUInt32).toInt32) &&& (3 : Int32)) (x0 &&& (2147483647 : Int32)) (x1 &&& (2147483647 : Int32)) (x2 &&& (2147483647 : Int32)) x4) (x0 &&& (2147483647 : Int32)) (x1 &&& (2147483647 : Int32)) (x2 &&& (2147483647 : Int32)) T303.heap) e308 rfl (by rw [hml]; rfl) pd_7 rfl (hb hby at_223) (Nat.le_of_ble_eq_true rfl) (Nat.le_of_ble_eq_true rfl) (Nat.le_of_ble_eq_true rfl) (Nat.le_of_ble_eq_true rfl) ?_
        intro T312 X312 e312
        by_cases hc313 : (if (pk ((((x5).toUInt32 >>> ((6 : Int32) &&& 31).toUInt32).toInt32) &&& (3 : Int32)) (x0 &&& (2147483647 : Int32)) (x1 &&& (2147483647 : Int32)) (x2 &&& (2147483647 : Int32)) x4) ∈ (addL (addL (addL ([] : List Int32) (x0 &&& (2147483647 : Int32))) (x1 &&& (2147483647 : Int32))) (x2 &&& (2147483647 : Int32))) then 1 else 0 : Int32) = (0 : Int32)
        · refine Go.ifYes X312 hx (hb hby at_226) rfl 255 ((if0 _ _).trans (teq hc313).1) (by decide) (by decide) ?_
          refine Go.iconst X312 hx (hb hby at_255) rfl (0 : Int32) rfl ?_
          refine Go.istore X312 hx (hb hby at_256) rfl  #[.val (.int x0), .val (.int x1), .val (.int x2), .val (.int x3), .val (.int x4), .val (.int x5), .val (.int (x0 &&& (2147483647 : Int32))), .val (.int (x1 &&& (2147483647 : Int32))), .val (.int (x2 &&& (2147483647 : Int32))), .val (.int (3 : Int32)), .val (.int (3 : Int32)), .val (.int (pk ((((x5).toUInt32 >>> ((4 : Int32) &&& 31).toUInt32).toInt32) &&& (3 : Int32)) (x0 &&& (2147483647 : Int32)) (x1 &&& (2147483647 : Int32)) (x2 &&& (2147483647 : Int32)) x3)), .val (.int (pk ((((x5).toUInt32 >>> ((6 : Int32) &&& 31).toUInt32).toInt32) &&& (3 : Int32)) (x0 &&& (2147483647 : Int32)) (x1 &&& (2147483647 : Int32)) (x2 &&& (2147483647 : Int32)) x4)), .val (.int (pk ((((x5).toUInt32 >>> ((8 : Int32) &&& 31).toUInt32).toInt32) &&& (3 : Int32)) (x0 &&& (2147483647 : Int32)) (x1 &&& (2147483647 : Int32)) (x2 &&& (2147483647 : Int32)) (x3 ^^^ x4))), .val (.ref b213), .val (.ref b224), .val (.int (0 : Int32))] rfl ?_
          refine Go.aload X312 hx (hb hby at_258) rfl rfl rfl ?_
          refine Go.aload X312 hx (hb hby at_260) rfl rfl rfl ?_
          refine Go.pureV X312 hx hZ hown (wd 39 rfl) (wd 40 rfl) (notFace_of_selects (args := #[]) (mvT hZ (wd 42 rfl))) (wd 42 rfl) (wd 41 rfl) (wd 8 rfl) (wd 43 rfl) (by decide) [(.ref b213)] [] E307 (isAll3 l Z a0 hw b224 a_NONE b213 k213 (pk ((((x5).toUInt32 >>> ((4 : Int32) &&& 31).toUInt32).toInt32) &&& (3 : Int32)) (x0 &&& (2147483647 : Int32)) (x1 &&& (2147483647 : Int32)) (x2 &&& (2147483647 : Int32)) x3) (pk ((((x5).toUInt32 >>> ((6 : Int32) &&& 31).toUInt32).toInt32) &&& (3 : Int32)) (x0 &&& (2147483647 : Int32)) (x1 &&& (2147483647 : Int32)) (x2 &&& (2147483647 : Int32)) x4) (pk ((((x5).toUInt32 >>> ((8 : Int32) &&& 31).toUInt32).toInt32) &&& (3 : Int32)) (x0 &&& (2147483647 : Int32)) (x1 &&& (2147483647 : Int32)) (x2 &&& (2147483647 : Int32)) (x3 ^^^ x4)) (addL (addL (addL ([] : List Int32) (x0 &&& (2147483647 : Int32))) (x1 &&& (2147483647 : Int32))) (x2 &&& (2147483647 : Int32))) T303.heap E307 R303.2.1 (rep_read4 R303 (Nat.le_trans (Nat.le_trans (addL_len _ _) (Nat.succ_le_succ (Nat.le_trans (addL_len _ _) (Nat.succ_le_succ (Nat.le_trans (addL_len _ _) (Nat.succ_le_succ (Nat.le_refl 0))))))) (Nat.le_of_ble_eq_true rfl))) V306) e312 rfl (by rw [hml]; rfl) pd_6 rfl (hb hby at_262) (Nat.le_of_ble_eq_true rfl) (Nat.le_of_ble_eq_true rfl) (Nat.le_of_ble_eq_true rfl) (Nat.le_of_ble_eq_true rfl) ?_
          intro T314 X314 e314
          have B315 : (if (if (pk ((((x5).toUInt32 >>> ((4 : Int32) &&& 31).toUInt32).toInt32) &&& (3 : Int32)) (x0 &&& (2147483647 : Int32)) (x1 &&& (2147483647 : Int32)) (x2 &&& (2147483647 : Int32)) x3) ∈ (addL (addL (addL ([] : List Int32) (x0 &&& (2147483647 : Int32))) (x1 &&& (2147483647 : Int32))) (x2 &&& (2147483647 : Int32))) then 1 else 0 : Int32) = (0 : Int32) then (0 : Int32) else if (if (pk ((((x5).toUInt32 >>> ((6 : Int32) &&& 31).toUInt32).toInt32) &&& (3 : Int32)) (x0 &&& (2147483647 : Int32)) (x1 &&& (2147483647 : Int32)) (x2 &&& (2147483647 : Int32)) x4) ∈ (addL (addL (addL ([] : List Int32) (x0 &&& (2147483647 : Int32))) (x1 &&& (2147483647 : Int32))) (x2 &&& (2147483647 : Int32))) then 1 else 0 : Int32) = (0 : Int32) then (0 : Int32) else if (if (pk ((((x5).toUInt32 >>> ((8 : Int32) &&& 31).toUInt32).toInt32) &&& (3 : Int32)) (x0 &&& (2147483647 : Int32)) (x1 &&& (2147483647 : Int32)) (x2 &&& (2147483647 : Int32)) (x3 ^^^ x4)) ∈ (addL (addL (addL ([] : List Int32) (x0 &&& (2147483647 : Int32))) (x1 &&& (2147483647 : Int32))) (x2 &&& (2147483647 : Int32))) then 1 else 0 : Int32) = (0 : Int32) then (0 : Int32) else (1 : Int32)) = (0 : Int32) := by rw [if_neg hc309, if_pos hc313]
          show Go p e below _ T314 (mkF m 265 #[.val (.int x0), .val (.int x1), .val (.int x2), .val (.int x3), .val (.int x4), .val (.int x5), .val (.int (x0 &&& (2147483647 : Int32))), .val (.int (x1 &&& (2147483647 : Int32))), .val (.int (x2 &&& (2147483647 : Int32))), .val (.int (3 : Int32)), .val (.int (3 : Int32)), .val (.int (pk ((((x5).toUInt32 >>> ((4 : Int32) &&& 31).toUInt32).toInt32) &&& (3 : Int32)) (x0 &&& (2147483647 : Int32)) (x1 &&& (2147483647 : Int32)) (x2 &&& (2147483647 : Int32)) x3)), .val (.int (pk ((((x5).toUInt32 >>> ((6 : Int32) &&& 31).toUInt32).toInt32) &&& (3 : Int32)) (x0 &&& (2147483647 : Int32)) (x1 &&& (2147483647 : Int32)) (x2 &&& (2147483647 : Int32)) x4)), .val (.int (pk ((((x5).toUInt32 >>> ((8 : Int32) &&& 31).toUInt32).toInt32) &&& (3 : Int32)) (x0 &&& (2147483647 : Int32)) (x1 &&& (2147483647 : Int32)) (x2 &&& (2147483647 : Int32)) (x3 ^^^ x4))), .val (.ref b213), .val (.ref b224), .val (.int (0 : Int32))] [(.int (if (if (pk ((((x5).toUInt32 >>> ((4 : Int32) &&& 31).toUInt32).toInt32) &&& (3 : Int32)) (x0 &&& (2147483647 : Int32)) (x1 &&& (2147483647 : Int32)) (x2 &&& (2147483647 : Int32)) x3) ∈ (addL (addL (addL ([] : List Int32) (x0 &&& (2147483647 : Int32))) (x1 &&& (2147483647 : Int32))) (x2 &&& (2147483647 : Int32))) then 1 else 0 : Int32) = (0 : Int32) then (0 : Int32) else if (if (pk ((((x5).toUInt32 >>> ((6 : Int32) &&& 31).toUInt32).toInt32) &&& (3 : Int32)) (x0 &&& (2147483647 : Int32)) (x1 &&& (2147483647 : Int32)) (x2 &&& (2147483647 : Int32)) x4) ∈ (addL (addL (addL ([] : List Int32) (x0 &&& (2147483647 : Int32))) (x1 &&& (2147483647 : Int32))) (x2 &&& (2147483647 : Int32))) then 1 else 0 : Int32) = (0 : Int32) then (0 : Int32) else if (if (pk ((((x5).toUInt32 >>> ((8 : Int32) &&& 31).toUInt32).toInt32) &&& (3 : Int32)) (x0 &&& (2147483647 : Int32)) (x1 &&& (2147483647 : Int32)) (x2 &&& (2147483647 : Int32)) (x3 ^^^ x4)) ∈ (addL (addL (addL ([] : List Int32) (x0 &&& (2147483647 : Int32))) (x1 &&& (2147483647 : Int32))) (x2 &&& (2147483647 : Int32))) then 1 else 0 : Int32) = (0 : Int32) then (0 : Int32) else (1 : Int32)))])
          refine Go.iload X314 hx (hb hby at_265) rfl rfl  ?_
          refine Go.icmpNo X314 hx (hb hby at_267) rfl (teq B315).2 ?_
          refine Go.iconst X314 hx (hb hby at_270) rfl (1 : Int32) rfl ?_
          refine Go.goto X314 hx (hb hby at_271) rfl 275 (by decide) (by decide) ?_
          exact Go.retZ X314 hx (z' := (1 : Int32)) hret hlk (hb hby at_275) rfl (by decide) ⟨by first | rfl | simp [hc309, hc313], M304⟩ (Nat.le_of_ble_eq_true rfl) (Nat.le_of_ble_eq_true rfl)
        · refine Go.ifNo X312 hx (hb hby at_226) rfl ((if0 _ _).trans (feq hc313).1) ?_
          refine Go.iload X312 hx (hb hby at_229) rfl rfl  ?_
          refine Go.iconst X312 hx (hb hby at_231) rfl (3 : Int32) rfl ?_
          refine Go.icmpNo X312 hx (hb hby at_232) rfl (flt (by decide : ¬ ((3 : Int32) < (3 : Int32)))).1 ?_
          refine Go.iload X312 hx (hb hby at_235) rfl rfl  ?_
          refine Go.iload X312 hx (hb hby at_237) rfl rfl  ?_
          refine Go.iload X312 hx (hb hby at_239) rfl rfl  ?_
          refine Go.iload X312 hx (hb hby at_241) rfl rfl  ?_
          refine Go.iload X312 hx (hb hby at_243) rfl rfl  ?_
          refine Go.pureS X312 hx hZ hown (wd 44 rfl) (wd 45 rfl) (wd 3 rfl) (wd 46 rfl) (by decide) [(.int (pk ((((x5).toUInt32 >>> ((8 : Int32) &&& 31).toUInt32).toInt32) &&& (3 : Int32)) (x0 &&& (2147483647 : Int32)) (x1 &&& (2147483647 : Int32)) (x2 &&& (2147483647 : Int32)) (x3 ^^^ x4))), (.int (3 : Int32)), (.int (x0 &&& (2147483647 : Int32))), (.int (x1 &&& (2147483647 : Int32))), (.int (x2 &&& (2147483647 : Int32)))] [] (lwIn3 l Z a0 hw (pk ((((x5).toUInt32 >>> ((8 : Int32) &&& 31).toUInt32).toInt32) &&& (3 : Int32)) (x0 &&& (2147483647 : Int32)) (x1 &&& (2147483647 : Int32)) (x2 &&& (2147483647 : Int32)) (x3 ^^^ x4)) (x0 &&& (2147483647 : Int32)) (x1 &&& (2147483647 : Int32)) (x2 &&& (2147483647 : Int32)) T303.heap) e312 rfl (by rw [hml]; rfl) pd_7 rfl (hb hby at_245) (Nat.le_of_ble_eq_true rfl) (Nat.le_of_ble_eq_true rfl) (Nat.le_of_ble_eq_true rfl) (Nat.le_of_ble_eq_true rfl) ?_
          intro T316 X316 e316
          by_cases hc317 : (if (pk ((((x5).toUInt32 >>> ((8 : Int32) &&& 31).toUInt32).toInt32) &&& (3 : Int32)) (x0 &&& (2147483647 : Int32)) (x1 &&& (2147483647 : Int32)) (x2 &&& (2147483647 : Int32)) (x3 ^^^ x4)) ∈ (addL (addL (addL ([] : List Int32) (x0 &&& (2147483647 : Int32))) (x1 &&& (2147483647 : Int32))) (x2 &&& (2147483647 : Int32))) then 1 else 0 : Int32) = (0 : Int32)
          · refine Go.ifYes X316 hx (hb hby at_248) rfl 255 ((if0 _ _).trans (teq hc317).1) (by decide) (by decide) ?_
            refine Go.iconst X316 hx (hb hby at_255) rfl (0 : Int32) rfl ?_
            refine Go.istore X316 hx (hb hby at_256) rfl  #[.val (.int x0), .val (.int x1), .val (.int x2), .val (.int x3), .val (.int x4), .val (.int x5), .val (.int (x0 &&& (2147483647 : Int32))), .val (.int (x1 &&& (2147483647 : Int32))), .val (.int (x2 &&& (2147483647 : Int32))), .val (.int (3 : Int32)), .val (.int (3 : Int32)), .val (.int (pk ((((x5).toUInt32 >>> ((4 : Int32) &&& 31).toUInt32).toInt32) &&& (3 : Int32)) (x0 &&& (2147483647 : Int32)) (x1 &&& (2147483647 : Int32)) (x2 &&& (2147483647 : Int32)) x3)), .val (.int (pk ((((x5).toUInt32 >>> ((6 : Int32) &&& 31).toUInt32).toInt32) &&& (3 : Int32)) (x0 &&& (2147483647 : Int32)) (x1 &&& (2147483647 : Int32)) (x2 &&& (2147483647 : Int32)) x4)), .val (.int (pk ((((x5).toUInt32 >>> ((8 : Int32) &&& 31).toUInt32).toInt32) &&& (3 : Int32)) (x0 &&& (2147483647 : Int32)) (x1 &&& (2147483647 : Int32)) (x2 &&& (2147483647 : Int32)) (x3 ^^^ x4))), .val (.ref b213), .val (.ref b224), .val (.int (0 : Int32))] rfl ?_
            refine Go.aload X316 hx (hb hby at_258) rfl rfl rfl ?_
            refine Go.aload X316 hx (hb hby at_260) rfl rfl rfl ?_
            refine Go.pureV X316 hx hZ hown (wd 39 rfl) (wd 40 rfl) (notFace_of_selects (args := #[]) (mvT hZ (wd 42 rfl))) (wd 42 rfl) (wd 41 rfl) (wd 8 rfl) (wd 43 rfl) (by decide) [(.ref b213)] [] E307 (isAll3 l Z a0 hw b224 a_NONE b213 k213 (pk ((((x5).toUInt32 >>> ((4 : Int32) &&& 31).toUInt32).toInt32) &&& (3 : Int32)) (x0 &&& (2147483647 : Int32)) (x1 &&& (2147483647 : Int32)) (x2 &&& (2147483647 : Int32)) x3) (pk ((((x5).toUInt32 >>> ((6 : Int32) &&& 31).toUInt32).toInt32) &&& (3 : Int32)) (x0 &&& (2147483647 : Int32)) (x1 &&& (2147483647 : Int32)) (x2 &&& (2147483647 : Int32)) x4) (pk ((((x5).toUInt32 >>> ((8 : Int32) &&& 31).toUInt32).toInt32) &&& (3 : Int32)) (x0 &&& (2147483647 : Int32)) (x1 &&& (2147483647 : Int32)) (x2 &&& (2147483647 : Int32)) (x3 ^^^ x4)) (addL (addL (addL ([] : List Int32) (x0 &&& (2147483647 : Int32))) (x1 &&& (2147483647 : Int32))) (x2 &&& (2147483647 : Int32))) T303.heap E307 R303.2.1 (rep_read4 R303 (Nat.le_trans (Nat.le_trans (addL_len _ _) (Nat.succ_le_succ (Nat.le_trans (addL_len _ _) (Nat.succ_le_succ (Nat.le_trans (addL_len _ _) (Nat.succ_le_succ (Nat.le_refl 0))))))) (Nat.le_of_ble_eq_true rfl))) V306) e316 rfl (by rw [hml]; rfl) pd_6 rfl (hb hby at_262) (Nat.le_of_ble_eq_true rfl) (Nat.le_of_ble_eq_true rfl) (Nat.le_of_ble_eq_true rfl) (Nat.le_of_ble_eq_true rfl) ?_
            intro T318 X318 e318
            have B319 : (if (if (pk ((((x5).toUInt32 >>> ((4 : Int32) &&& 31).toUInt32).toInt32) &&& (3 : Int32)) (x0 &&& (2147483647 : Int32)) (x1 &&& (2147483647 : Int32)) (x2 &&& (2147483647 : Int32)) x3) ∈ (addL (addL (addL ([] : List Int32) (x0 &&& (2147483647 : Int32))) (x1 &&& (2147483647 : Int32))) (x2 &&& (2147483647 : Int32))) then 1 else 0 : Int32) = (0 : Int32) then (0 : Int32) else if (if (pk ((((x5).toUInt32 >>> ((6 : Int32) &&& 31).toUInt32).toInt32) &&& (3 : Int32)) (x0 &&& (2147483647 : Int32)) (x1 &&& (2147483647 : Int32)) (x2 &&& (2147483647 : Int32)) x4) ∈ (addL (addL (addL ([] : List Int32) (x0 &&& (2147483647 : Int32))) (x1 &&& (2147483647 : Int32))) (x2 &&& (2147483647 : Int32))) then 1 else 0 : Int32) = (0 : Int32) then (0 : Int32) else if (if (pk ((((x5).toUInt32 >>> ((8 : Int32) &&& 31).toUInt32).toInt32) &&& (3 : Int32)) (x0 &&& (2147483647 : Int32)) (x1 &&& (2147483647 : Int32)) (x2 &&& (2147483647 : Int32)) (x3 ^^^ x4)) ∈ (addL (addL (addL ([] : List Int32) (x0 &&& (2147483647 : Int32))) (x1 &&& (2147483647 : Int32))) (x2 &&& (2147483647 : Int32))) then 1 else 0 : Int32) = (0 : Int32) then (0 : Int32) else (1 : Int32)) = (0 : Int32) := by rw [if_neg hc309, if_neg hc313, if_pos hc317]
            show Go p e below _ T318 (mkF m 265 #[.val (.int x0), .val (.int x1), .val (.int x2), .val (.int x3), .val (.int x4), .val (.int x5), .val (.int (x0 &&& (2147483647 : Int32))), .val (.int (x1 &&& (2147483647 : Int32))), .val (.int (x2 &&& (2147483647 : Int32))), .val (.int (3 : Int32)), .val (.int (3 : Int32)), .val (.int (pk ((((x5).toUInt32 >>> ((4 : Int32) &&& 31).toUInt32).toInt32) &&& (3 : Int32)) (x0 &&& (2147483647 : Int32)) (x1 &&& (2147483647 : Int32)) (x2 &&& (2147483647 : Int32)) x3)), .val (.int (pk ((((x5).toUInt32 >>> ((6 : Int32) &&& 31).toUInt32).toInt32) &&& (3 : Int32)) (x0 &&& (2147483647 : Int32)) (x1 &&& (2147483647 : Int32)) (x2 &&& (2147483647 : Int32)) x4)), .val (.int (pk ((((x5).toUInt32 >>> ((8 : Int32) &&& 31).toUInt32).toInt32) &&& (3 : Int32)) (x0 &&& (2147483647 : Int32)) (x1 &&& (2147483647 : Int32)) (x2 &&& (2147483647 : Int32)) (x3 ^^^ x4))), .val (.ref b213), .val (.ref b224), .val (.int (0 : Int32))] [(.int (if (if (pk ((((x5).toUInt32 >>> ((4 : Int32) &&& 31).toUInt32).toInt32) &&& (3 : Int32)) (x0 &&& (2147483647 : Int32)) (x1 &&& (2147483647 : Int32)) (x2 &&& (2147483647 : Int32)) x3) ∈ (addL (addL (addL ([] : List Int32) (x0 &&& (2147483647 : Int32))) (x1 &&& (2147483647 : Int32))) (x2 &&& (2147483647 : Int32))) then 1 else 0 : Int32) = (0 : Int32) then (0 : Int32) else if (if (pk ((((x5).toUInt32 >>> ((6 : Int32) &&& 31).toUInt32).toInt32) &&& (3 : Int32)) (x0 &&& (2147483647 : Int32)) (x1 &&& (2147483647 : Int32)) (x2 &&& (2147483647 : Int32)) x4) ∈ (addL (addL (addL ([] : List Int32) (x0 &&& (2147483647 : Int32))) (x1 &&& (2147483647 : Int32))) (x2 &&& (2147483647 : Int32))) then 1 else 0 : Int32) = (0 : Int32) then (0 : Int32) else if (if (pk ((((x5).toUInt32 >>> ((8 : Int32) &&& 31).toUInt32).toInt32) &&& (3 : Int32)) (x0 &&& (2147483647 : Int32)) (x1 &&& (2147483647 : Int32)) (x2 &&& (2147483647 : Int32)) (x3 ^^^ x4)) ∈ (addL (addL (addL ([] : List Int32) (x0 &&& (2147483647 : Int32))) (x1 &&& (2147483647 : Int32))) (x2 &&& (2147483647 : Int32))) then 1 else 0 : Int32) = (0 : Int32) then (0 : Int32) else (1 : Int32)))])
            refine Go.iload X318 hx (hb hby at_265) rfl rfl  ?_
            refine Go.icmpNo X318 hx (hb hby at_267) rfl (teq B319).2 ?_
            refine Go.iconst X318 hx (hb hby at_270) rfl (1 : Int32) rfl ?_
            refine Go.goto X318 hx (hb hby at_271) rfl 275 (by decide) (by decide) ?_
            exact Go.retZ X318 hx (z' := (1 : Int32)) hret hlk (hb hby at_275) rfl (by decide) ⟨by first | rfl | simp [hc309, hc313, hc317], M304⟩ (Nat.le_of_ble_eq_true rfl) (Nat.le_of_ble_eq_true rfl)
          · refine Go.ifNo X316 hx (hb hby at_248) rfl ((if0 _ _).trans (feq hc317).1) ?_
            refine Go.iconst X316 hx (hb hby at_251) rfl (1 : Int32) rfl ?_
            refine Go.goto X316 hx (hb hby at_252) rfl 256 (by decide) (by decide) ?_
            refine Go.istore X316 hx (hb hby at_256) rfl  #[.val (.int x0), .val (.int x1), .val (.int x2), .val (.int x3), .val (.int x4), .val (.int x5), .val (.int (x0 &&& (2147483647 : Int32))), .val (.int (x1 &&& (2147483647 : Int32))), .val (.int (x2 &&& (2147483647 : Int32))), .val (.int (3 : Int32)), .val (.int (3 : Int32)), .val (.int (pk ((((x5).toUInt32 >>> ((4 : Int32) &&& 31).toUInt32).toInt32) &&& (3 : Int32)) (x0 &&& (2147483647 : Int32)) (x1 &&& (2147483647 : Int32)) (x2 &&& (2147483647 : Int32)) x3)), .val (.int (pk ((((x5).toUInt32 >>> ((6 : Int32) &&& 31).toUInt32).toInt32) &&& (3 : Int32)) (x0 &&& (2147483647 : Int32)) (x1 &&& (2147483647 : Int32)) (x2 &&& (2147483647 : Int32)) x4)), .val (.int (pk ((((x5).toUInt32 >>> ((8 : Int32) &&& 31).toUInt32).toInt32) &&& (3 : Int32)) (x0 &&& (2147483647 : Int32)) (x1 &&& (2147483647 : Int32)) (x2 &&& (2147483647 : Int32)) (x3 ^^^ x4))), .val (.ref b213), .val (.ref b224), .val (.int (1 : Int32))] rfl ?_
            refine Go.aload X316 hx (hb hby at_258) rfl rfl rfl ?_
            refine Go.aload X316 hx (hb hby at_260) rfl rfl rfl ?_
            refine Go.pureV X316 hx hZ hown (wd 39 rfl) (wd 40 rfl) (notFace_of_selects (args := #[]) (mvT hZ (wd 42 rfl))) (wd 42 rfl) (wd 41 rfl) (wd 8 rfl) (wd 43 rfl) (by decide) [(.ref b213)] [] E307 (isAll3 l Z a0 hw b224 a_NONE b213 k213 (pk ((((x5).toUInt32 >>> ((4 : Int32) &&& 31).toUInt32).toInt32) &&& (3 : Int32)) (x0 &&& (2147483647 : Int32)) (x1 &&& (2147483647 : Int32)) (x2 &&& (2147483647 : Int32)) x3) (pk ((((x5).toUInt32 >>> ((6 : Int32) &&& 31).toUInt32).toInt32) &&& (3 : Int32)) (x0 &&& (2147483647 : Int32)) (x1 &&& (2147483647 : Int32)) (x2 &&& (2147483647 : Int32)) x4) (pk ((((x5).toUInt32 >>> ((8 : Int32) &&& 31).toUInt32).toInt32) &&& (3 : Int32)) (x0 &&& (2147483647 : Int32)) (x1 &&& (2147483647 : Int32)) (x2 &&& (2147483647 : Int32)) (x3 ^^^ x4)) (addL (addL (addL ([] : List Int32) (x0 &&& (2147483647 : Int32))) (x1 &&& (2147483647 : Int32))) (x2 &&& (2147483647 : Int32))) T303.heap E307 R303.2.1 (rep_read4 R303 (Nat.le_trans (Nat.le_trans (addL_len _ _) (Nat.succ_le_succ (Nat.le_trans (addL_len _ _) (Nat.succ_le_succ (Nat.le_trans (addL_len _ _) (Nat.succ_le_succ (Nat.le_refl 0))))))) (Nat.le_of_ble_eq_true rfl))) V306) e316 rfl (by rw [hml]; rfl) pd_6 rfl (hb hby at_262) (Nat.le_of_ble_eq_true rfl) (Nat.le_of_ble_eq_true rfl) (Nat.le_of_ble_eq_true rfl) (Nat.le_of_ble_eq_true rfl) ?_
            intro T320 X320 e320
            have B321 : (if (if (pk ((((x5).toUInt32 >>> ((4 : Int32) &&& 31).toUInt32).toInt32) &&& (3 : Int32)) (x0 &&& (2147483647 : Int32)) (x1 &&& (2147483647 : Int32)) (x2 &&& (2147483647 : Int32)) x3) ∈ (addL (addL (addL ([] : List Int32) (x0 &&& (2147483647 : Int32))) (x1 &&& (2147483647 : Int32))) (x2 &&& (2147483647 : Int32))) then 1 else 0 : Int32) = (0 : Int32) then (0 : Int32) else if (if (pk ((((x5).toUInt32 >>> ((6 : Int32) &&& 31).toUInt32).toInt32) &&& (3 : Int32)) (x0 &&& (2147483647 : Int32)) (x1 &&& (2147483647 : Int32)) (x2 &&& (2147483647 : Int32)) x4) ∈ (addL (addL (addL ([] : List Int32) (x0 &&& (2147483647 : Int32))) (x1 &&& (2147483647 : Int32))) (x2 &&& (2147483647 : Int32))) then 1 else 0 : Int32) = (0 : Int32) then (0 : Int32) else if (if (pk ((((x5).toUInt32 >>> ((8 : Int32) &&& 31).toUInt32).toInt32) &&& (3 : Int32)) (x0 &&& (2147483647 : Int32)) (x1 &&& (2147483647 : Int32)) (x2 &&& (2147483647 : Int32)) (x3 ^^^ x4)) ∈ (addL (addL (addL ([] : List Int32) (x0 &&& (2147483647 : Int32))) (x1 &&& (2147483647 : Int32))) (x2 &&& (2147483647 : Int32))) then 1 else 0 : Int32) = (0 : Int32) then (0 : Int32) else (1 : Int32)) = (1 : Int32) := by rw [if_neg hc309, if_neg hc313, if_neg hc317]
            show Go p e below _ T320 (mkF m 265 #[.val (.int x0), .val (.int x1), .val (.int x2), .val (.int x3), .val (.int x4), .val (.int x5), .val (.int (x0 &&& (2147483647 : Int32))), .val (.int (x1 &&& (2147483647 : Int32))), .val (.int (x2 &&& (2147483647 : Int32))), .val (.int (3 : Int32)), .val (.int (3 : Int32)), .val (.int (pk ((((x5).toUInt32 >>> ((4 : Int32) &&& 31).toUInt32).toInt32) &&& (3 : Int32)) (x0 &&& (2147483647 : Int32)) (x1 &&& (2147483647 : Int32)) (x2 &&& (2147483647 : Int32)) x3)), .val (.int (pk ((((x5).toUInt32 >>> ((6 : Int32) &&& 31).toUInt32).toInt32) &&& (3 : Int32)) (x0 &&& (2147483647 : Int32)) (x1 &&& (2147483647 : Int32)) (x2 &&& (2147483647 : Int32)) x4)), .val (.int (pk ((((x5).toUInt32 >>> ((8 : Int32) &&& 31).toUInt32).toInt32) &&& (3 : Int32)) (x0 &&& (2147483647 : Int32)) (x1 &&& (2147483647 : Int32)) (x2 &&& (2147483647 : Int32)) (x3 ^^^ x4))), .val (.ref b213), .val (.ref b224), .val (.int (1 : Int32))] [(.int (if (if (pk ((((x5).toUInt32 >>> ((4 : Int32) &&& 31).toUInt32).toInt32) &&& (3 : Int32)) (x0 &&& (2147483647 : Int32)) (x1 &&& (2147483647 : Int32)) (x2 &&& (2147483647 : Int32)) x3) ∈ (addL (addL (addL ([] : List Int32) (x0 &&& (2147483647 : Int32))) (x1 &&& (2147483647 : Int32))) (x2 &&& (2147483647 : Int32))) then 1 else 0 : Int32) = (0 : Int32) then (0 : Int32) else if (if (pk ((((x5).toUInt32 >>> ((6 : Int32) &&& 31).toUInt32).toInt32) &&& (3 : Int32)) (x0 &&& (2147483647 : Int32)) (x1 &&& (2147483647 : Int32)) (x2 &&& (2147483647 : Int32)) x4) ∈ (addL (addL (addL ([] : List Int32) (x0 &&& (2147483647 : Int32))) (x1 &&& (2147483647 : Int32))) (x2 &&& (2147483647 : Int32))) then 1 else 0 : Int32) = (0 : Int32) then (0 : Int32) else if (if (pk ((((x5).toUInt32 >>> ((8 : Int32) &&& 31).toUInt32).toInt32) &&& (3 : Int32)) (x0 &&& (2147483647 : Int32)) (x1 &&& (2147483647 : Int32)) (x2 &&& (2147483647 : Int32)) (x3 ^^^ x4)) ∈ (addL (addL (addL ([] : List Int32) (x0 &&& (2147483647 : Int32))) (x1 &&& (2147483647 : Int32))) (x2 &&& (2147483647 : Int32))) then 1 else 0 : Int32) = (0 : Int32) then (0 : Int32) else (1 : Int32)))])
            refine Go.iload X320 hx (hb hby at_265) rfl rfl  ?_
            refine Go.icmpNo X320 hx (hb hby at_267) rfl (teq B321).2 ?_
            refine Go.iconst X320 hx (hb hby at_270) rfl (1 : Int32) rfl ?_
            refine Go.goto X320 hx (hb hby at_271) rfl 275 (by decide) (by decide) ?_
            exact Go.retZ X320 hx (z' := (1 : Int32)) hret hlk (hb hby at_275) rfl (by decide) ⟨by first | rfl | simp [hc309, hc313, hc317], M304⟩ (Nat.le_of_ble_eq_true rfl) (Nat.le_of_ble_eq_true rfl)
set_option maxRecDepth 65536 in
set_option maxHeartbeats 40000000 in
theorem comes_1 {Post : Tables → Env → Array Value → State → Outcome → State → Prop} (hpost : ∀ tb e args s v u, (limb_1_1.after args s (.returned v) u = true ∧ limb_1_2.after args s (.returned v) u = true ∧ True) → FrameEnd s (.returned v) u (Jvm.fieldLocs frame_1_writes args s ++ Jvm.arrayLocs frame_1_arrays args s ++ Jvm.staticLocs frame_1_statics s) 16 128 → Post tb e args s (.returned v) u) :
    ArmFor flags0 classFile x code maxLocals ret World_1 tables_1 room_1 Calls_1 rest_1 Pre_1 Post := by
  intro l hfl _ _ p e ha hc hk s m args below hf hA hF happ hP
  obtain ⟨hcalls, hrest, hpre⟩ := hP
  obtain ⟨-, -, -, hnamed, -, -, -, hat⟩ := (Spec.applies_iff hf).mp happ
  obtain ⟨hg, hn⟩ := and_e (Cond.before_iff.mp (show (Jvm.Cond.and given_1 narrow_1).before args s = true from hpre))
  obtain ⟨gi0, gi1⟩ := and_e hg
  obtain ⟨gi2, gi3⟩ := and_e gi1
  obtain ⟨gi4, gi5⟩ := and_e gi3
  obtain ⟨gi6, gi7⟩ := and_e gi5
  obtain ⟨gi8, gi9⟩ := and_e gi7
  obtain ⟨gi10, gi11⟩ := and_e gi9
  obtain ⟨w0, w1, w2, w3, w4, w5, rfl⟩ : ∃ w0 w1 w2 w3 w4 w5 : Value, args = #[w0, w1, w2, w3, w4, w5] := by
    have hs : args.size = 6 := by simpa [Cond.value, given_1] using gi0
    obtain ⟨L⟩ := args
    match L, hs with
    | [w0, w1, w2, w3, w4, w5], _ => exact ⟨w0, w1, w2, w3, w4, w5, rfl⟩
  have hw := fun d (hd : d ∈ tables_1) => atoms_spec (ws := Jvm.Cond.code x code maxLocals ret :: tables_1) hat d (List.mem_cons_of_mem _ hd)
  have wd : ∀ {d : Jvm.Cond} (i : Nat), tables_1[i]? = some d → d.before _ s = true := fun i q => hw _ (List.mem_of_getElem? q)
  have hfit : Fit s := fun {y c} hc i hi => by
    obtain ⟨ha, rfl⟩ := Array.getElem?_eq_some_iff.mp hc
    have q := List.all_eq_true.mp ((Array.all_eq_true_iff_forall_mem.mp hF) _ (Array.getElem_mem ha)) i (List.mem_range.mpr hi)
    simpa [Array.getElem?_eq_getElem hi] using q
  obtain ⟨i0, ei0⟩ := is_v gi2
  obtain rfl : w0 = (.int i0) := Option.some.inj ei0
  obtain ⟨i1, ei1⟩ := is_v gi4
  obtain rfl : w1 = (.int i1) := Option.some.inj ei1
  obtain ⟨i2, ei2⟩ := is_v gi6
  obtain rfl : w2 = (.int i2) := Option.some.inj ei2
  obtain ⟨i3, ei3⟩ := is_v gi8
  obtain rfl : w3 = (.int i3) := Option.some.inj ei3
  obtain ⟨i4, ei4⟩ := is_v gi10
  obtain rfl : w4 = (.int i4) := Option.some.inj ei4
  obtain ⟨i5, ei5⟩ := is_v gi11
  obtain rfl : w5 = (.int i5) := Option.some.inj ei5
  obtain ⟨g1, g2⟩ := and_e hn
  obtain ⟨a_NONE, ev_NONE⟩ := arr_v g1
  have S_NONE : Sta s s.heap "com/example/overrule/overrule/engine/IntSet" "NONE" "[I" (.ref a_NONE) := Sta.start ev_NONE (Or.inr ⟨(wd 8 rfl), (wd 16 rfl)⟩)
  obtain ⟨cl_NONE, Ar_NONE⟩ := Arr.start ev_NONE g1
  have L_NONE := own_eqv g2 (v := (.int (0 : Int32))) rfl
  have V_NONE : Arv s s.heap a_NONE cl_NONE.cls .int (0 : Int32) [] (.int (0 : Int32)) := Arv.start hfit Ar_NONE (own_len Ar_NONE ev_NONE L_NONE).1 (own_len Ar_NONE ev_NONE L_NONE).2 (by decide) rfl trivial
  obtain ⟨n, o, h1, h2, h3, _, L, rfl, ⟨rfl, N⟩, hq⟩ := rm0 l s _ hw i0 i1 i2 i3 i4 i5 a_NONE cl_NONE.cls ⟨S_NONE, V_NONE⟩ tables_1 p e ha hc hk s m _ below hf ((Spec.applies_iff_loose hf).mp happ).1 ⟨rfl, State.Warmed39.refl s, rfl⟩ trivial
  refine ⟨n, _, h1, h2, h3, hpost _ _ _ _ _ _ ⟨Cond.after_iff.mpr rfl, Cond.after_iff.mpr (eq_i res_at (Term.int_eval (1)) rfl), trivial⟩ ⟨hq.1, hq.2.1, (hq.2.2.sift fun y hy => Or.inr (N y hy)).mono (by decide) (by decide)⟩⟩
theorem main_1_1 : Claimed_1_1 := comes_1 fun _ _ _ _ _ _ h hF => ⟨h.1, hF⟩
theorem main_1_2 : Claimed_1_2 := comes_1 fun _ _ _ _ _ _ h hF => ⟨h.2.1, hF⟩
end Jvm.Pilot.@@N@@
namespace Jvm.Pilot.@@N@@
open Jvm Jvm.ClassFile Sem Op Lib Jvm.Free Jvm.Stand Jvm.Pilot.@@N@@.Jvm.D
/-! MADE BY PROGRAM (witnessworld.py) out of the Statement's table words and the real class files: 10 classes; the members and pool entries that the words name. The judged class is class 1, her method 3. -/
namespace start1
open Jvm.ClassFile
def u (s : String) : CpInfo := .utf8 (stringToUtf16 s)
/-- a pool by its gaps: so many unusable entries, then the entry; so many at the end -/
def gap : Nat → List CpInfo → List CpInfo
  | 0, r => r
  | n + 1, r => .unusable :: gap n r
def poolList (es : List (Nat × CpInfo)) (last : Nat) : List CpInfo := es.foldr (fun e r => gap e.1 (e.2 :: r)) (gap last [])
def pool (es : List (Nat × CpInfo)) (last : Nat) : Array CpInfo := ⟨poolList es last⟩
def fileOf (pool : Array CpInfo) (this : Nat) (attrs : Array Attribute := #[]) (ms : Array MethodInfo := #[]) (fl : Nat := 33) (sup : Nat := 0) (ifs : Array Nat := #[]) (fds : Array FieldInfo := #[]) : ClassFile where
  minorVersion := 0
  majorVersion := 65
  constantPool := pool
  accessFlags := fl
  thisClass := this
  superClass := sup
  interfaces := ifs
  fields := fds
  methods := ms
  attributes := attrs
def plain (name : String) (sup : Option ClassId) : Class where
  name := name
  kind := .ordinary
  loader := none
  accessFlags := 33
  super := sup
  interfaces := #[]
  cf := none
  fields := #[]
  methods := #[]
  instanceTypes := #[]
  staticTypes := #[]
  resolved := #[]
  callSites := []
  init := .initialized
  statics := none
  mirror := none

def pool0 : Array CpInfo := pool [(5, u "<init>"), (0, u "()V"), (1, .class_ 10), (1, u "java/lang/Object")] 113

def k0c0 : Code := { maxStack := 0, maxLocals := 1, code := object_method_1_code, exceptionTable := #[], attributes := #[] }
def k0m0 : Method := { name := "<init>", desc := "()V", sig := { parameters := [], returnType := none }, accessFlags := 1, code := some k0c0 }
/-- java/lang/Object -/
def k0 : Class := { plain "java/lang/Object" none with
  accessFlags := 33
  interfaces := #[]
  cf := some (fileOf pool0 8 #[] #[{ accessFlags := 1, nameIndex := 5, descriptorIndex := 6, attributes := #[] }] 33 0 #[] #[])
  fields := #[]
  methods := #[k0m0]
  instanceTypes := #[]
  staticTypes := #[]
  resolved := Array.replicate 124 none
  statics := none }

def pool1 : Array CpInfo := pool [(2, .class_ 4), (0, .nameAndType 5 6), (0, u "java/lang/Object"), (0, u "<init>"), (0, u "()V"), (0, .integer 2147483647), (0, .methodref 9 10), (0, .class_ 11), (0, .nameAndType 12 13), (0, u "com/example/overrule/overrule/engine/IntSetContainsAllPinLaw"), (0, u "pick"), (0, u "(IIIII)I"), (0, .class_ 15), (0, u "com/example/overrule/overrule/engine/IntSet"), (0, .methodref 14 3), (0, .methodref 14 18), (0, .nameAndType 19 20), (0, u "add"), (0, u "(I)Z"), (0, .methodref 9 22), (0, .nameAndType 23 24), (0, u "in"), (0, u "(IIIII)Z"), (0, .methodref 14 26), (0, .nameAndType 27 28), (0, u "containsAll"), (0, u "([I)Z"), (3, u "law"), (0, u "(IIIIII)Z")] 4

def k1m0 : Method := { name := "<init>", desc := "()V", sig := { parameters := [], returnType := none }, accessFlags := 2, code := none }
def k1c1 : Code := { maxStack := 2, maxLocals := 5, code := method_2_code, exceptionTable := #[], attributes := #[] }
def k1m1 : Method := { name := "pick", desc := "(IIIII)I", sig := { parameters := [.int, .int, .int, .int, .int], returnType := some .int }, accessFlags := 10, code := some k1c1 }
def k1c2 : Code := { maxStack := 2, maxLocals := 5, code := method_3_code, exceptionTable := #[], attributes := #[] }
def k1m2 : Method := { name := "in", desc := "(IIIII)Z", sig := { parameters := [.int, .int, .int, .int, .int], returnType := some .boolean }, accessFlags := 10, code := some k1c2 }
def k1c3 : Code := { maxStack := 6, maxLocals := 17, code := code, exceptionTable := #[], attributes := #[] }
def k1m3 : Method := { name := "law", desc := "(IIIIII)Z", sig := { parameters := [.int, .int, .int, .int, .int, .int], returnType := some .boolean }, accessFlags := 9, code := some k1c3 }
/-- com/example/overrule/overrule/engine/IntSetContainsAllPinLaw -/
def k1 : Class := { plain "com/example/overrule/overrule/engine/IntSetContainsAllPinLaw" (some 0) with
  accessFlags := 49
  interfaces := #[]
  cf := some (fileOf pool1 9 #[] #[{ accessFlags := 2, nameIndex := 5, descriptorIndex := 6, attributes := #[] }, { accessFlags := 10, nameIndex := 12, descriptorIndex := 13, attributes := #[] }, { accessFlags := 10, nameIndex := 23, descriptorIndex := 24, attributes := #[] }, { accessFlags := 9, nameIndex := 32, descriptorIndex := 33, attributes := #[] }] 49 2 #[] #[])
  fields := #[]
  methods := #[k1m0, k1m1, k1m2, k1m3]
  instanceTypes := #[]
  staticTypes := #[]
  resolved := Array.replicate 38 none
  statics := none }

def pool2 : Array CpInfo := pool [(1, .methodref 2 3), (0, .class_ 4), (0, .nameAndType 5 6), (0, u "java/lang/Object"), (0, u "<init>"), (0, u "()V"), (0, .fieldref 8 9), (0, .class_ 10), (0, .nameAndType 11 12), (0, u "com/example/overrule/overrule/engine/IntSet"), (0, u "NONE"), (0, u "[I"), (0, .fieldref 8 14), (0, .nameAndType 15 12), (0, u "elements"), (0, .fieldref 8 17), (0, .nameAndType 18 12), (0, u "slots"), (0, .methodref 8 20), (0, .nameAndType 21 22), (0, u "freeSlots"), (0, u "(I)[I"), (0, .methodref 8 24), (0, .nameAndType 25 26), (0, u "slot"), (0, u "(II)I"), (0, .fieldref 8 28), (0, .nameAndType 29 30), (0, u "size"), (0, u "I"), (1, .class_ 34), (1, u "java/util/Arrays"), (6, .methodref 8 42), (0, .nameAndType 43 44), (0, u "contains"), (0, u "(I)Z"), (0, .integer 2654435769), (0, .methodref 32 47), (0, .nameAndType 48 49), (0, u "fill"), (0, u "([II)V"), (0, u "FREE"), (4, u "add"), (1, u "containsAll"), (0, u "([I)Z")] 10

def k2c0 : Code := { maxStack := 2, maxLocals := 1, code := prog_46_method_1_code, exceptionTable := #[], attributes := #[] }
def k2m0 : Method := { name := "<init>", desc := "()V", sig := { parameters := [], returnType := none }, accessFlags := 0, code := some k2c0 }
def k2c1 : Code := { maxStack := 5, maxLocals := 4, code := prog_46_method_2_code, exceptionTable := #[], attributes := #[] }
def k2m1 : Method := { name := "add", desc := "(I)Z", sig := { parameters := [.int], returnType := some .boolean }, accessFlags := 0, code := some k2c1 }
def k2c2 : Code := { maxStack := 2, maxLocals := 4, code := prog_46_method_3_code, exceptionTable := #[], attributes := #[] }
def k2m2 : Method := { name := "contains", desc := "(I)Z", sig := { parameters := [.int], returnType := some .boolean }, accessFlags := 0, code := some k2c2 }
def k2c3 : Code := { maxStack := 2, maxLocals := 6, code := prog_46_method_4_code, exceptionTable := #[], attributes := #[] }
def k2m3 : Method := { name := "containsAll", desc := "([I)Z", sig := { parameters := [(.array .int)], returnType := some .boolean }, accessFlags := 0, code := some k2c3 }
def k2c4 : Code := { maxStack := 3, maxLocals := 3, code := prog_46_method_10_code, exceptionTable := #[], attributes := #[] }
def k2m4 : Method := { name := "slot", desc := "(II)I", sig := { parameters := [.int, .int], returnType := some .int }, accessFlags := 10, code := some k2c4 }
def k2c5 : Code := { maxStack := 2, maxLocals := 2, code := prog_46_method_11_code, exceptionTable := #[], attributes := #[] }
def k2m5 : Method := { name := "freeSlots", desc := "(I)[I", sig := { parameters := [.int], returnType := some (.array .int) }, accessFlags := 10, code := some k2c5 }
/-- com/example/overrule/overrule/engine/IntSet -/
def k2 : Class := { plain "com/example/overrule/overrule/engine/IntSet" (some 0) with
  accessFlags := 48
  interfaces := #[]
  cf := some (fileOf pool2 8 #[] #[{ accessFlags := 0, nameIndex := 5, descriptorIndex := 6, attributes := #[] }, { accessFlags := 0, nameIndex := 55, descriptorIndex := 44, attributes := #[] }, { accessFlags := 0, nameIndex := 43, descriptorIndex := 44, attributes := #[] }, { accessFlags := 0, nameIndex := 57, descriptorIndex := 58, attributes := #[] }, { accessFlags := 10, nameIndex := 25, descriptorIndex := 26, attributes := #[] }, { accessFlags := 10, nameIndex := 21, descriptorIndex := 22, attributes := #[] }] 48 2 #[] #[{ accessFlags := 26, nameIndex := 50, descriptorIndex := 30, attributes := #[] }, { accessFlags := 26, nameIndex := 11, descriptorIndex := 12, attributes := #[] }, { accessFlags := 2, nameIndex := 15, descriptorIndex := 12, attributes := #[] }, { accessFlags := 2, nameIndex := 29, descriptorIndex := 30, attributes := #[] }, { accessFlags := 2, nameIndex := 18, descriptorIndex := 12, attributes := #[] }])
  fields := #[{ name := "FREE", type := .int, accessFlags := 26, slot := 0, constantValue := 0 }, { name := "NONE", type := (.array .int), accessFlags := 26, slot := 1, constantValue := 0 }, { name := "elements", type := (.array .int), accessFlags := 2, slot := 0, constantValue := 0 }, { name := "size", type := .int, accessFlags := 2, slot := 1, constantValue := 0 }, { name := "slots", type := (.array .int), accessFlags := 2, slot := 2, constantValue := 0 }]
  methods := #[k2m0, k2m1, k2m2, k2m3, k2m4, k2m5]
  instanceTypes := #[(.array .int), .int, (.array .int)]
  staticTypes := #[.int, (.array .int)]
  resolved := Array.replicate 69 none
  statics := some 0 }

def pool3 : Array CpInfo := pool [(2, .class_ 4), (1, u "java/lang/Object"), (0, u "<init>"), (0, u "()V"), (7, .class_ 16), (1, u "java/util/Arrays"), (57, .class_ 76), (1, u "java/util/Arrays$NaturalOrder"), (36, .class_ 115), (1, u "java/util/Arrays$LegacyMergeSort"), (1, u "Z"), (257, .class_ 376), (0, u "java/util/Arrays$ArrayList"), (68, u "$assertionsDisabled"), (269, u "MIN_ARRAY_SORT_GRAN"), (0, u "I"), (2, u "INSERTIONSORT_THRESHOLD"), (120, u "fill"), (4, u "([II)V"), (129, .class_ 976), (0, u "java/util/Arrays$ArrayItr")] 52

def k3m0 : Method := { name := "<init>", desc := "()V", sig := { parameters := [], returnType := none }, accessFlags := 2, code := none }
def k3c1 : Code := { maxStack := 3, maxLocals := 4, code := jdk_65_method_103_code, exceptionTable := #[], attributes := #[] }
def k3m1 : Method := { name := "fill", desc := "([II)V", sig := { parameters := [(.array .int), .int], returnType := none }, accessFlags := 9, code := some k3c1 }
/-- java/util/Arrays -/
def k3 : Class := { plain "java/util/Arrays" (some 0) with
  accessFlags := 49
  interfaces := #[]
  cf := some (fileOf pool3 14 #[.nestMembers #[975, 375, 113, 74]] #[{ accessFlags := 2, nameIndex := 5, descriptorIndex := 6, attributes := #[] }, { accessFlags := 9, nameIndex := 840, descriptorIndex := 845, attributes := #[] }] 49 2 #[] #[{ accessFlags := 26, nameIndex := 715, descriptorIndex := 716, attributes := #[] }, { accessFlags := 26, nameIndex := 719, descriptorIndex := 716, attributes := #[] }, { accessFlags := 4120, nameIndex := 445, descriptorIndex := 117, attributes := #[] }])
  fields := #[{ name := "MIN_ARRAY_SORT_GRAN", type := .int, accessFlags := 26, slot := 0, constantValue := 0 }, { name := "INSERTIONSORT_THRESHOLD", type := .int, accessFlags := 26, slot := 1, constantValue := 0 }, { name := "$assertionsDisabled", type := .boolean, accessFlags := 4120, slot := 2, constantValue := 0 }]
  methods := #[k3m0, k3m1]
  instanceTypes := #[]
  staticTypes := #[.int, .int, .boolean]
  resolved := Array.replicate 1029 none
  statics := none }

def pool4 : Array CpInfo := pool [(1, u "java/lang/Cloneable"), (0, .class_ 1), (0, u "java/lang/Object"), (0, .class_ 3)] 3

/-- java/lang/Cloneable -/
def k4 : Class := { plain "java/lang/Cloneable" (some 0) with
  accessFlags := 1537
  interfaces := #[]
  cf := some (fileOf pool4 2 #[] #[] 1537 4 #[] #[])
  fields := #[]
  methods := #[]
  instanceTypes := #[]
  staticTypes := #[]
  resolved := Array.replicate 8 none
  statics := none }

def pool5 : Array CpInfo := pool [(1, u "java/io/Serializable"), (0, .class_ 1), (0, u "java/lang/Object"), (0, .class_ 3)] 3

/-- java/io/Serializable -/
def k5 : Class := { plain "java/io/Serializable" (some 0) with
  accessFlags := 1537
  interfaces := #[]
  cf := some (fileOf pool5 2 #[] #[] 1537 4 #[] #[])
  fields := #[]
  methods := #[]
  instanceTypes := #[]
  staticTypes := #[]
  resolved := Array.replicate 8 none
  statics := none }

/-- the primitive byte -/
def k6 : Class := { plain "byte" none with kind := .primitive 'B', accessFlags := 0x411 }
/-- [B -/
def k7 : Class := { plain "[B" (some 0) with kind := .array 6 .byte, interfaces := #[4, 5], accessFlags := 1041 }

/-- the primitive int -/
def k8 : Class := { plain "int" none with kind := .primitive 'I', accessFlags := 0x411 }
/-- [I -/
def k9 : Class := { plain "[I" (some 0) with kind := .array 8 .int, interfaces := #[4, 5], accessFlags := 1041 }

def heap : Heap := #[{ cls := 2, slots := #[.int 0, .ref 1], vm := .statics 2 },
  { cls := 9, slots := #[], vm := .none }]
def classes : Array Class := #[k0, k1, k2, k3, k4, k5, k6, k7, k8, k9]
def interned : List (Array UInt16 × Addr) := []
def slotsUsed : Nat := 2
def theMethod : MethodId := ⟨1, 3⟩
def args0 : Array Value := #[.int 5, .int 6, .int 7, .int 8, .int 9, .int 475]
def aboutOver (below : List Frame) : State where
  vm := { classes := classes, interned := interned.toArray }
  heap := heap
  slotsUsed := slotsUsed
  threads := #[{ frames := .invoking theMethod args0 :: below }]
def below0 : List Frame := [.native { method := ⟨0, 0⟩, args := #[] }]
def about1 : State := aboutOver below0
def p0 : Program := .bare "" "" ""
def e0 : Env := launch0.env 0 0 0
theorem w_frames : about1.frames = Frame.invoking theMethod args0 :: below0 := rfl
set_option maxRecDepth 65536 in
theorem w_args : argsFit about1.vm theMethod args0 = true := by decide +kernel
set_option maxRecDepth 65536 in
theorem w_heap : heapFits about1 = true := by decide +kernel
set_option maxRecDepth 65536 in
theorem w_runnable : about1.curStatus? = some .runnable := by decide +kernel
set_option maxRecDepth 65536 in
theorem w_alone : about1.alone = true := by decide +kernel
set_option maxRecDepth 65536 in
theorem w_named : about1.methodNamed? x = some theMethod := by decide +kernel
set_option maxRecDepth 65536 in
theorem w_hears : about1.hears theMethod below0 = true := by decide +kernel
set_option maxRecDepth 65536 in
theorem w_ripe : about1.ripe theMethod args0 below0 = true := by decide +kernel
theorem w_running : about1.status = .running := rfl
set_option maxRecDepth 65536 in
theorem w_room : about1.hasRoom e0.platform room_1 = true :=
  launch0.hasRoom_least _ room_1 (by decide +kernel) (by decide +kernel) (by decide +kernel) (by decide +kernel) (by decide +kernel) (by decide +kernel)
theorem allAtoms_all (ts : List Jvm.Cond) (a : Array Jvm.Value) (st : Jvm.State) : (allAtoms ts).before a st = ts.all (fun c => c.before a st) := by
  induction ts with
  | nil => rfl
  | cons c t ih =>
    show (Jvm.Cond.and c (allAtoms t)).before a st = _
    rw [Jvm.Cond.before_and, ih, List.all_cons]
def words1 : List Jvm.Cond := Jvm.Cond.code x code maxLocals ret :: tables_1
/-- a 'code' word, met by the world's own term for the bytes: nothing is compared byte by byte -/
theorem code_word {y : MethodName} {bytes : ByteArray} {mx : Nat} {rt : Option FieldType} {a : Array Value} {s : State} {m : MethodId} {meth : Method} {c : Code} (h1 : s.methodNamed? y = some m) (h2 : s.vm.method? m = some meth) (h3 : meth.code = some c) (h4 : c.code = bytes)
    (h5 : (c.maxLocals == mx && c.exceptionTable.isEmpty && decide (c.maxStack ≤ mostOperands) && decide (meth.sig.returnType = rt) && !meth.locks && decide (parseMethodDescriptor y.desc = some meth.sig)) = true) : (Jvm.Cond.code y bytes mx rt).before a s = true := by
  simp only [Bool.and_eq_true, beq_iff_eq, Bool.not_eq_true', decide_eq_true_eq] at h5
  obtain ⟨⟨⟨⟨⟨g1, g2⟩, g3⟩, g4⟩, g5⟩, g6⟩ := h5
  simp [Cond.before, Cond.holds, Cond.value, h1, h2, h3, h4, g1, g2, g3, g4, g5, g6]
def isCode : Jvm.Cond → Bool
  | .code _ _ _ _ => true
  | _ => false
theorem all_split {L : List Jvm.Cond} {P : Jvm.Cond → Bool} (h1 : L.all (fun c => isCode c || P c) = true) (h2 : ∀ c ∈ L.filter isCode, P c = true) : L.all P = true := by
  refine List.all_eq_true.mpr fun c hc => ?_
  have h := List.all_eq_true.mp h1 c hc
  rcases Bool.eq_false_or_eq_true (isCode c) with hi | hi
  · exact h2 c (List.mem_filter.mpr ⟨hc, hi⟩)
  · simpa [hi] using h
set_option maxRecDepth 65536 in
theorem w_c0 : (Jvm.Cond.code x code maxLocals ret).before args0 about1 = true := code_word (m := ⟨1, 3⟩) (meth := k1m3) (c := k1c3) (by decide +kernel) rfl rfl rfl (by decide +kernel)
set_option maxRecDepth 65536 in
theorem w_c1 : (Jvm.Cond.code ({ cls := "com/example/overrule/overrule/engine/IntSetContainsAllPinLaw", name := "pick", desc := "(IIIII)I" } : Jvm.MethodName) method_2_code (5 : Nat) (Option.some Jvm.ClassFile.FieldType.int)).before args0 about1 = true := code_word (m := ⟨1, 1⟩) (meth := k1m1) (c := k1c1) (by decide +kernel) rfl rfl rfl (by decide +kernel)
set_option maxRecDepth 65536 in
theorem w_c2 : (Jvm.Cond.code ({ cls := "com/example/overrule/overrule/engine/IntSet", name := "<init>", desc := "()V" } : Jvm.MethodName) prog_46_method_1_code (1 : Nat) (Option.none : Option Jvm.ClassFile.FieldType)).before args0 about1 = true := code_word (m := ⟨2, 0⟩) (meth := k2m0) (c := k2c0) (by decide +kernel) rfl rfl rfl (by decide +kernel)
set_option maxRecDepth 65536 in
theorem w_c3 : (Jvm.Cond.code ({ cls := "java/lang/Object", name := "<init>", desc := "()V" } : Jvm.MethodName) object_method_1_code (1 : Nat) (Option.none : Option Jvm.ClassFile.FieldType)).before args0 about1 = true := code_word (m := ⟨0, 0⟩) (meth := k0m0) (c := k0c0) (by decide +kernel) rfl rfl rfl (by decide +kernel)
set_option maxRecDepth 65536 in
theorem w_c4 : (Jvm.Cond.code ({ cls := "com/example/overrule/overrule/engine/IntSet", name := "add", desc := "(I)Z" } : Jvm.MethodName) prog_46_method_2_code (4 : Nat) (Option.some Jvm.ClassFile.FieldType.boolean)).before args0 about1 = true := code_word (m := ⟨2, 1⟩) (meth := k2m1) (c := k2c1) (by decide +kernel) rfl rfl rfl (by decide +kernel)
set_option maxRecDepth 65536 in
theorem w_c5 : (Jvm.Cond.code ({ cls := "com/example/overrule/overrule/engine/IntSet", name := "freeSlots", desc := "(I)[I" } : Jvm.MethodName) prog_46_method_11_code (2 : Nat) (Option.some (Jvm.ClassFile.FieldType.array Jvm.ClassFile.FieldType.int))).before args0 about1 = true := code_word (m := ⟨2, 5⟩) (meth := k2m5) (c := k2c5) (by decide +kernel) rfl rfl rfl (by decide +kernel)
set_option maxRecDepth 65536 in
theorem w_c6 : (Jvm.Cond.code ({ cls := "java/util/Arrays", name := "fill", desc := "([II)V" } : Jvm.MethodName) jdk_65_method_103_code (4 : Nat) (Option.none : Option Jvm.ClassFile.FieldType)).before args0 about1 = true := code_word (m := ⟨3, 1⟩) (meth := k3m1) (c := k3c1) (by decide +kernel) rfl rfl rfl (by decide +kernel)
set_option maxRecDepth 65536 in
theorem w_c7 : (Jvm.Cond.code ({ cls := "com/example/overrule/overrule/engine/IntSet", name := "slot", desc := "(II)I" } : Jvm.MethodName) prog_46_method_10_code (3 : Nat) (Option.some Jvm.ClassFile.FieldType.int)).before args0 about1 = true := code_word (m := ⟨2, 4⟩) (meth := k2m4) (c := k2c4) (by decide +kernel) rfl rfl rfl (by decide +kernel)
set_option maxRecDepth 65536 in
theorem w_c8 : (Jvm.Cond.code ({ cls := "com/example/overrule/overrule/engine/IntSet", name := "containsAll", desc := "([I)Z" } : Jvm.MethodName) prog_46_method_4_code (6 : Nat) (Option.some Jvm.ClassFile.FieldType.boolean)).before args0 about1 = true := code_word (m := ⟨2, 3⟩) (meth := k2m3) (c := k2c3) (by decide +kernel) rfl rfl rfl (by decide +kernel)
set_option maxRecDepth 65536 in
theorem w_c9 : (Jvm.Cond.code ({ cls := "com/example/overrule/overrule/engine/IntSetContainsAllPinLaw", name := "in", desc := "(IIIII)Z" } : Jvm.MethodName) method_3_code (5 : Nat) (Option.some Jvm.ClassFile.FieldType.boolean)).before args0 about1 = true := code_word (m := ⟨1, 2⟩) (meth := k1m2) (c := k1c2) (by decide +kernel) rfl rfl rfl (by decide +kernel)
set_option maxRecDepth 65536 in
theorem w_c10 : (Jvm.Cond.code ({ cls := "com/example/overrule/overrule/engine/IntSet", name := "contains", desc := "(I)Z" } : Jvm.MethodName) prog_46_method_3_code (4 : Nat) (Option.some Jvm.ClassFile.FieldType.boolean)).before args0 about1 = true := code_word (m := ⟨2, 2⟩) (meth := k2m2) (c := k2c2) (by decide +kernel) rfl rfl rfl (by decide +kernel)
def codes1 : List Jvm.Cond := [Jvm.Cond.code x code maxLocals ret, Jvm.Cond.code ({ cls := "com/example/overrule/overrule/engine/IntSetContainsAllPinLaw", name := "pick", desc := "(IIIII)I" } : Jvm.MethodName) method_2_code (5 : Nat) (Option.some Jvm.ClassFile.FieldType.int), Jvm.Cond.code ({ cls := "com/example/overrule/overrule/engine/IntSet", name := "<init>", desc := "()V" } : Jvm.MethodName) prog_46_method_1_code (1 : Nat) (Option.none : Option Jvm.ClassFile.FieldType), Jvm.Cond.code ({ cls := "java/lang/Object", name := "<init>", desc := "()V" } : Jvm.MethodName) object_method_1_code (1 : Nat) (Option.none : Option Jvm.ClassFile.FieldType), Jvm.Cond.code ({ cls := "com/example/overrule/overrule/engine/IntSet", name := "add", desc := "(I)Z" } : Jvm.MethodName) prog_46_method_2_code (4 : Nat) (Option.some Jvm.ClassFile.FieldType.boolean), Jvm.Cond.code ({ cls := "com/example/overrule/overrule/engine/IntSet", name := "freeSlots", desc := "(I)[I" } : Jvm.MethodName) prog_46_method_11_code (2 : Nat) (Option.some (Jvm.ClassFile.FieldType.array Jvm.ClassFile.FieldType.int)), Jvm.Cond.code ({ cls := "java/util/Arrays", name := "fill", desc := "([II)V" } : Jvm.MethodName) jdk_65_method_103_code (4 : Nat) (Option.none : Option Jvm.ClassFile.FieldType), Jvm.Cond.code ({ cls := "com/example/overrule/overrule/engine/IntSet", name := "slot", desc := "(II)I" } : Jvm.MethodName) prog_46_method_10_code (3 : Nat) (Option.some Jvm.ClassFile.FieldType.int), Jvm.Cond.code ({ cls := "com/example/overrule/overrule/engine/IntSet", name := "containsAll", desc := "([I)Z" } : Jvm.MethodName) prog_46_method_4_code (6 : Nat) (Option.some Jvm.ClassFile.FieldType.boolean), Jvm.Cond.code ({ cls := "com/example/overrule/overrule/engine/IntSetContainsAllPinLaw", name := "in", desc := "(IIIII)Z" } : Jvm.MethodName) method_3_code (5 : Nat) (Option.some Jvm.ClassFile.FieldType.boolean), Jvm.Cond.code ({ cls := "com/example/overrule/overrule/engine/IntSet", name := "contains", desc := "(I)Z" } : Jvm.MethodName) prog_46_method_3_code (4 : Nat) (Option.some Jvm.ClassFile.FieldType.boolean)]
set_option maxRecDepth 65536 in
theorem codes_eq : words1.filter isCode = codes1 := rfl
theorem w_codes : ∀ c ∈ words1.filter isCode, c.before args0 about1 = true := by
  rw [codes_eq]
  intro c hc
  simp only [codes1, List.mem_cons, List.not_mem_nil, or_false] at hc
  rcases hc with rfl | rfl | rfl | rfl | rfl | rfl | rfl | rfl | rfl | rfl | rfl
  · exact w_c0
  · exact w_c1
  · exact w_c2
  · exact w_c3
  · exact w_c4
  · exact w_c5
  · exact w_c6
  · exact w_c7
  · exact w_c8
  · exact w_c9
  · exact w_c10
set_option maxRecDepth 65536 in
theorem w_t1 : (words1.take 24).all (fun c => isCode c || c.before args0 about1) = true := by decide +kernel
set_option maxRecDepth 65536 in
theorem w_t2 : ((words1.drop 24).take 24).all (fun c => isCode c || c.before args0 about1) = true := by decide +kernel
set_option maxRecDepth 65536 in
theorem w_t3 : ((words1.drop 24).drop 24).all (fun c => isCode c || c.before args0 about1) = true := by decide +kernel
theorem w_tables : (allAtoms (Jvm.Cond.code x code maxLocals ret :: tables_1)).before args0 about1 = true := by
  rw [allAtoms_all]
  show words1.all (fun c => c.before args0 about1) = true
  refine all_split ?_ w_codes
  rw [← List.take_append_drop 24 words1, List.all_append, w_t1, ← List.take_append_drop 24 (words1.drop 24), List.all_append, w_t2, w_t3]
  rfl
set_option maxRecDepth 65536 in
theorem w_case : (Jvm.Cond.and given_1 narrow_1).before args0 about1 = true := by decide +kernel
theorem w_applies : (headSpec (Jvm.Cond.code x code maxLocals ret :: tables_1) room_1).applies x e0.platform about1 = true :=
  (Spec.applies_iff w_frames).mpr ⟨w_running, w_runnable, w_alone, w_named, w_hears, w_ripe, w_room, w_tables⟩
theorem atStart : AtStart classFile x code maxLocals ret World_1 tables_1 room_1 Calls_1 rest_1 Pre_1 launch0 p0 e0 about1 theMethod args0 below0 :=
  ⟨lists_1, trivial, launch0.admits_env _ _ _, launch0.least_env, fairChoices_fair.cas, fairChoices_fair.clock, w_frames, w_args, w_heap, w_applies, trivial, trivial, w_case⟩
end start1
theorem witness_1 : WitnessClaimed_1 := ⟨start1.p0, start1.e0, start1.about1, start1.theMethod, start1.args0, start1.below0, start1.atStart⟩
end Jvm.Pilot.@@N@@
