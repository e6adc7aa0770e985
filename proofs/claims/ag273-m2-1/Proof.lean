import JvmDerived
import JvmDerived.Pilot.@@N@@Statement
import JvmDerived.Pilot.@@N@@Code
set_option linter.unusedVariables false
set_option linter.unusedSimpArgs false
@@BLOCK:NumsL.lean.txt@@
namespace Jvm.Pilot.@@N@@
open Jvm Jvm.ClassFile Sem Op Lib Jvm.Free Jvm.Stand Jvm.LawKit Jvm.RoadKit Bundle Jvm.Pilot.@@N@@.Jvm.D
/-! OWN: the walks' own small calculus: 'Go' says that the run, standing in T with the top frame g, comes to an end that answers; every step carries a Go at the next place back to a Go at this one, so that a walk may fork and join. -/
section Own
variable {p : Program} {l : Launch} {e : Env} {R : Room} {s Z : State} {m : MethodId} {args a0 : Array Value} {below : List Frame} {meth : Method} {c : Code} {T : State} {locs : List Loc} {cells slots : Nat} {h : Heap} {P : Outcome → State → Prop}
/-- what a body must come to -/
def OwnEnd (Q : Option Value → Heap → List Loc → Prop) (s : State) (k n : Nat) (o : Outcome) (t : State) : Prop := ∃ v L, o = .returned v ∧ Q v t.heap L ∧ FrameEnd s o t L k n
def Go (p : Program) (e : Env) (below : List Frame) (P : Outcome → State → Prop) (T : State) (g : JFrame) : Prop := ∃ t o, Steps p.tables e below (T.setTop g) t ∧ t.status = .running ∧ Ended t below o ∧ P o t
theorem Go.of {T' : State} {g g' : JFrame} (k : ∀ t, Steps p.tables e below (T'.setTop g') t → Steps p.tables e below (T.setTop g) t) (K : Go p e below P T' g') : Go p e below P T g := by
  obtain ⟨t, o, h1, h2⟩ := K
  exact ⟨t, o, k t h1, h2⟩
theorem Go.joinI {g : JFrame} (X : Stand p l e R s m args below meth c T locs cells slots) (eT : T.heap = h) (v0 : Int32) (g1 : Int32 → JFrame) (K : (∀ (T' : State) (v : Int32), v = v0 → Stand p l e R s m args below meth c T' locs cells slots → T'.heap = h → Go p e below P T' (g1 v)) → Go p e below P T g)
    (J : ∀ T', Stand p l e R s m args below meth c T' locs cells slots → T'.heap = h → Go p e below P T' (g1 v0)) : Go p e below P T g := K fun T' v q X' e' => q ▸ J T' X' e'
theorem Go.joinJ {g : JFrame} (X : Stand p l e R s m args below meth c T locs cells slots) (eT : T.heap = h) (v0 : Int64) (g1 : Int64 → JFrame) (K : (∀ (T' : State) (v : Int64), v = v0 → Stand p l e R s m args below meth c T' locs cells slots → T'.heap = h → Go p e below P T' (g1 v)) → Go p e below P T g)
    (J : ∀ T', Stand p l e R s m args below meth c T' locs cells slots → T'.heap = h → Go p e below P T' (g1 v0)) : Go p e below P T g := K fun T' v q X' e' => q ▸ J T' X' e'
theorem Go.joinR {g : JFrame} (X : Stand p l e R s m args below meth c T locs cells slots) (eT : T.heap = h) (v0 : Addr) (g1 : Addr → JFrame) (K : (∀ (T' : State) (v : Addr), v = v0 → Stand p l e R s m args below meth c T' locs cells slots → T'.heap = h → Go p e below P T' (g1 v)) → Go p e below P T g)
    (J : ∀ T', Stand p l e R s m args below meth c T' locs cells slots → T'.heap = h → Go p e below P T' (g1 v0)) : Go p e below P T g := K fun T' v q X' e' => q ▸ J T' X' e'
theorem Go.cast {g g' : JFrame} (q : g = g') (K : Go p e below P T g') : Go p e below P T g := q ▸ K
theorem Go.leave (X : Stand p l e R s m args below meth c T locs cells slots) {g : JFrame} {v : Option Value} (hv : meth.sig.returnType = none → v = none) (hlk : meth.locks = false) {Q : Option Value → Heap → List Loc → Prop} {k n : Nat} (hc : cells ≤ k) (hs : slots ≤ n) (hQ : Q v T.heap locs)
    (st : ∀ fs, (∀ (f : JFrame) (acts : List Action), f.method = m → f.locked = none → f.entered = [] → (doReturn e (T.setTop f) acts v).1 = T.setFrames fs) → Steps p.tables e below (T.setTop g) (T.setFrames fs)) : Go p e below (OwnEnd Q s k n) T g := by
  obtain ⟨fs, hr, hrun, hended, hW, hsame⟩ := X.leave hv hlk
  exact ⟨_, _, st fs hr, hrun, hended, _, _, rfl, hQ, ⟨_, rfl⟩, hW, hsame.mono hc hs⟩
theorem Go.retZ (X : Stand p l e R s m args below meth c T locs cells slots) (hx : p.tables.exec = Jvm.exec) {pc pc0 : Nat} {Ls : Array Slot} {z z' : Int32} {rest : List Value} (hret : meth.sig.returnType = some .boolean) (hlk : meth.locks = false) (hd : decode c.code pc0 = .ok (.ireturn, 1)) (hpc : pc = pc0) {Q : Option Value → Heap → List Loc → Prop} {k n : Nat}
    (hz : z &&& 1 = z') (hQ : Q (some (.int z')) T.heap locs) (hc : cells ≤ k) (hs : slots ≤ n) : Go p e below (OwnEnd Q s k n) T (mkF m pc Ls (.int z :: rest)) := by
  subst hz hpc
  exact Go.leave X (v := some (.int (nar .boolean z))) (fun q => by rw [hret] at q; cases q) hlk hc hs hQ fun fs hr => retN X hx (t := .boolean) hret (by simp) hd hr
theorem Go.retW (X : Stand p l e R s m args below meth c T locs cells slots) (hx : p.tables.exec = Jvm.exec) {pc pc0 : Nat} {Ls : Array Slot} {w : Value} {t : FieldType} {i : Instr} {rest : List Value} (hret : meth.sig.returnType = some t) (hlk : meth.locks = false) (hn : narrow t w = w)
    (hi : (i = .ireturn ∧ (t = .int ∨ t = .boolean ∨ t = .byte ∨ t = .char ∨ t = .short) ∧ ∃ z, w = .int z) ∨ (i = .lreturn ∧ t = .long ∧ ∃ z, w = .long z) ∨ (i = .dreturn ∧ t = .double ∧ ∃ z, w = .double z) ∨ (i = .freturn ∧ t = .float ∧ ∃ z, w = .float z) ∨ (i = .areturn ∧ t.isReference = true ∧ w.isRef = true))
    (hd : decode c.code pc0 = .ok (i, 1)) (hpc : pc = pc0) {Q : Option Value → Heap → List Loc → Prop} {k n : Nat} (hQ : Q (some w) T.heap locs) (hc : cells ≤ k) (hs : slots ≤ n) : Go p e below (OwnEnd Q s k n) T (mkF m pc Ls (w :: rest)) := by
  subst hpc
  exact Go.leave X (v := some w) (fun q => by rw [hret] at q; cases q) hlk hc hs hQ fun fs hr => retOut X hx hret hn hi hd hr
theorem Go.retI (X : Stand p l e R s m args below meth c T locs cells slots) (hx : p.tables.exec = Jvm.exec) {pc pc0 : Nat} {Ls : Array Slot} {z : Int32} {rest : List Value} (hret : meth.sig.returnType = some .int) (hlk : meth.locks = false) (hd : decode c.code pc0 = .ok (.ireturn, 1)) (hpc : pc = pc0) {Q : Option Value → Heap → List Loc → Prop} {k n : Nat}
    (hQ : Q (some (.int z)) T.heap locs) (hc : cells ≤ k) (hs : slots ≤ n) : Go p e below (OwnEnd Q s k n) T (mkF m pc Ls (.int z :: rest)) := Go.retW X hx hret hlk rfl (Or.inl ⟨rfl, Or.inl rfl, _, rfl⟩) hd hpc hQ hc hs
theorem Go.retJ (X : Stand p l e R s m args below meth c T locs cells slots) (hx : p.tables.exec = Jvm.exec) {pc pc0 : Nat} {Ls : Array Slot} {z : Int64} {rest : List Value} (hret : meth.sig.returnType = some .long) (hlk : meth.locks = false) (hd : decode c.code pc0 = .ok (.lreturn, 1)) (hpc : pc = pc0) {Q : Option Value → Heap → List Loc → Prop} {k n : Nat}
    (hQ : Q (some (.long z)) T.heap locs) (hc : cells ≤ k) (hs : slots ≤ n) : Go p e below (OwnEnd Q s k n) T (mkF m pc Ls (.long z :: rest)) := Go.retW X hx hret hlk rfl (Or.inr (Or.inl ⟨rfl, rfl, _, rfl⟩)) hd hpc hQ hc hs
theorem Go.retA (X : Stand p l e R s m args below meth c T locs cells slots) (hx : p.tables.exec = Jvm.exec) {pc pc0 : Nat} {Ls : Array Slot} {w : Value} {t : FieldType} {rest : List Value} (hret : meth.sig.returnType = some t) (hlk : meth.locks = false) (ht : t.isReference = true) (hw : w.isRef = true) (hd : decode c.code pc0 = .ok (.areturn, 1)) (hpc : pc = pc0) {Q : Option Value → Heap → List Loc → Prop} {k n : Nat}
    (hQ : Q (some w) T.heap locs) (hc : cells ≤ k) (hs : slots ≤ n) : Go p e below (OwnEnd Q s k n) T (mkF m pc Ls (w :: rest)) := by
  refine Go.retW X hx hret hlk ?_ (Or.inr (Or.inr (Or.inr (Or.inr ⟨rfl, ht, hw⟩)))) hd hpc hQ hc hs
  rcases ref_cases hw with rfl | ⟨a, rfl⟩ <;> cases t <;> first | rfl | (simp [FieldType.isReference] at ht)
theorem Go.retV (X : Stand p l e R s m args below meth c T locs cells slots) (hx : p.tables.exec = Jvm.exec) {pc pc0 : Nat} {Ls : Array Slot} (hret : meth.sig.returnType = none) (hlk : meth.locks = false) (hd : decode c.code pc0 = .ok (.return_, 1)) (hpc : pc = pc0) {Q : Option Value → Heap → List Loc → Prop} {k n : Nat}
    (hQ : Q none T.heap locs) (hc : cells ≤ k) (hs : slots ≤ n) : Go p e below (OwnEnd Q s k n) T (mkF m pc Ls []) := by
  subst hpc
  exact Go.leave X (v := none) (fun _ => rfl) hlk hc hs hQ fun fs hr => X.returnOut hx hret hd hr
/-- a contract of a body: called on these arguments and this heap -/
def Ctr (l : Launch) (Z : State) (y : MethodName) (code : ByteArray) (mx : Nat) (ret : Option FieldType) (Rm : Room) (as' : Array Value) (h : Heap) (Q : Option Value → Heap → List Loc → Prop) : Prop :=
  ∀ ws : List Cond, MetFree l y (head1 (Cond.code y code mx ret :: ws) Rm) (fun a U => a = as' ∧ Z.Warmed39 U.vm ∧ U.heap = h) (fun _ _ _ _ _ => True) (fun _ U o U' => OwnEnd Q U Rm.cells Rm.slots o U')
theorem Ctr.of {y : MethodName} {code : ByteArray} {mx : Nat} {ret : Option FieldType} {Rm : Room} {as' : Array Value} {Q : Option Value → Heap → List Loc → Prop} (hp : plainFor y = true)
    (body : ∀ (p : Program) (e : Env) (s : State) (m : MethodId) (below : List Frame) (meth : Method) (c : Code) (s₁ : State), p.tables.exec = Jvm.exec → c.code = code → c.maxLocals = mx → s.vm.findClass y.cls = some m.cls → meth.name = y.name → meth.sig.returnType = ret → meth.locks = false → Z.Warmed39 s.vm →
      Stand p l e Rm s m as' below meth c s₁ [] 0 0 → s₁.heap = h → Go p e below (OwnEnd Q s Rm.cells Rm.slots) s₁ (entryFrame m as' mx)) : Ctr l Z y code mx ret Rm as' h Q := by
  intro ws
  refine MetFree.of_bodySF hp hisR ?_
  intro p e s m args below meth c s₁ Bd hml hP hK
  obtain ⟨rfl, hZ, hh⟩ := hP
  exact body p e s m below meth c s₁ Bd.exec Bd.bytes hml (findClass_of_methodNamed Bd.named) (name_of_methodNamed Bd.named Bd.method).1 Bd.returns Bd.notSynchronized hZ (Stand.of_body Bd) (by rw [← hh, Bd.state]; rfl)
/-- a body that returns V, writes nothing and makes nothing -/
def Pur (l : Launch) (Z : State) (y : MethodName) (code : ByteArray) (mx : Nat) (ret : Option FieldType) (fr lo : Nat) (as' : Array Value) (h : Heap) (V : Option Value) : Prop :=
  Ctr l Z y code mx ret ({ frames := fr, cells := 0, slots := 0, locals := lo } : Room) as' h fun v h' L => v = V ∧ L = [] ∧ h' = h
theorem Go.callS (X : Stand p l e R s m args below meth c T locs cells slots) (hx : p.tables.exec = Jvm.exec) (hZ : Z.Warmed39 s.vm) {own : String} {index : Nat} {y : MethodName} {bytes : ByteArray} {maxL : Nat} {ret : Option FieldType} (hown : s.vm.findClass own = some m.cls)
    (w1 : (Cond.methodLink own index y).before a0 Z = true) (w2 : (Cond.static y).before a0 Z = true) (w3 : (Cond.initialized y.cls).before a0 Z = true) (w4 : (Cond.code y bytes maxL ret).before a0 Z = true) (hy : y.cls ≠ "java/lang/invoke/MethodHandle" ∧ y.cls ≠ "java/lang/invoke/VarHandle")
    {Rm : Room} {Q : Option Value → Heap → List Loc → Prop} (argsL rest : List Value) (C : Ctr l Z y bytes maxL ret Rm argsL.toArray h Q) (eT : T.heap = h) {pc : Nat} {Ls : Array Slot} {st : List Value} (hst : st = argsL.reverse ++ rest) (hsz : Ls.size = c.maxLocals) {ps : List FieldType} {r : Option FieldType} (hpd : parseMethodDescriptor y.desc = some ⟨ps, r⟩) (hln : argsL.length = ps.length)
    (hd : decode c.code pc = .ok (.invokestatic index, 3)) (hfr : Rm.frames + 1 ≤ R.frames) (hlo : (rest.map fun v => v.category).sum + (maxL + 11) + Rm.locals ≤ R.locals) (hc : cells + Rm.cells ≤ R.cells) (hs : slots + Rm.slots ≤ R.slots)
    (K : ∀ v T' L, Stand p l e R s m args below meth c T' (locs ++ L) (cells + Rm.cells) (slots + Rm.slots) → Q v T'.heap L → Go p e below P T' (mkF m (pc + 3) Ls (v.toList ++ rest))) : Go p e below P T (mkF m pc Ls st) := by
  subst hst
  obtain ⟨v, _, ⟨T', L', k', n'⟩, -, X', ⟨L, hQ, l1, l2, l3⟩, st⟩ := Jvm.LawKit.callS X hx (y := y) hown (mvT hZ w1) (mvT hZ w2) (mvT hZ w3) (mvT hZ w4) hy (backOf (W := (rest.map fun v => v.category).sum) (Q := Q) (C []) hZ w4 w3 hfr hlo) (g := mkF m pc Ls (argsL.reverse ++ rest)) rfl hsz (argsL := argsL) (rest := rest) (lenOf hpd hln) rfl (by show 2 * 0 + _ ≤ _; omega) hd (fun _ _ => ⟨rfl, eT, hc, hs⟩)
  dsimp only [Pt.U, Pt.locs, Pt.cells, Pt.slots] at X' l1 l2 l3 st hQ
  subst l1 l2 l3
  exact Go.of st (K v T' L X' hQ)
theorem Go.pureS (X : Stand p l e R s m args below meth c T locs cells slots) (hx : p.tables.exec = Jvm.exec) (hZ : Z.Warmed39 s.vm) {own : String} {index : Nat} {y : MethodName} {bytes : ByteArray} {maxL : Nat} {ret : Option FieldType} (hown : s.vm.findClass own = some m.cls)
    (w1 : (Cond.methodLink own index y).before a0 Z = true) (w2 : (Cond.static y).before a0 Z = true) (w3 : (Cond.initialized y.cls).before a0 Z = true) (w4 : (Cond.code y bytes maxL ret).before a0 Z = true) (hy : y.cls ≠ "java/lang/invoke/MethodHandle" ∧ y.cls ≠ "java/lang/invoke/VarHandle")
    {fr lo : Nat} {V : Option Value} (argsL rest : List Value) (C : Pur l Z y bytes maxL ret fr lo argsL.toArray h V) (eT : T.heap = h) {pc : Nat} {Ls : Array Slot} {st : List Value} (hst : st = argsL.reverse ++ rest) (hsz : Ls.size = c.maxLocals) {ps : List FieldType} {r : Option FieldType} (hpd : parseMethodDescriptor y.desc = some ⟨ps, r⟩) (hln : argsL.length = ps.length)
    (hd : decode c.code pc = .ok (.invokestatic index, 3)) (hfr : fr + 1 ≤ R.frames) (hlo : (rest.map fun v => v.category).sum + (maxL + 11) + lo ≤ R.locals) (hc : cells ≤ R.cells) (hs : slots ≤ R.slots)
    (K : ∀ T', Stand p l e R s m args below meth c T' locs cells slots → T'.heap = h → Go p e below P T' (mkF m (pc + 3) Ls (V.toList ++ rest))) : Go p e below P T (mkF m pc Ls st) := by
  refine Go.callS X hx hZ hown w1 w2 w3 w4 hy argsL rest C eT hst hsz hpd hln hd hfr hlo hc hs ?_
  rintro v T' L X' ⟨rfl, rfl, e'⟩
  rw [List.append_nil] at X'
  exact K T' X' e'
theorem Go.callV (X : Stand p l e R s m args below meth c T locs cells slots) (hx : p.tables.exec = Jvm.exec) (hZ : Z.Warmed39 s.vm) {own C : String} {index : Nat} {y z : MethodName} {bytes : ByteArray} {maxL : Nat} {ret : Option FieldType} (hown : s.vm.findClass own = some m.cls)
    (w1 : (Cond.methodLink own index y).before a0 Z = true) (w2 : (Cond.declares y).before a0 Z = true) (hnf : NotFace s y) (w3 : (Cond.selects C y z).before a0 Z = true) (w4 : (Cond.instanceMethod z).before a0 Z = true) (w5 : (Cond.initialized z.cls).before a0 Z = true) (w6 : (Cond.code z bytes maxL ret).before a0 Z = true) (hy : y.cls ≠ "java/lang/invoke/MethodHandle" ∧ y.cls ≠ "java/lang/invoke/VarHandle")
    {Rm : Room} {Q : Option Value → Heap → List Loc → Prop} {b : Addr} (argsL rest : List Value) (E : Exa Z h b C) (Ct : Ctr l Z z bytes maxL ret Rm (.ref b :: argsL).toArray h Q) (eT : T.heap = h) {pc : Nat} {Ls : Array Slot} {st : List Value} (hst : st = argsL.reverse ++ .ref b :: rest) (hsz : Ls.size = c.maxLocals) {ps : List FieldType} {r : Option FieldType} (hpd : parseMethodDescriptor y.desc = some ⟨ps, r⟩) (hln : argsL.length = ps.length)
    (hd : decode c.code pc = .ok (.invokevirtual index, 3)) (hfr : Rm.frames + 1 ≤ R.frames) (hlo : (rest.map fun v => v.category).sum + (maxL + 11) + Rm.locals ≤ R.locals) (hc : cells + Rm.cells ≤ R.cells) (hs : slots + Rm.slots ≤ R.slots)
    (K : ∀ v T' L, Stand p l e R s m args below meth c T' (locs ++ L) (cells + Rm.cells) (slots + Rm.slots) → Q v T'.heap L → Go p e below P T' (mkF m (pc + 3) Ls (v.toList ++ rest))) : Go p e below P T (mkF m pc Ls st) := by
  subst hst
  obtain ⟨cq, kq, q1, q2, q3⟩ := isOf hZ eT E
  obtain ⟨v, _, ⟨T', L', k', n'⟩, -, X', ⟨L, hQ, l1, l2, l3⟩, st⟩ := X.virtualBack hx (y := y) (z := z) hown (mvT hZ w1) (mvT hZ w2) hnf (mvT hZ w3) (mvT hZ w4) hy (backOf (W := (rest.map fun v => v.category).sum) (Q := Q) (Ct []) hZ w6 w5 hfr hlo) q1 q3 (g := mkF m pc Ls (argsL.reverse ++ .ref b :: rest)) rfl hsz (Steps.refl _) (argsL := argsL) (rest := rest) (lenOf hpd hln) rfl (by show 2 * 0 + _ ≤ _; omega) hd (fun _ _ => ⟨rfl, eT, hc, hs⟩)
  dsimp only [Pt.U, Pt.locs, Pt.cells, Pt.slots] at X' l1 l2 l3 st hQ
  subst l1 l2 l3
  exact Go.of (fun _ k => st.trans k) (K v T' L X' hQ)
theorem Go.pureV (X : Stand p l e R s m args below meth c T locs cells slots) (hx : p.tables.exec = Jvm.exec) (hZ : Z.Warmed39 s.vm) {own C : String} {index : Nat} {y z : MethodName} {bytes : ByteArray} {maxL : Nat} {ret : Option FieldType} (hown : s.vm.findClass own = some m.cls)
    (w1 : (Cond.methodLink own index y).before a0 Z = true) (w2 : (Cond.declares y).before a0 Z = true) (hnf : NotFace s y) (w3 : (Cond.selects C y z).before a0 Z = true) (w4 : (Cond.instanceMethod z).before a0 Z = true) (w5 : (Cond.initialized z.cls).before a0 Z = true) (w6 : (Cond.code z bytes maxL ret).before a0 Z = true) (hy : y.cls ≠ "java/lang/invoke/MethodHandle" ∧ y.cls ≠ "java/lang/invoke/VarHandle")
    {fr lo : Nat} {V : Option Value} {b : Addr} (argsL rest : List Value) (E : Exa Z h b C) (Ct : Pur l Z z bytes maxL ret fr lo (.ref b :: argsL).toArray h V) (eT : T.heap = h) {pc : Nat} {Ls : Array Slot} {st : List Value} (hst : st = argsL.reverse ++ .ref b :: rest) (hsz : Ls.size = c.maxLocals) {ps : List FieldType} {r : Option FieldType} (hpd : parseMethodDescriptor y.desc = some ⟨ps, r⟩) (hln : argsL.length = ps.length)
    (hd : decode c.code pc = .ok (.invokevirtual index, 3)) (hfr : fr + 1 ≤ R.frames) (hlo : (rest.map fun v => v.category).sum + (maxL + 11) + lo ≤ R.locals) (hc : cells ≤ R.cells) (hs : slots ≤ R.slots)
    (K : ∀ T', Stand p l e R s m args below meth c T' locs cells slots → T'.heap = h → Go p e below P T' (mkF m (pc + 3) Ls (V.toList ++ rest))) : Go p e below P T (mkF m pc Ls st) := by
  refine Go.callV X hx hZ hown w1 w2 hnf w3 w4 w5 w6 hy argsL rest E Ct eT hst hsz hpd hln hd hfr hlo hc hs ?_
  rintro v T' L X' ⟨rfl, rfl, e'⟩
  rw [List.append_nil] at X'
  exact K T' X' e'
theorem Go.callU (X : Stand p l e R s m args below meth c T locs cells slots) (hx : p.tables.exec = Jvm.exec) (hZ : Z.Warmed39 s.vm) {own C ow : String} {index : Nat} {y z : MethodName} {bytes : ByteArray} {maxL : Nat} {ret : Option FieldType} (hown : s.vm.findClass own = some m.cls)
    (w1 : (Cond.methodLink own index y).before a0 Z = true) (w2 : (Cond.sameMethod y.cls ow y.name y.desc).before a0 Z = true) (w2' : (Cond.declares ⟨ow, y.name, y.desc⟩).before a0 Z = true) (w3 : (Cond.selects C y z).before a0 Z = true) (w4 : (Cond.instanceMethod z).before a0 Z = true) (w5 : (Cond.initialized z.cls).before a0 Z = true) (w6 : (Cond.code z bytes maxL ret).before a0 Z = true) (hy : ow ≠ "java/lang/invoke/MethodHandle" ∧ ow ≠ "java/lang/invoke/VarHandle")
    {Rm : Room} {Q : Option Value → Heap → List Loc → Prop} {b : Addr} (argsL rest : List Value) (E : Exa Z h b C) (Ct : Ctr l Z z bytes maxL ret Rm (.ref b :: argsL).toArray h Q) (eT : T.heap = h) {pc : Nat} {Ls : Array Slot} {st : List Value} (hst : st = argsL.reverse ++ .ref b :: rest) (hsz : Ls.size = c.maxLocals) {ps : List FieldType} {r : Option FieldType} (hpd : parseMethodDescriptor y.desc = some ⟨ps, r⟩) (hln : argsL.length = ps.length)
    (hd : decode c.code pc = .ok (.invokevirtual index, 3)) (hfr : Rm.frames + 1 ≤ R.frames) (hlo : (rest.map fun v => v.category).sum + (maxL + 11) + Rm.locals ≤ R.locals) (hc : cells + Rm.cells ≤ R.cells) (hs : slots + Rm.slots ≤ R.slots)
    (K : ∀ v T' L, Stand p l e R s m args below meth c T' (locs ++ L) (cells + Rm.cells) (slots + Rm.slots) → Q v T'.heap L → Go p e below P T' (mkF m (pc + 3) Ls (v.toList ++ rest))) : Go p e below P T (mkF m pc Ls st) := by
  subst hst
  obtain ⟨cq, kq, q1, q2, q3⟩ := isOf hZ eT E
  obtain ⟨v, _, ⟨T', L', k', n'⟩, -, X', ⟨L, hQ, l1, l2, l3⟩, st⟩ := X.virtualBackUp hx (x := y) (y := z) (owner := ow) hown (mvT hZ w1) (mvT hZ w2) (mvT hZ w2') hy (mvT hZ w3) (mvT hZ w4) (backOf (W := (rest.map fun v => v.category).sum) (Q := Q) (Ct []) hZ w6 w5 hfr hlo) q1 q3 (g := mkF m pc Ls (argsL.reverse ++ .ref b :: rest)) rfl hsz (Steps.refl _) (argsL := argsL) (rest := rest) (lenOf hpd hln) rfl (by show 2 * 0 + _ ≤ _; omega) hd (fun _ _ => ⟨rfl, eT, hc, hs⟩)
  dsimp only [Pt.U, Pt.locs, Pt.cells, Pt.slots] at X' l1 l2 l3 st hQ
  subst l1 l2 l3
  exact Go.of (fun _ k => st.trans k) (K v T' L X' hQ)
theorem Go.pureU (X : Stand p l e R s m args below meth c T locs cells slots) (hx : p.tables.exec = Jvm.exec) (hZ : Z.Warmed39 s.vm) {own C ow : String} {index : Nat} {y z : MethodName} {bytes : ByteArray} {maxL : Nat} {ret : Option FieldType} (hown : s.vm.findClass own = some m.cls)
    (w1 : (Cond.methodLink own index y).before a0 Z = true) (w2 : (Cond.sameMethod y.cls ow y.name y.desc).before a0 Z = true) (w2' : (Cond.declares ⟨ow, y.name, y.desc⟩).before a0 Z = true) (w3 : (Cond.selects C y z).before a0 Z = true) (w4 : (Cond.instanceMethod z).before a0 Z = true) (w5 : (Cond.initialized z.cls).before a0 Z = true) (w6 : (Cond.code z bytes maxL ret).before a0 Z = true) (hy : ow ≠ "java/lang/invoke/MethodHandle" ∧ ow ≠ "java/lang/invoke/VarHandle")
    {fr lo : Nat} {V : Option Value} {b : Addr} (argsL rest : List Value) (E : Exa Z h b C) (Ct : Pur l Z z bytes maxL ret fr lo (.ref b :: argsL).toArray h V) (eT : T.heap = h) {pc : Nat} {Ls : Array Slot} {st : List Value} (hst : st = argsL.reverse ++ .ref b :: rest) (hsz : Ls.size = c.maxLocals) {ps : List FieldType} {r : Option FieldType} (hpd : parseMethodDescriptor y.desc = some ⟨ps, r⟩) (hln : argsL.length = ps.length)
    (hd : decode c.code pc = .ok (.invokevirtual index, 3)) (hfr : fr + 1 ≤ R.frames) (hlo : (rest.map fun v => v.category).sum + (maxL + 11) + lo ≤ R.locals) (hc : cells ≤ R.cells) (hs : slots ≤ R.slots)
    (K : ∀ T', Stand p l e R s m args below meth c T' locs cells slots → T'.heap = h → Go p e below P T' (mkF m (pc + 3) Ls (V.toList ++ rest))) : Go p e below P T (mkF m pc Ls st) := by
  refine Go.callU X hx hZ hown w1 w2 w2' w3 w4 w5 w6 hy argsL rest E Ct eT hst hsz hpd hln hd hfr hlo hc hs ?_
  rintro v T' L X' ⟨rfl, rfl, e'⟩
  rw [List.append_nil] at X'
  exact K T' X' e'
theorem Go.callI (X : Stand p l e R s m args below meth c T locs cells slots) (hx : p.tables.exec = Jvm.exec) (hZ : Z.Warmed39 s.vm) {own : String} {index : Nat} {y : MethodName} {bytes : ByteArray} {maxL : Nat} (hyn : y.name = "<init>") (hown : s.vm.findClass own = some m.cls)
    (w1 : (Cond.methodLink own index y).before a0 Z = true) (w2 : (Cond.instanceMethod y).before a0 Z = true) (w3 : (Cond.initialized y.cls).before a0 Z = true) (w4 : (Cond.code y bytes maxL none).before a0 Z = true) (hy : y.cls ≠ "java/lang/invoke/MethodHandle" ∧ y.cls ≠ "java/lang/invoke/VarHandle")
    {Rm : Room} {Q : Option Value → Heap → List Loc → Prop} {b : Addr} (argsL rest : List Value) (C : Ctr l Z y bytes maxL none Rm (.ref b :: argsL).toArray h Q) (eT : T.heap = h) {pc : Nat} {Ls : Array Slot} {st : List Value} (hst : st = argsL.reverse ++ .ref b :: rest) (hsz : Ls.size = c.maxLocals) {ps : List FieldType} {r : Option FieldType} (hpd : parseMethodDescriptor y.desc = some ⟨ps, r⟩) (hln : argsL.length = ps.length)
    (hd : decode c.code pc = .ok (.invokespecial index, 3)) (hfr : Rm.frames + 1 ≤ R.frames) (hlo : (rest.map fun v => v.category).sum + (maxL + 11) + Rm.locals ≤ R.locals) (hc : cells + Rm.cells ≤ R.cells) (hs : slots + Rm.slots ≤ R.slots)
    (K : ∀ v T' L, Stand p l e R s m args below meth c T' (locs ++ L) (cells + Rm.cells) (slots + Rm.slots) → Q v T'.heap L → Go p e below P T' (mkF m (pc + 3) Ls (v.toList ++ rest))) : Go p e below P T (mkF m pc Ls st) := by
  subst hst
  obtain ⟨v, _, ⟨T', L', k', n'⟩, -, X', ⟨L, hQ, l1, l2, l3⟩, st⟩ := X.specialBack hx (y := y) hyn hown (mvT hZ w1) (mvT hZ w2) (mvT hZ w4) hy (backOf (W := (rest.map fun v => v.category).sum) (Q := Q) (C []) hZ w4 w3 hfr hlo) (g := mkF m pc Ls (argsL.reverse ++ .ref b :: rest)) rfl hsz (Steps.refl _) (a := b) (argsL := argsL) (rest := rest) (lenOf hpd hln) rfl (by show 2 * 0 + _ ≤ _; omega) hd (fun _ _ => ⟨rfl, eT, hc, hs⟩)
  dsimp only [Pt.U, Pt.locs, Pt.cells, Pt.slots] at X' l1 l2 l3 st hQ
  subst l1 l2 l3
  exact Go.of (fun _ k => st.trans k) (K v T' L X' hQ)
end Own
theorem own_nf {args : Array Value} {s : State} {C : String} {y y' : MethodName} (hc : y.cls = y'.cls) (hsel : (Cond.selects C y' y').before args s = true) : NotFace s y := fun r0 h0 => by
  obtain ⟨c2, r2, m2, q1, q2, q3, q4, kP, hkP, hkPi⟩ := Cond.selects_spec hsel
  have e1 := findClass_of_methodNamed h0
  have e2 := findClass_of_methodNamed q3
  rw [hc] at e1
  have e3 : r0.cls = m2.cls := Option.some.inj (e1.symm.trans e2)
  exact ⟨kP, e3 ▸ hkP, hkPi⟩
section OwnWords
variable {args : Array Value} {s : State} {a b t i : Term} {v : Value}
theorem own_eqv (g : (Cond.eq a b).value args s none s [] = some true) (hb : b.eval args s none [] s = some v) : a.eval args s none [] s = some v := by
  cases ha : a.eval args s none [] s with
  | none => simp [Cond.value, ha] at g
  | some x => cases x <;> cases v <;> simp [Cond.value, ha, hb] at g ⊢ <;> exact g
theorem own_len {x : Addr} {cl : Cell} {ty : FieldType} {n : Int32} (A : Arr s s.heap x cl ty) (ht : t.eval args s none [] s = some (.ref x)) (g : (Term.length t).eval args s none [] s = some (.int n)) : cl.slots.size < 2 ^ 31 ∧ cl.slots.size.toInt32 = n := by
  have q := A.fin (Vm.Alike.refl _)
  by_cases hl : cl.slots.size < 2 ^ 31
  · refine ⟨hl, ?_⟩
    have e := len_f (args := args) (first := s) (o := none) (idx := []) ht q hl
    exact Value.int.inj (Option.some.inj (e.symm.trans g))
  · simp [Term.eval, ht, q, hl] at g
theorem own_elem {x : Addr} {cl : Cell} {ty : FieldType} {j : Int32} {k : Nat} (A : Arr s s.heap x cl ty) (ht : t.eval args s none [] s = some (.ref x)) (hk : j.toNatClampNeg = k) (g : (Term.elem t (.int j)).eval args s none [] s = some v) : cl.slots[k]? = some v := by
  have e := (elem_in (j := j) (a := .int j) g ht rfl A.1).2
  rw [hk] at e; exact e
end OwnWords
section OwnSteps
variable {p : Program} {l : Launch} {e : Env} {R : Room} {s Z : State} {m : MethodId} {args a0 : Array Value} {below : List Frame} {meth : Method} {c : Code} {T : State} {locs : List Loc} {cells slots : Nat} {h : Heap} {P : Outcome → State → Prop} {pc pc0 : Nat} {Ls : Array Slot} {st : List Value}
theorem Go.iload (X : Stand p l e R s m args below meth c T locs cells slots) (hx : p.tables.exec = Jvm.exec) {k : Nat} {v : Int32} (hd : decode c.code pc0 = .ok (.iload k, 2)) (hpc : pc = pc0) (hl : Ls[k]? = some (.val (.int v))) (K : Go p e below P T (mkF m (pc0 + 2) Ls (.int v :: st))) : Go p e below P T (mkF m pc Ls (st)) := by
  subst hpc
  exact Go.of (fun _ q => XS.iload X.here hx rfl hd hl q) K
theorem Go.iloadN (X : Stand p l e R s m args below meth c T locs cells slots) (hx : p.tables.exec = Jvm.exec) {k : Fin 4} {v : Int32} (hd : decode c.code pc0 = .ok (.iload_n k, 1)) (hpc : pc = pc0) (hl : Ls[k.val]? = some (.val (.int v))) (K : Go p e below P T (mkF m (pc0 + 1) Ls (.int v :: st))) : Go p e below P T (mkF m pc Ls (st)) := by
  subst hpc
  exact Go.of (fun _ q => XS.iloadN X.here hx rfl hd hl q) K
theorem Go.istore (X : Stand p l e R s m args below meth c T locs cells slots) (hx : p.tables.exec = Jvm.exec) {k : Nat} {v : Int32} (hd : decode c.code pc0 = .ok (.istore k, 2)) (hpc : pc = pc0) (l' : Array Slot) (hl : storeLocals Ls k (.int v) = some l') (K : Go p e below P T (mkF m (pc0 + 2) l' (st))) : Go p e below P T (mkF m pc Ls (.int v :: st)) := by
  subst hpc
  exact Go.of (fun _ q => XS.istore X.here hx rfl hd rfl hl q) K
theorem Go.istoreN (X : Stand p l e R s m args below meth c T locs cells slots) (hx : p.tables.exec = Jvm.exec) {k : Fin 4} {v : Int32} (hd : decode c.code pc0 = .ok (.istore_n k, 1)) (hpc : pc = pc0) (l' : Array Slot) (hl : storeLocals Ls k.val (.int v) = some l') (K : Go p e below P T (mkF m (pc0 + 1) l' (st))) : Go p e below P T (mkF m pc Ls (.int v :: st)) := by
  subst hpc
  exact Go.of (fun _ q => XS.istoreN X.here hx rfl hd rfl hl q) K
theorem Go.lload (X : Stand p l e R s m args below meth c T locs cells slots) (hx : p.tables.exec = Jvm.exec) {k : Nat} {v : Int64} (hd : decode c.code pc0 = .ok (.lload k, 2)) (hpc : pc = pc0) (hl : Ls[k]? = some (.val (.long v))) (K : Go p e below P T (mkF m (pc0 + 2) Ls (.long v :: st))) : Go p e below P T (mkF m pc Ls (st)) := by
  subst hpc
  exact Go.of (fun _ q => XS.lload X.here hx rfl hd hl q) K
theorem Go.lloadN (X : Stand p l e R s m args below meth c T locs cells slots) (hx : p.tables.exec = Jvm.exec) {k : Fin 4} {v : Int64} (hd : decode c.code pc0 = .ok (.lload_n k, 1)) (hpc : pc = pc0) (hl : Ls[k.val]? = some (.val (.long v))) (K : Go p e below P T (mkF m (pc0 + 1) Ls (.long v :: st))) : Go p e below P T (mkF m pc Ls (st)) := by
  subst hpc
  exact Go.of (fun _ q => XS.lloadN X.here hx rfl hd hl q) K
theorem Go.lstore (X : Stand p l e R s m args below meth c T locs cells slots) (hx : p.tables.exec = Jvm.exec) {k : Nat} {v : Int64} (hd : decode c.code pc0 = .ok (.lstore k, 2)) (hpc : pc = pc0) (l' : Array Slot) (hl : storeLocals Ls k (.long v) = some l') (K : Go p e below P T (mkF m (pc0 + 2) l' (st))) : Go p e below P T (mkF m pc Ls (.long v :: st)) := by
  subst hpc
  exact Go.of (fun _ q => XS.lstore X.here hx rfl hd rfl hl q) K
theorem Go.lstoreN (X : Stand p l e R s m args below meth c T locs cells slots) (hx : p.tables.exec = Jvm.exec) {k : Fin 4} {v : Int64} (hd : decode c.code pc0 = .ok (.lstore_n k, 1)) (hpc : pc = pc0) (l' : Array Slot) (hl : storeLocals Ls k.val (.long v) = some l') (K : Go p e below P T (mkF m (pc0 + 1) l' (st))) : Go p e below P T (mkF m pc Ls (.long v :: st)) := by
  subst hpc
  exact Go.of (fun _ q => XS.lstoreN X.here hx rfl hd rfl hl q) K
theorem Go.aload (X : Stand p l e R s m args below meth c T locs cells slots) (hx : p.tables.exec = Jvm.exec) {k : Nat} {v : Value} (hd : decode c.code pc0 = .ok (.aload k, 2)) (hpc : pc = pc0) (hl : Ls[k]? = some (.val v)) (hv : v.isRef = true) (K : Go p e below P T (mkF m (pc0 + 2) Ls (v :: st))) : Go p e below P T (mkF m pc Ls (st)) := by
  subst hpc
  exact Go.of (fun _ q => XS.aload X.here hx rfl hd hl hv q) K
theorem Go.aloadN (X : Stand p l e R s m args below meth c T locs cells slots) (hx : p.tables.exec = Jvm.exec) {k : Fin 4} {v : Value} (hd : decode c.code pc0 = .ok (.aload_n k, 1)) (hpc : pc = pc0) (hl : Ls[k.val]? = some (.val v)) (hv : v.isRef = true) (K : Go p e below P T (mkF m (pc0 + 1) Ls (v :: st))) : Go p e below P T (mkF m pc Ls (st)) := by
  subst hpc
  exact Go.of (fun _ q => XS.aloadN X.here hx rfl hd hl hv q) K
theorem Go.astore (X : Stand p l e R s m args below meth c T locs cells slots) (hx : p.tables.exec = Jvm.exec) {k : Nat} {v : Value} (hd : decode c.code pc0 = .ok (.astore k, 2)) (hpc : pc = pc0) (hv : v.isRef = true) (l' : Array Slot) (hl : storeLocals Ls k v = some l') (K : Go p e below P T (mkF m (pc0 + 2) l' (st))) : Go p e below P T (mkF m pc Ls (v :: st)) := by
  subst hpc
  exact Go.of (fun _ q => XS.astore X.here hx rfl hd rfl hv hl q) K
theorem Go.astoreN (X : Stand p l e R s m args below meth c T locs cells slots) (hx : p.tables.exec = Jvm.exec) {k : Fin 4} {v : Value} (hd : decode c.code pc0 = .ok (.astore_n k, 1)) (hpc : pc = pc0) (hv : v.isRef = true) (l' : Array Slot) (hl : storeLocals Ls k.val v = some l') (K : Go p e below P T (mkF m (pc0 + 1) l' (st))) : Go p e below P T (mkF m pc Ls (v :: st)) := by
  subst hpc
  exact Go.of (fun _ q => XS.astoreN X.here hx rfl hd rfl hv hl q) K
theorem Go.iconst (X : Stand p l e R s m args below meth c T locs cells slots) (hx : p.tables.exec = Jvm.exec) {i : Int} (hd : decode c.code pc0 = .ok (.iconst i, 1)) (hpc : pc = pc0) (v : Int32) (hv : Int32.ofInt i = v) (K : Go p e below P T (mkF m (pc0 + 1) Ls (.int v :: st))) : Go p e below P T (mkF m pc Ls (st)) := by
  subst hpc
  subst hv
  exact Go.of (fun _ q => XS.iconst X.here hx rfl hd q) K
theorem Go.bipush (X : Stand p l e R s m args below meth c T locs cells slots) (hx : p.tables.exec = Jvm.exec) {i : Int} (hd : decode c.code pc0 = .ok (.bipush i, 2)) (hpc : pc = pc0) (v : Int32) (hv : (Int8.ofInt i).toInt32 = v) (K : Go p e below P T (mkF m (pc0 + 2) Ls (.int v :: st))) : Go p e below P T (mkF m pc Ls (st)) := by
  subst hpc
  subst hv
  exact Go.of (fun _ q => XS.bipush X.here hx rfl hd q) K
theorem Go.sipush (X : Stand p l e R s m args below meth c T locs cells slots) (hx : p.tables.exec = Jvm.exec) {i : Int} (hd : decode c.code pc0 = .ok (.sipush i, 3)) (hpc : pc = pc0) (v : Int32) (hv : (Int16.ofInt i).toInt32 = v) (K : Go p e below P T (mkF m (pc0 + 3) Ls (.int v :: st))) : Go p e below P T (mkF m pc Ls (st)) := by
  subst hpc
  subst hv
  exact Go.of (fun _ q => XS.sipush X.here hx rfl hd q) K
theorem Go.lconst (X : Stand p l e R s m args below meth c T locs cells slots) (hx : p.tables.exec = Jvm.exec) {k : Fin 2} (hd : decode c.code pc0 = .ok (.lconst k, 1)) (hpc : pc = pc0) (v : Int64) (hv : Int64.ofNat k = v) (K : Go p e below P T (mkF m (pc0 + 1) Ls (.long v :: st))) : Go p e below P T (mkF m pc Ls (st)) := by
  subst hpc
  subst hv
  exact Go.of (fun _ q => XS.lconst X.here hx rfl hd q) K
theorem Go.aconstNull (X : Stand p l e R s m args below meth c T locs cells slots) (hx : p.tables.exec = Jvm.exec)  (hd : decode c.code pc0 = .ok (.aconst_null, 1)) (hpc : pc = pc0)  (K : Go p e below P T (mkF m (pc0 + 1) Ls (.null :: st))) : Go p e below P T (mkF m pc Ls (st)) := by
  subst hpc
  exact Go.of (fun _ q => XS.aconstNull X.here hx rfl hd q) K
theorem Go.iadd (X : Stand p l e R s m args below meth c T locs cells slots) (hx : p.tables.exec = Jvm.exec) {x y : Int32} (hd : decode c.code pc0 = .ok (.iadd, 1)) (hpc : pc = pc0)  (K : Go p e below P T (mkF m (pc0 + 1) Ls (.int (x + y) :: st))) : Go p e below P T (mkF m pc Ls (.int y :: .int x :: st)) := by
  subst hpc
  exact Go.of (fun _ q => XS.iadd X.here hx rfl hd rfl q) K
theorem Go.isub (X : Stand p l e R s m args below meth c T locs cells slots) (hx : p.tables.exec = Jvm.exec) {x y : Int32} (hd : decode c.code pc0 = .ok (.isub, 1)) (hpc : pc = pc0)  (K : Go p e below P T (mkF m (pc0 + 1) Ls (.int (x - y) :: st))) : Go p e below P T (mkF m pc Ls (.int y :: .int x :: st)) := by
  subst hpc
  exact Go.of (fun _ q => XS.isub X.here hx rfl hd rfl q) K
theorem Go.imul (X : Stand p l e R s m args below meth c T locs cells slots) (hx : p.tables.exec = Jvm.exec) {x y : Int32} (hd : decode c.code pc0 = .ok (.imul, 1)) (hpc : pc = pc0)  (K : Go p e below P T (mkF m (pc0 + 1) Ls (.int (x * y) :: st))) : Go p e below P T (mkF m pc Ls (.int y :: .int x :: st)) := by
  subst hpc
  exact Go.of (fun _ q => XS.imul X.here hx rfl hd rfl q) K
theorem Go.iand (X : Stand p l e R s m args below meth c T locs cells slots) (hx : p.tables.exec = Jvm.exec) {x y : Int32} (hd : decode c.code pc0 = .ok (.iand, 1)) (hpc : pc = pc0)  (K : Go p e below P T (mkF m (pc0 + 1) Ls (.int (x &&& y) :: st))) : Go p e below P T (mkF m pc Ls (.int y :: .int x :: st)) := by
  subst hpc
  exact Go.of (fun _ q => XS.iand X.here hx rfl hd rfl q) K
theorem Go.ior (X : Stand p l e R s m args below meth c T locs cells slots) (hx : p.tables.exec = Jvm.exec) {x y : Int32} (hd : decode c.code pc0 = .ok (.ior, 1)) (hpc : pc = pc0)  (K : Go p e below P T (mkF m (pc0 + 1) Ls (.int (x ||| y) :: st))) : Go p e below P T (mkF m pc Ls (.int y :: .int x :: st)) := by
  subst hpc
  exact Go.of (fun _ q => XS.ior X.here hx rfl hd rfl q) K
theorem Go.ixor (X : Stand p l e R s m args below meth c T locs cells slots) (hx : p.tables.exec = Jvm.exec) {x y : Int32} (hd : decode c.code pc0 = .ok (.ixor, 1)) (hpc : pc = pc0)  (K : Go p e below P T (mkF m (pc0 + 1) Ls (.int (x ^^^ y) :: st))) : Go p e below P T (mkF m pc Ls (.int y :: .int x :: st)) := by
  subst hpc
  exact Go.of (fun _ q => XS.ixor X.here hx rfl hd rfl q) K
theorem Go.idiv (X : Stand p l e R s m args below meth c T locs cells slots) (hx : p.tables.exec = Jvm.exec) {x y : Int32} (hd : decode c.code pc0 = .ok (.idiv, 1)) (hpc : pc = pc0) (hy : y ≠ 0) (K : Go p e below P T (mkF m (pc0 + 1) Ls (.int (x / y) :: st))) : Go p e below P T (mkF m pc Ls (.int y :: .int x :: st)) := by
  subst hpc
  exact Go.of (fun _ q => XS.idiv X.here hx rfl hd rfl hy q) K
theorem Go.ineg (X : Stand p l e R s m args below meth c T locs cells slots) (hx : p.tables.exec = Jvm.exec) {x : Int32} (hd : decode c.code pc0 = .ok (.ineg, 1)) (hpc : pc = pc0)  (K : Go p e below P T (mkF m (pc0 + 1) Ls (.int (-x) :: st))) : Go p e below P T (mkF m pc Ls (.int x :: st)) := by
  subst hpc
  exact Go.of (fun _ q => XS.ineg X.here hx rfl hd rfl q) K
theorem Go.ladd (X : Stand p l e R s m args below meth c T locs cells slots) (hx : p.tables.exec = Jvm.exec) {x y : Int64} (hd : decode c.code pc0 = .ok (.ladd, 1)) (hpc : pc = pc0)  (K : Go p e below P T (mkF m (pc0 + 1) Ls (.long (x + y) :: st))) : Go p e below P T (mkF m pc Ls (.long y :: .long x :: st)) := by
  subst hpc
  exact Go.of (fun _ q => XS.ladd X.here hx rfl hd rfl q) K
theorem Go.lsub (X : Stand p l e R s m args below meth c T locs cells slots) (hx : p.tables.exec = Jvm.exec) {x y : Int64} (hd : decode c.code pc0 = .ok (.lsub, 1)) (hpc : pc = pc0)  (K : Go p e below P T (mkF m (pc0 + 1) Ls (.long (x - y) :: st))) : Go p e below P T (mkF m pc Ls (.long y :: .long x :: st)) := by
  subst hpc
  exact Go.of (fun _ q => XS.lsub X.here hx rfl hd rfl q) K
theorem Go.lmul (X : Stand p l e R s m args below meth c T locs cells slots) (hx : p.tables.exec = Jvm.exec) {x y : Int64} (hd : decode c.code pc0 = .ok (.lmul, 1)) (hpc : pc = pc0)  (K : Go p e below P T (mkF m (pc0 + 1) Ls (.long (x * y) :: st))) : Go p e below P T (mkF m pc Ls (.long y :: .long x :: st)) := by
  subst hpc
  exact Go.of (fun _ q => XS.lmul X.here hx rfl hd rfl q) K
theorem Go.land (X : Stand p l e R s m args below meth c T locs cells slots) (hx : p.tables.exec = Jvm.exec) {x y : Int64} (hd : decode c.code pc0 = .ok (.land, 1)) (hpc : pc = pc0)  (K : Go p e below P T (mkF m (pc0 + 1) Ls (.long (x &&& y) :: st))) : Go p e below P T (mkF m pc Ls (.long y :: .long x :: st)) := by
  subst hpc
  exact Go.of (fun _ q => XS.land X.here hx rfl hd rfl q) K
theorem Go.lor (X : Stand p l e R s m args below meth c T locs cells slots) (hx : p.tables.exec = Jvm.exec) {x y : Int64} (hd : decode c.code pc0 = .ok (.lor, 1)) (hpc : pc = pc0)  (K : Go p e below P T (mkF m (pc0 + 1) Ls (.long (x ||| y) :: st))) : Go p e below P T (mkF m pc Ls (.long y :: .long x :: st)) := by
  subst hpc
  exact Go.of (fun _ q => XS.lor X.here hx rfl hd rfl q) K
theorem Go.lxor (X : Stand p l e R s m args below meth c T locs cells slots) (hx : p.tables.exec = Jvm.exec) {x y : Int64} (hd : decode c.code pc0 = .ok (.lxor, 1)) (hpc : pc = pc0)  (K : Go p e below P T (mkF m (pc0 + 1) Ls (.long (x ^^^ y) :: st))) : Go p e below P T (mkF m pc Ls (.long y :: .long x :: st)) := by
  subst hpc
  exact Go.of (fun _ q => XS.lxor X.here hx rfl hd rfl q) K
theorem Go.ldiv (X : Stand p l e R s m args below meth c T locs cells slots) (hx : p.tables.exec = Jvm.exec) {x y : Int64} (hd : decode c.code pc0 = .ok (.ldiv, 1)) (hpc : pc = pc0) (hy : y ≠ 0) (K : Go p e below P T (mkF m (pc0 + 1) Ls (.long (x / y) :: st))) : Go p e below P T (mkF m pc Ls (.long y :: .long x :: st)) := by
  subst hpc
  exact Go.of (fun _ q => XS.ldiv X.here hx rfl hd rfl hy q) K
theorem Go.lneg (X : Stand p l e R s m args below meth c T locs cells slots) (hx : p.tables.exec = Jvm.exec) {x : Int64} (hd : decode c.code pc0 = .ok (.lneg, 1)) (hpc : pc = pc0)  (K : Go p e below P T (mkF m (pc0 + 1) Ls (.long (-x) :: st))) : Go p e below P T (mkF m pc Ls (.long x :: st)) := by
  subst hpc
  exact Go.of (fun _ q => XS.lneg X.here hx rfl hd rfl q) K
theorem Go.irem (X : Stand p l e R s m args below meth c T locs cells slots) (hx : p.tables.exec = Jvm.exec) {x y : Int32} (hd : decode c.code pc0 = .ok (.irem, 1)) (hpc : pc = pc0) (hy : y ≠ 0) (K : Go p e below P T (mkF m (pc0 + 1) Ls (.int (x % y) :: st))) : Go p e below P T (mkF m pc Ls (.int y :: .int x :: st)) := by
  subst hpc
  exact Go.of (fun _ q => iremM X hx rfl hd rfl hy q) K
theorem Go.lrem (X : Stand p l e R s m args below meth c T locs cells slots) (hx : p.tables.exec = Jvm.exec) {x y : Int64} (hd : decode c.code pc0 = .ok (.lrem, 1)) (hpc : pc = pc0) (hy : y ≠ 0) (K : Go p e below P T (mkF m (pc0 + 1) Ls (.long (x - (x / y) * y) :: st))) : Go p e below P T (mkF m pc Ls (.long y :: .long x :: st)) := by
  subst hpc
  exact Go.of (fun _ q => XS.lrem X.here hx rfl hd rfl hy q) K
theorem Go.ishl (X : Stand p l e R s m args below meth c T locs cells slots) (hx : p.tables.exec = Jvm.exec) {x y : Int32} (hd : decode c.code pc0 = .ok (.ishl, 1)) (hpc : pc = pc0)  (K : Go p e below P T (mkF m (pc0 + 1) Ls (.int (x <<< (y &&& 31)) :: st))) : Go p e below P T (mkF m pc Ls (.int y :: .int x :: st)) := by
  subst hpc
  exact Go.of (fun _ q => XS.ishl X.here hx rfl hd rfl q) K
theorem Go.ishr (X : Stand p l e R s m args below meth c T locs cells slots) (hx : p.tables.exec = Jvm.exec) {x y : Int32} (hd : decode c.code pc0 = .ok (.ishr, 1)) (hpc : pc = pc0)  (K : Go p e below P T (mkF m (pc0 + 1) Ls (.int (x >>> (y &&& 31)) :: st))) : Go p e below P T (mkF m pc Ls (.int y :: .int x :: st)) := by
  subst hpc
  exact Go.of (fun _ q => XS.ishr X.here hx rfl hd rfl q) K
theorem Go.iushr (X : Stand p l e R s m args below meth c T locs cells slots) (hx : p.tables.exec = Jvm.exec) {x y : Int32} (hd : decode c.code pc0 = .ok (.iushr, 1)) (hpc : pc = pc0)  (K : Go p e below P T (mkF m (pc0 + 1) Ls (.int ((x.toUInt32 >>> (y &&& 31).toUInt32).toInt32) :: st))) : Go p e below P T (mkF m pc Ls (.int y :: .int x :: st)) := by
  subst hpc
  exact Go.of (fun _ q => XS.iushr X.here hx rfl hd rfl q) K
theorem Go.lshl (X : Stand p l e R s m args below meth c T locs cells slots) (hx : p.tables.exec = Jvm.exec) {x : Int64} {y : Int32} (hd : decode c.code pc0 = .ok (.lshl, 1)) (hpc : pc = pc0)  (K : Go p e below P T (mkF m (pc0 + 1) Ls (.long (x <<< (y &&& 0x3f).toInt64) :: st))) : Go p e below P T (mkF m pc Ls (.int y :: .long x :: st)) := by
  subst hpc
  exact Go.of (fun _ q => XS.lshl X.here hx rfl hd rfl q) K
theorem Go.lshr (X : Stand p l e R s m args below meth c T locs cells slots) (hx : p.tables.exec = Jvm.exec) {x : Int64} {y : Int32} (hd : decode c.code pc0 = .ok (.lshr, 1)) (hpc : pc = pc0)  (K : Go p e below P T (mkF m (pc0 + 1) Ls (.long (x >>> (y &&& 0x3f).toInt64) :: st))) : Go p e below P T (mkF m pc Ls (.int y :: .long x :: st)) := by
  subst hpc
  exact Go.of (fun _ q => XS.lshr X.here hx rfl hd rfl q) K
theorem Go.lushr (X : Stand p l e R s m args below meth c T locs cells slots) (hx : p.tables.exec = Jvm.exec) {x : Int64} {y : Int32} (hd : decode c.code pc0 = .ok (.lushr, 1)) (hpc : pc = pc0)  (K : Go p e below P T (mkF m (pc0 + 1) Ls (.long ((x.toUInt64 >>> (y &&& 0x3f).toInt64.toUInt64).toInt64) :: st))) : Go p e below P T (mkF m pc Ls (.int y :: .long x :: st)) := by
  subst hpc
  exact Go.of (fun _ q => XS.lushr X.here hx rfl hd rfl q) K
theorem Go.i2l (X : Stand p l e R s m args below meth c T locs cells slots) (hx : p.tables.exec = Jvm.exec) {x : Int32} (hd : decode c.code pc0 = .ok (.i2l, 1)) (hpc : pc = pc0)  (K : Go p e below P T (mkF m (pc0 + 1) Ls (.long x.toInt64 :: st))) : Go p e below P T (mkF m pc Ls (.int x :: st)) := by
  subst hpc
  exact Go.of (fun _ q => XS.i2l X.here hx rfl hd rfl q) K
theorem Go.l2i (X : Stand p l e R s m args below meth c T locs cells slots) (hx : p.tables.exec = Jvm.exec) {x : Int64} (hd : decode c.code pc0 = .ok (.l2i, 1)) (hpc : pc = pc0)  (K : Go p e below P T (mkF m (pc0 + 1) Ls (.int x.toInt32 :: st))) : Go p e below P T (mkF m pc Ls (.long x :: st)) := by
  subst hpc
  exact Go.of (fun _ q => XS.l2i X.here hx rfl hd rfl q) K
theorem Go.i2b (X : Stand p l e R s m args below meth c T locs cells slots) (hx : p.tables.exec = Jvm.exec) {x : Int32} (hd : decode c.code pc0 = .ok (.i2b, 1)) (hpc : pc = pc0)  (K : Go p e below P T (mkF m (pc0 + 1) Ls (.int x.toInt8.toInt32 :: st))) : Go p e below P T (mkF m pc Ls (.int x :: st)) := by
  subst hpc
  exact Go.of (fun _ q => XS.i2b X.here hx rfl hd rfl q) K
theorem Go.i2s (X : Stand p l e R s m args below meth c T locs cells slots) (hx : p.tables.exec = Jvm.exec) {x : Int32} (hd : decode c.code pc0 = .ok (.i2s, 1)) (hpc : pc = pc0)  (K : Go p e below P T (mkF m (pc0 + 1) Ls (.int x.toInt16.toInt32 :: st))) : Go p e below P T (mkF m pc Ls (.int x :: st)) := by
  subst hpc
  exact Go.of (fun _ q => XS.i2s X.here hx rfl hd rfl q) K
theorem Go.i2c (X : Stand p l e R s m args below meth c T locs cells slots) (hx : p.tables.exec = Jvm.exec) {x : Int32} (hd : decode c.code pc0 = .ok (.i2c, 1)) (hpc : pc = pc0)  (K : Go p e below P T (mkF m (pc0 + 1) Ls (.int x.toUInt32.toUInt16.toUInt32.toInt32 :: st))) : Go p e below P T (mkF m pc Ls (.int x :: st)) := by
  subst hpc
  exact Go.of (fun _ q => XS.i2c X.here hx rfl hd rfl q) K
theorem Go.lcmp (X : Stand p l e R s m args below meth c T locs cells slots) (hx : p.tables.exec = Jvm.exec) {x y : Int64} (hd : decode c.code pc0 = .ok (.lcmp, 1)) (hpc : pc = pc0)  (K : Go p e below P T (mkF m (pc0 + 1) Ls (.int (lcmpW x y) :: st))) : Go p e below P T (mkF m pc Ls (.long y :: .long x :: st)) := by
  subst hpc
  exact Go.of (fun _ q => XS.lcmp X.here hx rfl hd rfl q) K
theorem Go.dup (X : Stand p l e R s m args below meth c T locs cells slots) (hx : p.tables.exec = Jvm.exec) {x : Value} (hd : decode c.code pc0 = .ok (.dup, 1)) (hpc : pc = pc0) (hc : x.category = 1) (K : Go p e below P T (mkF m (pc0 + 1) Ls (x :: x :: st))) : Go p e below P T (mkF m pc Ls (x :: st)) := by
  subst hpc
  exact Go.of (fun _ q => XS.dup X.here hx rfl hd rfl hc q) K
theorem Go.dupX1 (X : Stand p l e R s m args below meth c T locs cells slots) (hx : p.tables.exec = Jvm.exec) {x y : Value} (hd : decode c.code pc0 = .ok (.dup_x1, 1)) (hpc : pc = pc0) (hc : x.category = 1) (hc' : y.category = 1) (K : Go p e below P T (mkF m (pc0 + 1) Ls (x :: y :: x :: st))) : Go p e below P T (mkF m pc Ls (x :: y :: st)) := by
  subst hpc
  exact Go.of (fun _ q => XS.dupX1 X.here hx rfl hd rfl hc hc' q) K
theorem Go.dup2 (X : Stand p l e R s m args below meth c T locs cells slots) (hx : p.tables.exec = Jvm.exec) {x y : Value} (hd : decode c.code pc0 = .ok (.dup2, 1)) (hpc : pc = pc0) (hc : x.category = 1) (hc' : y.category = 1) (K : Go p e below P T (mkF m (pc0 + 1) Ls (x :: y :: x :: y :: st))) : Go p e below P T (mkF m pc Ls (x :: y :: st)) := by
  subst hpc
  exact Go.of (fun _ q => XT.dup2 X.here hx rfl hd rfl hc hc' q) K
theorem Go.pop (X : Stand p l e R s m args below meth c T locs cells slots) (hx : p.tables.exec = Jvm.exec) {x : Value} (hd : decode c.code pc0 = .ok (.pop, 1)) (hpc : pc = pc0) (hc : x.category = 1) (K : Go p e below P T (mkF m (pc0 + 1) Ls (st))) : Go p e below P T (mkF m pc Ls (x :: st)) := by
  subst hpc
  exact Go.of (fun _ q => XS.pop X.here hx rfl hd rfl hc q) K
theorem Go.iinc (X : Stand p l e R s m args below meth c T locs cells slots) (hx : p.tables.exec = Jvm.exec) {k : Nat} {cst : Int} {x : Int32} (hd : decode c.code pc0 = .ok (.iinc k cst, 3)) (hpc : pc = pc0) (hl : Ls[k]? = some (.val (.int x))) (l' : Array Slot) (hl' : storeLocals Ls k (.int (x + Int32.ofInt cst)) = some l') (K : Go p e below P T (mkF m (pc0 + 3) l' (st))) : Go p e below P T (mkF m pc Ls (st)) := by
  subst hpc
  exact Go.of (fun _ q => XS.iinc X.here hx rfl hd hl hl' q) K
theorem Go.goto (X : Stand p l e R s m args below meth c T locs cells slots) (hx : p.tables.exec = Jvm.exec)  {o : Int} (hd : decode c.code pc0 = .ok (.goto o, 3)) (hpc : pc = pc0) (pc' : Nat)  (ho : 0 ≤ (pc0 : Int) + o) (hp : ((pc0 : Int) + o).toNat = pc') (K : Go p e below P T (mkF m pc' Ls st)) : Go p e below P T (mkF m pc Ls (st)) := by
  subst hpc
  exact Go.of (fun _ q => XS.goto X.here hx rfl rfl hd ho hp q) K
theorem Go.ifYes (X : Stand p l e R s m args below meth c T locs cells slots) (hx : p.tables.exec = Jvm.exec) {cd : ClassFile.Cond} {x : Int32} {o : Int} (hd : decode c.code pc0 = .ok (.ifCond cd o, 3)) (hpc : pc = pc0) (pc' : Nat) (hc : ifCond.holds cd x = true) (ho : 0 ≤ (pc0 : Int) + o) (hp : ((pc0 : Int) + o).toNat = pc') (K : Go p e below P T (mkF m pc' Ls st)) : Go p e below P T (mkF m pc Ls (.int x :: st)) := by
  subst hpc
  exact Go.of (fun _ q => XS.ifYes X.here hx rfl rfl hd rfl hc ho hp q) K
theorem Go.icmpYes (X : Stand p l e R s m args below meth c T locs cells slots) (hx : p.tables.exec = Jvm.exec) {cd : ClassFile.Cond} {x y : Int32} {o : Int} (hd : decode c.code pc0 = .ok (.if_icmp cd o, 3)) (hpc : pc = pc0) (pc' : Nat) (hc : if_icmp.holds cd x y = true) (ho : 0 ≤ (pc0 : Int) + o) (hp : ((pc0 : Int) + o).toNat = pc') (K : Go p e below P T (mkF m pc' Ls st)) : Go p e below P T (mkF m pc Ls (.int y :: .int x :: st)) := by
  subst hpc
  exact Go.of (fun _ q => XS.icmpYes X.here hx rfl rfl hd rfl hc ho hp q) K
theorem Go.ifnullYes (X : Stand p l e R s m args below meth c T locs cells slots) (hx : p.tables.exec = Jvm.exec)  {o : Int} (hd : decode c.code pc0 = .ok (.ifnull o, 3)) (hpc : pc = pc0) (pc' : Nat)  (ho : 0 ≤ (pc0 : Int) + o) (hp : ((pc0 : Int) + o).toNat = pc') (K : Go p e below P T (mkF m pc' Ls st)) : Go p e below P T (mkF m pc Ls (.null :: st)) := by
  subst hpc
  exact Go.of (fun _ q => XS.ifnullYes X.here hx rfl rfl hd rfl ho hp q) K
theorem Go.ifnonnullYes (X : Stand p l e R s m args below meth c T locs cells slots) (hx : p.tables.exec = Jvm.exec) {b : Addr} {o : Int} (hd : decode c.code pc0 = .ok (.ifnonnull o, 3)) (hpc : pc = pc0) (pc' : Nat)  (ho : 0 ≤ (pc0 : Int) + o) (hp : ((pc0 : Int) + o).toNat = pc') (K : Go p e below P T (mkF m pc' Ls st)) : Go p e below P T (mkF m pc Ls (.ref b :: st)) := by
  subst hpc
  exact Go.of (fun _ q => XS.ifnonnullYes X.here hx rfl rfl hd rfl ho hp q) K
theorem Go.ifNo (X : Stand p l e R s m args below meth c T locs cells slots) (hx : p.tables.exec = Jvm.exec) {cd : ClassFile.Cond} {o : Int} {x : Int32} (hd : decode c.code pc0 = .ok (.ifCond cd o, 3)) (hpc : pc = pc0) (hc : ifCond.holds cd x = false) (K : Go p e below P T (mkF m (pc0 + 3) Ls (st))) : Go p e below P T (mkF m pc Ls (.int x :: st)) := by
  subst hpc
  exact Go.of (fun _ q => XS.ifNo X.here hx rfl hd rfl hc q) K
theorem Go.icmpNo (X : Stand p l e R s m args below meth c T locs cells slots) (hx : p.tables.exec = Jvm.exec) {cd : ClassFile.Cond} {o : Int} {x y : Int32} (hd : decode c.code pc0 = .ok (.if_icmp cd o, 3)) (hpc : pc = pc0) (hc : if_icmp.holds cd x y = false) (K : Go p e below P T (mkF m (pc0 + 3) Ls (st))) : Go p e below P T (mkF m pc Ls (.int y :: .int x :: st)) := by
  subst hpc
  exact Go.of (fun _ q => XS.icmpNo X.here hx rfl hd rfl hc q) K
theorem Go.ifnullNo (X : Stand p l e R s m args below meth c T locs cells slots) (hx : p.tables.exec = Jvm.exec) {o : Int} {b : Addr} (hd : decode c.code pc0 = .ok (.ifnull o, 3)) (hpc : pc = pc0)  (K : Go p e below P T (mkF m (pc0 + 3) Ls (st))) : Go p e below P T (mkF m pc Ls (.ref b :: st)) := by
  subst hpc
  exact Go.of (fun _ q => XS.ifnullNo X.here hx rfl hd rfl q) K
theorem Go.ifnonnullNo (X : Stand p l e R s m args below meth c T locs cells slots) (hx : p.tables.exec = Jvm.exec) {o : Int} (hd : decode c.code pc0 = .ok (.ifnonnull o, 3)) (hpc : pc = pc0)  (K : Go p e below P T (mkF m (pc0 + 3) Ls (st))) : Go p e below P T (mkF m pc Ls (.null :: st)) := by
  subst hpc
  exact Go.of (fun _ q => XS.ifnonnullNo X.here hx rfl hd rfl q) K
theorem Go.acmp (X : Stand p l e R s m args below meth c T locs cells slots) (hx : p.tables.exec = Jvm.exec) {cd : ACond} {x y : Value} {o : Int} (hd : decode c.code pc0 = .ok (.if_acmp cd o, 3)) (hpc : pc = pc0) (h1 : x.isRef = true) (h2 : y.isRef = true) (same : Bool) (hq : decide (x = y) = same) (pc' : Nat) (ho : 0 ≤ (pc0 : Int) + o) (hp : pc' = if acV cd same = true then ((pc0 : Int) + o).toNat else pc0 + 3) (K : Go p e below P T (mkF m pc' Ls st)) : Go p e below P T (mkF m pc Ls (y :: x :: st)) := by
  subst hpc
  exact Go.of (fun _ q => Jvm.RoadKit.acmp X hx rfl h1 h2 rfl hd rfl hq ho hp q) K
theorem Go.tswIn (X : Stand p l e R s m args below meth c T locs cells slots) (hx : p.tables.exec = Jvm.exec) {dflt low high : Int} {offs : Array Int} {len : Nat} {o : Int} {i : Int32} (hd : decode c.code pc0 = .ok (.tableswitch dflt low high offs, len)) (hpc : pc = pc0) (pc' : Nat) (hin : ¬ (i.toInt < low ∨ i.toInt > high)) (hoff : offs[(i.toInt - low).toNat]? = some o) (ho : 0 ≤ (pc0 : Int) + o) (hp : ((pc0 : Int) + o).toNat = pc') (K : Go p e below P T (mkF m pc' Ls st)) : Go p e below P T (mkF m pc Ls (.int i :: st)) := by
  subst hpc
  exact Go.of (fun _ q => XS.tswIn X.here hx rfl rfl hd rfl hin hoff ho hp q) K
theorem Go.ldc (X : Stand p l e R s m args below meth c T locs cells slots) (hx : p.tables.exec = Jvm.exec) (hZ : Z.Warmed39 s.vm) {own : String} {index : Nat} (hown : s.vm.findClass own = some m.cls) {v : Int32} (w : (Cond.constant own index v).before a0 Z = true) (hd : decode c.code pc0 = .ok (.ldc index, 2)) (hpc : pc = pc0) (K : Go p e below P T (mkF m (pc0 + 2) Ls (.int v :: st))) : Go p e below P T (mkF m pc Ls st) := by
  subst hpc
  exact Go.of (fun _ q => X.ldcInt hx hown (mvT hZ w) (g := mkF m pc Ls st) rfl hd _ q) K
theorem Go.ldc_w (X : Stand p l e R s m args below meth c T locs cells slots) (hx : p.tables.exec = Jvm.exec) (hZ : Z.Warmed39 s.vm) {own : String} {index : Nat} (hown : s.vm.findClass own = some m.cls) {v : Int32} (w : (Cond.constant own index v).before a0 Z = true) (hd : decode c.code pc0 = .ok (.ldc_w index, 3)) (hpc : pc = pc0) (K : Go p e below P T (mkF m (pc0 + 3) Ls (.int v :: st))) : Go p e below P T (mkF m pc Ls st) := by
  subst hpc
  exact Go.of (fun _ q => X.ldcwInt hx hown (mvT hZ w) (g := mkF m pc Ls st) rfl hd _ q) K
theorem Go.ldc2_w (X : Stand p l e R s m args below meth c T locs cells slots) (hx : p.tables.exec = Jvm.exec) (hZ : Z.Warmed39 s.vm) {own : String} {index : Nat} (hown : s.vm.findClass own = some m.cls) {v : Int64} (w : (Cond.constantLong own index v).before a0 Z = true) (hd : decode c.code pc0 = .ok (.ldc2_w index, 3)) (hpc : pc = pc0) (K : Go p e below P T (mkF m (pc0 + 3) Ls (.long v :: st))) : Go p e below P T (mkF m pc Ls st) := by
  subst hpc
  exact Go.of (fun _ q => X.ldc2Long hx hown (mvT hZ w) (g := mkF m pc Ls st) rfl hd _ q) K
theorem Go.getS (X : Stand p l e R s m args below meth c T locs cells slots) (hx : p.tables.exec = Jvm.exec) (hZ : Z.Warmed39 s.vm) {own : String} {index : Nat} (hown : s.vm.findClass own = some m.cls) {R0 O n d host : String} {v : Value} (w : (Cond.fieldLink own index R0 n d).before a0 Z = true ∨ (Cond.fieldLinkNest own index R0 n d host).before a0 Z = true) (via : Via Z R0 O n d) (eT : T.heap = h) (F : Sta Z h O n d v) (hd : decode c.code pc0 = .ok (.getstatic index, 3)) (hpc : pc = pc0) (K : ∀ T', Stand p l e R s m args below meth c T' locs cells slots → T'.heap = h → Go p e below P T' (mkF m (pc0 + 3) Ls (v :: st))) : Go p e below P T (mkF m pc Ls st) := by
  subst hpc
  obtain ⟨T', X', e', q⟩ := getS2 X hx hZ hown w via eT F (g := mkF m pc Ls st) rfl hd
  exact Go.of q (K T' X' e')
theorem Go.getF (X : Stand p l e R s m args below meth c T locs cells slots) (hx : p.tables.exec = Jvm.exec) (hZ : Z.Warmed39 s.vm) {own : String} {index : Nat} (hown : s.vm.findClass own = some m.cls) {R0 O n d host : String} {a : Addr} {v : Value} (w : (Cond.fieldLink own index R0 n d).before a0 Z = true ∨ (Cond.fieldLinkNest own index R0 n d host).before a0 Z = true) (via : Via Z R0 O n d) (eT : T.heap = h) (F : Fld Z h a O n d v) (hd : decode c.code pc0 = .ok (.getfield index, 3)) (hpc : pc = pc0) (K : ∀ T', Stand p l e R s m args below meth c T' locs cells slots → T'.heap = h → Go p e below P T' (mkF m (pc0 + 3) Ls (v :: st))) : Go p e below P T (mkF m pc Ls (.ref a :: st)) := by
  subst hpc
  obtain ⟨T', X', e', q⟩ := Jvm.RoadKit.getF X hx hZ hown w via eT F (g := mkF m pc Ls (.ref a :: st)) rfl rfl hd
  exact Go.of q (K T' X' e')
theorem Go.putF (X : Stand p l e R s m args below meth c T locs cells slots) (hx : p.tables.exec = Jvm.exec) (hZ : Z.Warmed39 s.vm) {own : String} {index : Nat} (hown : s.vm.findClass own = some m.cls) {R0 O n d host C : String} {kk : Nat} {a : Addr} {v old : Value} {ty : FieldType} (w : (Cond.fieldLink own index R0 n d).before a0 Z = true ∨ (Cond.fieldLinkNest own index R0 n d host).before a0 Z = true) (via : Via Z R0 O n d) (eT : T.heap = h) (F : Fld Z h a O n d old) (E : Exa Z h a C) (L : (Cond.lays C O n d).before a0 Z = true ∨ ((Cond.laysFinal C O n d).before a0 Z = true ∧ own = O ∧ meth.name = "<init>")) (wi : (Cond.instantiable C kk).before a0 Z = true) (hty : parseFieldDescriptor d = some ty) (hn : narrow ty v = v) (hf : fits ty v = true) (hd : decode c.code pc0 = .ok (.putfield index, 3)) (hpc : pc = pc0)
    (K : ∀ T' h', Stand p l e R s m args below meth c T' (locs ++ [⟨a, Jvm.RoadKit.slotOf Z O n d⟩]) cells slots → T'.heap = h' → Wr h h' a (Jvm.RoadKit.slotOf Z O n d) v → Fld Z h' a O n d v → Go p e below P T' (mkF m (pc0 + 3) Ls st)) : Go p e below P T (mkF m pc Ls (v :: .ref a :: st)) := by
  subst hpc
  obtain ⟨T', h', X', e', W, q⟩ := Jvm.RoadKit.putF X hx hZ hown w via eT F E L wi hty hn hf (g := mkF m pc Ls (v :: .ref a :: st)) rfl rfl hd
  exact Go.of q (K T' h' X' e' W (F.same W))
theorem Go.newO (X : Stand p l e R s m args below meth c T locs cells slots) (hx : p.tables.exec = Jvm.exec) (hZ : Z.Warmed39 s.vm) {own : String} {index : Nat} (hown : s.vm.findClass own = some m.cls) {C : String} {n : Nat} (w : (Cond.classLink own index C).before a0 Z = true) (wi : (Cond.instantiable C n).before a0 Z = true) (wz : (Cond.initialized C).before a0 Z = true) (eT : T.heap = h) (hd : decode c.code pc0 = .ok (.new index, 3)) (hpc : pc = pc0) (hc : cells + 1 ≤ R.cells) (hl : slots + n ≤ R.slots)
    (K : ∀ T' h' b, b = h.size → Stand p l e R s m args below meth c T' locs (cells + 1) (slots + n) → T'.heap = h' → Ext h h' → Exa Z h' b C → (∀ {O nm d : String} {ty : FieldType}, Laid Z a0 C O nm d → parseFieldDescriptor d = some ty → Fld Z h' b O nm d (defaultValue ty)) → Go p e below P T' (mkF m (pc0 + 3) Ls (.ref b :: st))) : Go p e below P T (mkF m pc Ls st) := by
  subst hpc
  obtain ⟨T', h', X', e', E, A, D, -, q⟩ := Jvm.RoadKit.newO X hx hZ hown w wi wz eT (g := mkF m pc Ls st) rfl hd hc hl
  exact Go.of q (K T' h' _ rfl X' e' E A D)
theorem Go.initO (X : Stand p l e R s m args below meth c T locs cells slots) (hx : p.tables.exec = Jvm.exec) (hZ : Z.Warmed39 s.vm) {own : String} {index : Nat} (hown : s.vm.findClass own = some m.cls) (w1 : (Cond.methodLink own index Lib.objectInit).before a0 Z = true) (w2 : (Cond.instanceMethod Lib.objectInit).before a0 Z = true) (w3 : (Cond.code Lib.objectInit ⟨#[0xb1]⟩ 1 none).before a0 Z = true) (eT : T.heap = h) (hsz : Ls.size = c.maxLocals) {a : Addr} (hd : decode c.code pc0 = .ok (.invokespecial index, 3)) (hpc : pc = pc0) (hf : 1 ≤ R.frames) (hl : (st.map fun v => v.category).sum + 12 ≤ R.locals) (K : ∀ T', Stand p l e R s m args below meth c T' locs cells slots → T'.heap = h → Go p e below P T' (mkF m (pc0 + 3) Ls (st))) : Go p e below P T (mkF m pc Ls (.ref a :: st)) := by
  subst hpc
  obtain ⟨T', X', e', q⟩ := Jvm.RoadKit.initO X hx hZ hown w1 w2 w3 eT (g := mkF m pc Ls (.ref a :: st)) rfl hsz rfl hd hf (W := (st.map fun v => v.category).sum) (by show 2 * 0 + _ ≤ _; omega) hl
  exact Go.of q (K T' X' e')
theorem Go.alen (X : Stand p l e R s m args below meth c T locs cells slots) (hx : p.tables.exec = Jvm.exec) (hZ : Z.Warmed39 s.vm) {a : Addr} {k : ClassId} {ty : FieldType} {n : Int32} {vs : List Value} {dv : Value} (A : Arv Z h a k ty n vs dv) (eT : T.heap = h) (hd : decode c.code pc0 = .ok (.arraylength, 1)) (hpc : pc = pc0) (K : Go p e below P T (mkF m (pc0 + 1) Ls (.int n :: st))) : Go p e below P T (mkF m pc Ls (.ref a :: st)) := by
  subst hpc
  obtain ⟨cl, Ar, -, Sz, Ng, -, -⟩ := A
  refine Go.of (fun _ q => X.arraylength hx (by rw [eT]; exact Ar.1) (State.isArrayOf_alike hZ.alike Ar.2.1) (g := mkF m pc Ls (.ref a :: st)) rfl rfl hd _ q) ?_
  rw [len_of Sz Ng]
  exact K
theorem Go.iaload (X : Stand p l e R s m args below meth c T locs cells slots) (hx : p.tables.exec = Jvm.exec) (hZ : Z.Warmed39 s.vm) {a : Addr} {k : ClassId} {n : Int32} {vs : List Value} {dv : Value} {j : Int32} (v : Value) (A : Arv Z h a k .int n vs dv) (eT : T.heap = h) (hj : ¬ j < 0 ∧ j < n) (hv : vs.getD j.toNatClampNeg dv = v) (hd : decode c.code pc0 = .ok (.iaload, 1)) (hpc : pc = pc0) (K : Go p e below P T (mkF m (pc0 + 1) Ls (v :: st))) : Go p e below P T (mkF m pc Ls (.int j :: .ref a :: st)) := by
  subst hpc
  obtain ⟨cl, Ar, -, Sz, Ng, Hs, -⟩ := A
  have hin : ¬ (j < 0 ∨ cl.slots.size ≤ j.toNatClampNeg) := inb_of Sz hj
  exact Go.of (fun _ q => X.iaload hx (j := j) (v := v) (by rw [eT]; exact Ar.1) (State.isArrayOf_alike hZ.alike Ar.2.1) Ar.2.2 hin (Has.at Hs hin hv) (g := mkF m pc Ls (.int j :: .ref a :: st)) rfl rfl hd _ q) K
theorem Go.laload (X : Stand p l e R s m args below meth c T locs cells slots) (hx : p.tables.exec = Jvm.exec) (hZ : Z.Warmed39 s.vm) {a : Addr} {k : ClassId} {n : Int32} {vs : List Value} {dv : Value} {j : Int32} (v : Value) (A : Arv Z h a k .long n vs dv) (eT : T.heap = h) (hj : ¬ j < 0 ∧ j < n) (hv : vs.getD j.toNatClampNeg dv = v) (hd : decode c.code pc0 = .ok (.laload, 1)) (hpc : pc = pc0) (K : Go p e below P T (mkF m (pc0 + 1) Ls (v :: st))) : Go p e below P T (mkF m pc Ls (.int j :: .ref a :: st)) := by
  subst hpc
  obtain ⟨cl, Ar, -, Sz, Ng, Hs, -⟩ := A
  have hin : ¬ (j < 0 ∨ cl.slots.size ≤ j.toNatClampNeg) := inb_of Sz hj
  exact Go.of (fun _ q => X.laload hx (j := j) (v := v) (by rw [eT]; exact Ar.1) (State.isArrayOf_alike hZ.alike Ar.2.1) Ar.2.2 hin (Has.at Hs hin hv) (g := mkF m pc Ls (.int j :: .ref a :: st)) rfl rfl hd _ q) K
theorem Go.aaload (X : Stand p l e R s m args below meth c T locs cells slots) (hx : p.tables.exec = Jvm.exec) (hZ : Z.Warmed39 s.vm) {a : Addr} {k : ClassId} {ty : FieldType} {n : Int32} {vs : List Value} {dv : Value} {j : Int32} (v : Value) (A : Arv Z h a k ty n vs dv) (eT : T.heap = h) (hty : ty.isReference = true) (hj : ¬ j < 0 ∧ j < n) (hv : vs.getD j.toNatClampNeg dv = v) (hd : decode c.code pc0 = .ok (.aaload, 1)) (hpc : pc = pc0) (K : Go p e below P T (mkF m (pc0 + 1) Ls (v :: st))) : Go p e below P T (mkF m pc Ls (.int j :: .ref a :: st)) := by
  subst hpc
  obtain ⟨cl, Ar, -, Sz, Ng, Hs, -⟩ := A
  have hin : ¬ (j < 0 ∨ cl.slots.size ≤ j.toNatClampNeg) := inb_of Sz hj
  exact Go.of (fun _ q => X.aaload hx (j := j) (v := v) (by rw [eT]; exact Ar.1) (State.isArrayOf_alike hZ.alike Ar.2.1) hty Ar.2.2 hin (Has.at Hs hin hv) (g := mkF m pc Ls (.int j :: .ref a :: st)) rfl rfl hd _ q) K
theorem Go.iastore (X : Stand p l e R s m args below meth c T locs cells slots) (hx : p.tables.exec = Jvm.exec) (hZ : Z.Warmed39 s.vm) {a : Addr} {k : ClassId} {n : Int32} {vs : List Value} {dv : Value} {j : Int32} {x : Int32} (A : Arv Z h a k .int n vs dv) (eT : T.heap = h) (hj : ¬ j < 0 ∧ j < n) (i : Nat) (hi : j.toNatClampNeg = i) (hl : i < vs.length) (hd : decode c.code pc0 = .ok (.iastore, 1)) (hpc : pc = pc0)
    (K : ∀ T' h', Stand p l e R s m args below meth c T' (locs ++ [⟨a, j.toNatClampNeg⟩]) cells slots → T'.heap = h' → Wr h h' a j.toNatClampNeg (.int x) → Arv Z h' a k .int n (vs.set i (.int x)) dv → Go p e below P T' (mkF m (pc0 + 1) Ls st)) : Go p e below P T (mkF m pc Ls (.int x :: .int j :: .ref a :: st)) := by
  subst hpc
  obtain ⟨cl, Ar, cq, Sz, Ng, Hs, Gs⟩ := A
  have hin : ¬ (j < 0 ∨ cl.slots.size ≤ j.toNatClampNeg) := inb_of Sz hj
  obtain ⟨T', h', X', e', W, q⟩ := stI X hx hZ eT Ar (j := j) hin (g := mkF m pc Ls (.int x :: .int j :: .ref a :: st)) rfl rfl hd
  exact Go.of q (K T' h' X' e' W (Arv.set Ar cq Sz Ng Hs Gs rfl W i hi hl))
theorem Go.lastore (X : Stand p l e R s m args below meth c T locs cells slots) (hx : p.tables.exec = Jvm.exec) (hZ : Z.Warmed39 s.vm) {a : Addr} {k : ClassId} {n : Int32} {vs : List Value} {dv : Value} {j : Int32} {x : Int64} (A : Arv Z h a k .long n vs dv) (eT : T.heap = h) (hj : ¬ j < 0 ∧ j < n) (i : Nat) (hi : j.toNatClampNeg = i) (hl : i < vs.length) (hd : decode c.code pc0 = .ok (.lastore, 1)) (hpc : pc = pc0)
    (K : ∀ T' h', Stand p l e R s m args below meth c T' (locs ++ [⟨a, j.toNatClampNeg⟩]) cells slots → T'.heap = h' → Wr h h' a j.toNatClampNeg (.long x) → Arv Z h' a k .long n (vs.set i (.long x)) dv → Go p e below P T' (mkF m (pc0 + 1) Ls st)) : Go p e below P T (mkF m pc Ls (.long x :: .int j :: .ref a :: st)) := by
  subst hpc
  obtain ⟨cl, Ar, cq, Sz, Ng, Hs, Gs⟩ := A
  have hin : ¬ (j < 0 ∨ cl.slots.size ≤ j.toNatClampNeg) := inb_of Sz hj
  obtain ⟨T', h', X', e', W, q⟩ := stJ X hx hZ eT Ar (j := j) hin (g := mkF m pc Ls (.long x :: .int j :: .ref a :: st)) rfl rfl hd
  exact Go.of q (K T' h' X' e' W (Arv.set Ar cq Sz Ng Hs Gs rfl W i hi hl))
theorem Go.aastore (X : Stand p l e R s m args below meth c T locs cells slots) (hx : p.tables.exec = Jvm.exec) (hZ : Z.Warmed39 s.vm) {a : Addr} {k : ClassId} {ty : FieldType} {n : Int32} {vs : List Value} {dv : Value} {j : Int32} {v : Value} (A : Arv Z h a k ty n vs dv) (eT : T.heap = h) (hj : ¬ j < 0 ∧ j < n) (i : Nat) (hi : j.toNatClampNeg = i) (hl : i < vs.length) (hty : ty.isReference = true) (hfv : fits ty v = true) (F : ∀ cl, Arr Z h a cl ty → cl.cls = k → Sto Z h a v) (hd : decode c.code pc0 = .ok (.aastore, 1)) (hpc : pc = pc0)
    (K : ∀ T' h', Stand p l e R s m args below meth c T' (locs ++ [⟨a, j.toNatClampNeg⟩]) cells slots → T'.heap = h' → Wr h h' a j.toNatClampNeg (v) → Arv Z h' a k ty n (vs.set i (v)) dv → Go p e below P T' (mkF m (pc0 + 1) Ls st)) : Go p e below P T (mkF m pc Ls (v :: .int j :: .ref a :: st)) := by
  subst hpc
  obtain ⟨cl, Ar, cq, Sz, Ng, Hs, Gs⟩ := A
  have hin : ¬ (j < 0 ∨ cl.slots.size ≤ j.toNatClampNeg) := inb_of Sz hj
  obtain ⟨T', h', X', e', W, q⟩ := stR X hx hZ eT Ar (j := j) hin hty (F cl Ar cq) (g := mkF m pc Ls (v :: .int j :: .ref a :: st)) rfl rfl hd
  exact Go.of q (K T' h' X' e' W (Arv.set Ar cq Sz Ng Hs Gs hfv W i hi hl))
theorem Go.newP (X : Stand p l e R s m args below meth c T locs cells slots) (hx : p.tables.exec = Jvm.exec) (hZ : Z.Warmed39 s.vm) {aty : ArrayType} {n : Int32} (w : (Cond.arrayClass (newarray.typeOf aty)).before a0 Z = true) (eT : T.heap = h) (u : Nat) (hn : ¬ n < 0) (cap : Nat) (hcap : n.toNatClampNeg ≤ cap) (hb : cap * 8 ≤ 536870912) (hc : cells + 1 ≤ R.cells) (hl : slots + cap ≤ R.slots) (ad : String) (had : "[" ++ (newarray.typeOf aty).toString = ad) (hd : decode c.code pc0 = .ok (.newarray aty, 2)) (hpc : pc = pc0)
    (K : ∀ T' h' b k, b = h.size → Stand p l e R s m args below meth c T' locs (cells + 1) (slots + cap) → T'.heap = h' → Ext h h' → Arv Z h' b k (newarray.typeOf aty) n ([] ++ List.replicate u (defaultValue (newarray.typeOf aty))) (defaultValue (newarray.typeOf aty)) → Exa Z h' b ad → Go p e below P T' (mkF m (pc0 + 2) Ls (.ref b :: st))) : Go p e below P T (mkF m pc Ls (.int n :: st)) := by
  subst hpc
  obtain ⟨T', h', cA, X', e', E, A, A', q⟩ := newPE X hx hZ w eT (g := mkF m pc Ls (.int n :: st)) rfl hd rfl hn (cap := cap) hcap hb hc hl had
  exact Go.of q (K T' h' _ cA rfl X' e' E ((Arv.new A hn).pad (pad_rep [] _ u)) A')
theorem Go.newR (X : Stand p l e R s m args below meth c T locs cells slots) (hx : p.tables.exec = Jvm.exec) (hZ : Z.Warmed39 s.vm) {own : String} {index : Nat} (hown : s.vm.findClass own = some m.cls) {C : String} {n : Int32} (w1 : (Cond.classLink own index C).before a0 Z = true) (w2 : (Cond.arrayOver (.object C)).before a0 Z = true) (eT : T.heap = h) (u : Nat) (hn : ¬ n < 0) (cap : Nat) (hcap : n.toNatClampNeg ≤ cap) (hb : cap * 8 ≤ 536870912) (hc : cells + 1 ≤ R.cells) (hl : slots + cap ≤ R.slots) (hd : decode c.code pc0 = .ok (.anewarray index, 3)) (hpc : pc = pc0)
    (K : ∀ T' h' b k, b = h.size → Stand p l e R s m args below meth c T' locs (cells + 1) (slots + cap) → T'.heap = h' → Ext h h' → Arv Z h' b k (.object C) n ([] ++ List.replicate u (.null)) (.null) → Ovr Z k C → Go p e below P T' (mkF m (pc0 + 3) Ls (.ref b :: st))) : Go p e below P T (mkF m pc Ls (.int n :: st)) := by
  subst hpc
  obtain ⟨T', h', cA, X', e', E, A, O, q⟩ := Jvm.RoadKit.newR X hx hZ hown w1 w2 eT (g := mkF m pc Ls (.int n :: st)) rfl hd rfl hn (cap := cap) hcap hb hc hl
  exact Go.of q (K T' h' _ cA rfl X' e' E ((Arv.new A hn).pad (pad_rep [] _ u)) O)
theorem Go.newRA (X : Stand p l e R s m args below meth c T locs cells slots) (hx : p.tables.exec = Jvm.exec) (hZ : Z.Warmed39 s.vm) {own : String} {index : Nat} (hown : s.vm.findClass own = some m.cls) {C : String} {ty : FieldType} {n : Int32} (hC : (FieldType.array ty).toString = C) (w1 : (Cond.classLink own index C).before a0 Z = true) (w2 : (Cond.arrayOver (.array ty)).before a0 Z = true) (eT : T.heap = h) (u : Nat) (hn : ¬ n < 0) (cap : Nat) (hcap : n.toNatClampNeg ≤ cap) (hb : cap * 8 ≤ 536870912) (hc : cells + 1 ≤ R.cells) (hl : slots + cap ≤ R.slots) (hd : decode c.code pc0 = .ok (.anewarray index, 3)) (hpc : pc = pc0)
    (K : ∀ T' h' b k, b = h.size → Stand p l e R s m args below meth c T' locs (cells + 1) (slots + cap) → T'.heap = h' → Ext h h' → Arv Z h' b k (.array ty) n ([] ++ List.replicate u (.null)) (.null) → OvrA Z k ty C → Go p e below P T' (mkF m (pc0 + 3) Ls (.ref b :: st))) : Go p e below P T (mkF m pc Ls (.int n :: st)) := by
  subst hpc
  obtain ⟨T', h', cA, X', e', E, A, -, O, q⟩ := Jvm.RoadKit.newRA X hx hZ hown hC w1 w2 eT (g := mkF m pc Ls (.int n :: st)) rfl hd rfl hn (cap := cap) hcap hb hc hl rfl
  exact Go.of q (K T' h' _ cA rfl X' e' E ((Arv.new A hn).pad (pad_rep [] _ u)) O)
end OwnSteps
theorem own_i32 {k n : Int32} {v : Int} (h : k.toInt = v) (hv : n.toInt = v) : k = n := Int32.toInt_inj.mp (h.trans hv.symm)
theorem own_rem9 (x : Int32) : (x &&& (2147483647 : Int32)) % (9 : Int32) = 0 ∨ (x &&& (2147483647 : Int32)) % (9 : Int32) = 1 ∨ (x &&& (2147483647 : Int32)) % (9 : Int32) = 2 ∨ (x &&& (2147483647 : Int32)) % (9 : Int32) = 3 ∨ (x &&& (2147483647 : Int32)) % (9 : Int32) = 4 ∨ (x &&& (2147483647 : Int32)) % (9 : Int32) = 5 ∨ (x &&& (2147483647 : Int32)) % (9 : Int32) = 6 ∨ (x &&& (2147483647 : Int32)) % (9 : Int32) = 7 ∨ (x &&& (2147483647 : Int32)) % (9 : Int32) = 8 := by
  have e1 : (x &&& (2147483647 : Int32)).toInt = x.toInt % 2 ^ 31 := Jvm.Kit.i32_mask x 2147483647 (k := 31) (by decide) (by decide)
  have e2 := Jvm.Kit.i32_rem_nonneg (x := x &&& (2147483647 : Int32)) (y := 9) (by omega)
  rw [show (9 : Int32).toInt = 9 from by decide] at e2
  generalize (x &&& (2147483647 : Int32)) % (9 : Int32) = k at *
  have e3 : k.toInt = 0 ∨ k.toInt = 1 ∨ k.toInt = 2 ∨ k.toInt = 3 ∨ k.toInt = 4 ∨ k.toInt = 5 ∨ k.toInt = 6 ∨ k.toInt = 7 ∨ k.toInt = 8 := by omega
  rcases e3 with h | h | h | h | h | h | h | h | h
  · exact Or.inl (own_i32 h (by decide))
  · exact Or.inr (Or.inl (own_i32 h (by decide)))
  · exact Or.inr (Or.inr (Or.inl (own_i32 h (by decide))))
  · exact Or.inr (Or.inr (Or.inr (Or.inl (own_i32 h (by decide)))))
  · exact Or.inr (Or.inr (Or.inr (Or.inr (Or.inl (own_i32 h (by decide))))))
  · exact Or.inr (Or.inr (Or.inr (Or.inr (Or.inr (Or.inl (own_i32 h (by decide)))))))
  · exact Or.inr (Or.inr (Or.inr (Or.inr (Or.inr (Or.inr (Or.inl (own_i32 h (by decide))))))))
  · exact Or.inr (Or.inr (Or.inr (Or.inr (Or.inr (Or.inr (Or.inr (Or.inl (own_i32 h (by decide)))))))))
  · exact Or.inr (Or.inr (Or.inr (Or.inr (Or.inr (Or.inr (Or.inr (Or.inr (own_i32 h (by decide)))))))))
theorem pd_0 : parseMethodDescriptor "(I)Lcom/example/careful_invoicing/carefulinvoicing/CollectionStep;" = some ⟨[.int], some (.object "com/example/careful_invoicing/carefulinvoicing/CollectionStep")⟩ := by decide +kernel
theorem pd_1 : parseMethodDescriptor "()Z" = some ⟨[], some .boolean⟩ := by decide +kernel
theorem pd_2 : parseMethodDescriptor "()Lcom/example/careful_invoicing/carefulinvoicing/NoticeKind;" = some ⟨[], some (.object "com/example/careful_invoicing/carefulinvoicing/NoticeKind")⟩ := by decide +kernel
theorem pd_3 : parseMethodDescriptor "()Lcom/example/careful_invoicing/carefulinvoicing/CustomerStatus;" = some ⟨[], some (.object "com/example/careful_invoicing/carefulinvoicing/CustomerStatus")⟩ := by decide +kernel
def Facts (Z : State) (a_TERMINATION : Addr) (a_TERMINATED : Addr) (a_LIMIT_WARNING : Addr) (a_SUSPEND_WARNING : Addr) (a_TERMINATE_WARNING : Addr) (a_TERMINATE_WARNING' : Addr) (a_TERMINATED' : Addr) (a_LIMITATION : Addr) (a_LIMITED : Addr) (a_SUSPENSION : Addr) (a_SUSPENDED : Addr) (a_DUE_REMINDER : Addr) (a_DUE_REMINDER' : Addr) (a_SUSPEND_WARNING' : Addr) (a_SUSPENDED' : Addr) (a_OVERDUE_REMINDER : Addr) (a_OVERDUE_REMINDER' : Addr) (a_LATE_FEE : Addr) (a_LIMIT_WARNING' : Addr) (a_LIMITED' : Addr) (a_TERMINATION_label : Addr) (a_LIMITATION_label : Addr) (a_SUSPENSION_label : Addr) : Prop := (Sta Z Z.heap "com/example/careful_invoicing/carefulinvoicing/CollectionStep" "TERMINATION" "Lcom/example/careful_invoicing/carefulinvoicing/CollectionStep;" (.ref a_TERMINATION)) ∧ (Exa Z Z.heap a_TERMINATION "com/example/careful_invoicing/carefulinvoicing/CollectionStep") ∧ (Fld Z Z.heap a_TERMINATION "com/example/careful_invoicing/carefulinvoicing/CollectionStep" "warned" "Lcom/example/careful_invoicing/carefulinvoicing/CollectionStep;" .null) ∧ (Sta Z Z.heap "com/example/careful_invoicing/carefulinvoicing/NoticeKind" "TERMINATED" "Lcom/example/careful_invoicing/carefulinvoicing/NoticeKind;" (.ref a_TERMINATED)) ∧ (Exa Z Z.heap a_TERMINATED "com/example/careful_invoicing/carefulinvoicing/NoticeKind") ∧ (Fld Z Z.heap a_TERMINATION "com/example/careful_invoicing/carefulinvoicing/CollectionStep" "notice" "Lcom/example/careful_invoicing/carefulinvoicing/NoticeKind;" (.ref a_TERMINATED)) ∧ (Sta Z Z.heap "com/example/careful_invoicing/carefulinvoicing/NoticeKind" "LIMIT_WARNING" "Lcom/example/careful_invoicing/carefulinvoicing/NoticeKind;" (.ref a_LIMIT_WARNING)) ∧ (Exa Z Z.heap a_LIMIT_WARNING "com/example/careful_invoicing/carefulinvoicing/NoticeKind") ∧ (Fld Z Z.heap a_TERMINATED "java/lang/Enum" "ordinal" "I" (.int (7 : Int32))) ∧ (Fld Z Z.heap a_LIMIT_WARNING "java/lang/Enum" "ordinal" "I" (.int (2 : Int32))) ∧ (Sta Z Z.heap "com/example/careful_invoicing/carefulinvoicing/NoticeKind" "SUSPEND_WARNING" "Lcom/example/careful_invoicing/carefulinvoicing/NoticeKind;" (.ref a_SUSPEND_WARNING)) ∧ (Exa Z Z.heap a_SUSPEND_WARNING "com/example/careful_invoicing/carefulinvoicing/NoticeKind") ∧ (Fld Z Z.heap a_SUSPEND_WARNING "java/lang/Enum" "ordinal" "I" (.int (4 : Int32))) ∧ (Sta Z Z.heap "com/example/careful_invoicing/carefulinvoicing/NoticeKind" "TERMINATE_WARNING" "Lcom/example/careful_invoicing/carefulinvoicing/NoticeKind;" (.ref a_TERMINATE_WARNING)) ∧ (Exa Z Z.heap a_TERMINATE_WARNING "com/example/careful_invoicing/carefulinvoicing/NoticeKind") ∧ (Fld Z Z.heap a_TERMINATE_WARNING "java/lang/Enum" "ordinal" "I" (.int (6 : Int32))) ∧ (Sta Z Z.heap "com/example/careful_invoicing/carefulinvoicing/CollectionStep" "TERMINATE_WARNING" "Lcom/example/careful_invoicing/carefulinvoicing/CollectionStep;" (.ref a_TERMINATE_WARNING')) ∧ (Exa Z Z.heap a_TERMINATE_WARNING' "com/example/careful_invoicing/carefulinvoicing/CollectionStep") ∧ (Fld Z Z.heap a_TERMINATE_WARNING' "com/example/careful_invoicing/carefulinvoicing/CollectionStep" "warned" "Lcom/example/careful_invoicing/carefulinvoicing/CollectionStep;" (.ref a_TERMINATION)) ∧ (Fld Z Z.heap a_TERMINATE_WARNING' "com/example/careful_invoicing/carefulinvoicing/CollectionStep" "notice" "Lcom/example/careful_invoicing/carefulinvoicing/NoticeKind;" (.ref a_TERMINATE_WARNING)) ∧ (Fld Z Z.heap a_TERMINATE_WARNING' "com/example/careful_invoicing/carefulinvoicing/CollectionStep" "label" "Ljava/lang/String;" .null) ∧ (Sta Z Z.heap "com/example/careful_invoicing/carefulinvoicing/CustomerStatus" "TERMINATED" "Lcom/example/careful_invoicing/carefulinvoicing/CustomerStatus;" (.ref a_TERMINATED')) ∧ (Exa Z Z.heap a_TERMINATED' "com/example/careful_invoicing/carefulinvoicing/CustomerStatus") ∧ (Fld Z Z.heap a_TERMINATE_WARNING' "com/example/careful_invoicing/carefulinvoicing/CollectionStep" "status" "Lcom/example/careful_invoicing/carefulinvoicing/CustomerStatus;" (.ref a_TERMINATED')) ∧ (Sta Z Z.heap "com/example/careful_invoicing/carefulinvoicing/CollectionStep" "LIMITATION" "Lcom/example/careful_invoicing/carefulinvoicing/CollectionStep;" (.ref a_LIMITATION)) ∧ (Exa Z Z.heap a_LIMITATION "com/example/careful_invoicing/carefulinvoicing/CollectionStep") ∧ (Fld Z Z.heap a_LIMITATION "com/example/careful_invoicing/carefulinvoicing/CollectionStep" "warned" "Lcom/example/careful_invoicing/carefulinvoicing/CollectionStep;" .null) ∧ (Sta Z Z.heap "com/example/careful_invoicing/carefulinvoicing/NoticeKind" "LIMITED" "Lcom/example/careful_invoicing/carefulinvoicing/NoticeKind;" (.ref a_LIMITED)) ∧ (Exa Z Z.heap a_LIMITED "com/example/careful_invoicing/carefulinvoicing/NoticeKind") ∧ (Fld Z Z.heap a_LIMITATION "com/example/careful_invoicing/carefulinvoicing/CollectionStep" "notice" "Lcom/example/careful_invoicing/carefulinvoicing/NoticeKind;" (.ref a_LIMITED)) ∧ (Fld Z Z.heap a_LIMITED "java/lang/Enum" "ordinal" "I" (.int (3 : Int32))) ∧ (Sta Z Z.heap "com/example/careful_invoicing/carefulinvoicing/CollectionStep" "SUSPENSION" "Lcom/example/careful_invoicing/carefulinvoicing/CollectionStep;" (.ref a_SUSPENSION)) ∧ (Exa Z Z.heap a_SUSPENSION "com/example/careful_invoicing/carefulinvoicing/CollectionStep") ∧ (Fld Z Z.heap a_SUSPENSION "com/example/careful_invoicing/carefulinvoicing/CollectionStep" "warned" "Lcom/example/careful_invoicing/carefulinvoicing/CollectionStep;" .null) ∧ (Sta Z Z.heap "com/example/careful_invoicing/carefulinvoicing/NoticeKind" "SUSPENDED" "Lcom/example/careful_invoicing/carefulinvoicing/NoticeKind;" (.ref a_SUSPENDED)) ∧ (Exa Z Z.heap a_SUSPENDED "com/example/careful_invoicing/carefulinvoicing/NoticeKind") ∧ (Fld Z Z.heap a_SUSPENSION "com/example/careful_invoicing/carefulinvoicing/CollectionStep" "notice" "Lcom/example/careful_invoicing/carefulinvoicing/NoticeKind;" (.ref a_SUSPENDED)) ∧ (Fld Z Z.heap a_SUSPENDED "java/lang/Enum" "ordinal" "I" (.int (5 : Int32))) ∧ (Sta Z Z.heap "com/example/careful_invoicing/carefulinvoicing/CollectionStep" "DUE_REMINDER" "Lcom/example/careful_invoicing/carefulinvoicing/CollectionStep;" (.ref a_DUE_REMINDER)) ∧ (Exa Z Z.heap a_DUE_REMINDER "com/example/careful_invoicing/carefulinvoicing/CollectionStep") ∧ (Fld Z Z.heap a_DUE_REMINDER "com/example/careful_invoicing/carefulinvoicing/CollectionStep" "warned" "Lcom/example/careful_invoicing/carefulinvoicing/CollectionStep;" .null) ∧ (Sta Z Z.heap "com/example/careful_invoicing/carefulinvoicing/NoticeKind" "DUE_REMINDER" "Lcom/example/careful_invoicing/carefulinvoicing/NoticeKind;" (.ref a_DUE_REMINDER')) ∧ (Exa Z Z.heap a_DUE_REMINDER' "com/example/careful_invoicing/carefulinvoicing/NoticeKind") ∧ (Fld Z Z.heap a_DUE_REMINDER "com/example/careful_invoicing/carefulinvoicing/CollectionStep" "notice" "Lcom/example/careful_invoicing/carefulinvoicing/NoticeKind;" (.ref a_DUE_REMINDER')) ∧ (Fld Z Z.heap a_DUE_REMINDER' "java/lang/Enum" "ordinal" "I" (.int (0 : Int32))) ∧ (Sta Z Z.heap "com/example/careful_invoicing/carefulinvoicing/CollectionStep" "SUSPEND_WARNING" "Lcom/example/careful_invoicing/carefulinvoicing/CollectionStep;" (.ref a_SUSPEND_WARNING')) ∧ (Exa Z Z.heap a_SUSPEND_WARNING' "com/example/careful_invoicing/carefulinvoicing/CollectionStep") ∧ (Fld Z Z.heap a_SUSPEND_WARNING' "com/example/careful_invoicing/carefulinvoicing/CollectionStep" "warned" "Lcom/example/careful_invoicing/carefulinvoicing/CollectionStep;" (.ref a_SUSPENSION)) ∧ (Fld Z Z.heap a_SUSPEND_WARNING' "com/example/careful_invoicing/carefulinvoicing/CollectionStep" "notice" "Lcom/example/careful_invoicing/carefulinvoicing/NoticeKind;" (.ref a_SUSPEND_WARNING)) ∧ (Fld Z Z.heap a_SUSPEND_WARNING' "com/example/careful_invoicing/carefulinvoicing/CollectionStep" "label" "Ljava/lang/String;" .null) ∧ (Sta Z Z.heap "com/example/careful_invoicing/carefulinvoicing/CustomerStatus" "SUSPENDED" "Lcom/example/careful_invoicing/carefulinvoicing/CustomerStatus;" (.ref a_SUSPENDED')) ∧ (Exa Z Z.heap a_SUSPENDED' "com/example/careful_invoicing/carefulinvoicing/CustomerStatus") ∧ (Fld Z Z.heap a_SUSPEND_WARNING' "com/example/careful_invoicing/carefulinvoicing/CollectionStep" "status" "Lcom/example/careful_invoicing/carefulinvoicing/CustomerStatus;" (.ref a_SUSPENDED')) ∧ (Sta Z Z.heap "com/example/careful_invoicing/carefulinvoicing/CollectionStep" "OVERDUE_REMINDER" "Lcom/example/careful_invoicing/carefulinvoicing/CollectionStep;" (.ref a_OVERDUE_REMINDER)) ∧ (Exa Z Z.heap a_OVERDUE_REMINDER "com/example/careful_invoicing/carefulinvoicing/CollectionStep") ∧ (Fld Z Z.heap a_OVERDUE_REMINDER "com/example/careful_invoicing/carefulinvoicing/CollectionStep" "warned" "Lcom/example/careful_invoicing/carefulinvoicing/CollectionStep;" .null) ∧ (Sta Z Z.heap "com/example/careful_invoicing/carefulinvoicing/NoticeKind" "OVERDUE_REMINDER" "Lcom/example/careful_invoicing/carefulinvoicing/NoticeKind;" (.ref a_OVERDUE_REMINDER')) ∧ (Exa Z Z.heap a_OVERDUE_REMINDER' "com/example/careful_invoicing/carefulinvoicing/NoticeKind") ∧ (Fld Z Z.heap a_OVERDUE_REMINDER "com/example/careful_invoicing/carefulinvoicing/CollectionStep" "notice" "Lcom/example/careful_invoicing/carefulinvoicing/NoticeKind;" (.ref a_OVERDUE_REMINDER')) ∧ (Fld Z Z.heap a_OVERDUE_REMINDER' "java/lang/Enum" "ordinal" "I" (.int (1 : Int32))) ∧ (Sta Z Z.heap "com/example/careful_invoicing/carefulinvoicing/CollectionStep" "LATE_FEE" "Lcom/example/careful_invoicing/carefulinvoicing/CollectionStep;" (.ref a_LATE_FEE)) ∧ (Exa Z Z.heap a_LATE_FEE "com/example/careful_invoicing/carefulinvoicing/CollectionStep") ∧ (Fld Z Z.heap a_LATE_FEE "com/example/careful_invoicing/carefulinvoicing/CollectionStep" "warned" "Lcom/example/careful_invoicing/carefulinvoicing/CollectionStep;" .null) ∧ (Fld Z Z.heap a_LATE_FEE "com/example/careful_invoicing/carefulinvoicing/CollectionStep" "notice" "Lcom/example/careful_invoicing/carefulinvoicing/NoticeKind;" .null) ∧ (Sta Z Z.heap "com/example/careful_invoicing/carefulinvoicing/CollectionStep" "LIMIT_WARNING" "Lcom/example/careful_invoicing/carefulinvoicing/CollectionStep;" (.ref a_LIMIT_WARNING')) ∧ (Exa Z Z.heap a_LIMIT_WARNING' "com/example/careful_invoicing/carefulinvoicing/CollectionStep") ∧ (Fld Z Z.heap a_LIMIT_WARNING' "com/example/careful_invoicing/carefulinvoicing/CollectionStep" "warned" "Lcom/example/careful_invoicing/carefulinvoicing/CollectionStep;" (.ref a_LIMITATION)) ∧ (Fld Z Z.heap a_LIMIT_WARNING' "com/example/careful_invoicing/carefulinvoicing/CollectionStep" "notice" "Lcom/example/careful_invoicing/carefulinvoicing/NoticeKind;" (.ref a_LIMIT_WARNING)) ∧ (Fld Z Z.heap a_LIMIT_WARNING' "com/example/careful_invoicing/carefulinvoicing/CollectionStep" "label" "Ljava/lang/String;" .null) ∧ (Sta Z Z.heap "com/example/careful_invoicing/carefulinvoicing/CustomerStatus" "LIMITED" "Lcom/example/careful_invoicing/carefulinvoicing/CustomerStatus;" (.ref a_LIMITED')) ∧ (Exa Z Z.heap a_LIMITED' "com/example/careful_invoicing/carefulinvoicing/CustomerStatus") ∧ (Fld Z Z.heap a_LIMIT_WARNING' "com/example/careful_invoicing/carefulinvoicing/CollectionStep" "status" "Lcom/example/careful_invoicing/carefulinvoicing/CustomerStatus;" (.ref a_LIMITED')) ∧ (Fld Z Z.heap a_TERMINATION "com/example/careful_invoicing/carefulinvoicing/CollectionStep" "label" "Ljava/lang/String;" (.ref a_TERMINATION_label)) ∧ (Exa Z Z.heap a_TERMINATION_label "java/lang/String") ∧ (Fld Z Z.heap a_TERMINATION "com/example/careful_invoicing/carefulinvoicing/CollectionStep" "status" "Lcom/example/careful_invoicing/carefulinvoicing/CustomerStatus;" (.ref a_TERMINATED')) ∧ (Fld Z Z.heap a_LIMITATION "com/example/careful_invoicing/carefulinvoicing/CollectionStep" "label" "Ljava/lang/String;" (.ref a_LIMITATION_label)) ∧ (Exa Z Z.heap a_LIMITATION_label "java/lang/String") ∧ (Fld Z Z.heap a_LIMITATION "com/example/careful_invoicing/carefulinvoicing/CollectionStep" "status" "Lcom/example/careful_invoicing/carefulinvoicing/CustomerStatus;" (.ref a_LIMITED')) ∧ (Fld Z Z.heap a_SUSPENSION "com/example/careful_invoicing/carefulinvoicing/CollectionStep" "label" "Ljava/lang/String;" (.ref a_SUSPENSION_label)) ∧ (Exa Z Z.heap a_SUSPENSION_label "java/lang/String") ∧ (Fld Z Z.heap a_SUSPENSION "com/example/careful_invoicing/carefulinvoicing/CollectionStep" "status" "Lcom/example/careful_invoicing/carefulinvoicing/CustomerStatus;" (.ref a_SUSPENDED')) ∧ (Fld Z Z.heap a_DUE_REMINDER "com/example/careful_invoicing/carefulinvoicing/CollectionStep" "label" "Ljava/lang/String;" .null) ∧ (Fld Z Z.heap a_DUE_REMINDER "com/example/careful_invoicing/carefulinvoicing/CollectionStep" "status" "Lcom/example/careful_invoicing/carefulinvoicing/CustomerStatus;" .null) ∧ (Fld Z Z.heap a_OVERDUE_REMINDER "com/example/careful_invoicing/carefulinvoicing/CollectionStep" "label" "Ljava/lang/String;" .null) ∧ (Fld Z Z.heap a_OVERDUE_REMINDER "com/example/careful_invoicing/carefulinvoicing/CollectionStep" "status" "Lcom/example/careful_invoicing/carefulinvoicing/CustomerStatus;" .null) ∧ (Fld Z Z.heap a_LATE_FEE "com/example/careful_invoicing/carefulinvoicing/CollectionStep" "label" "Ljava/lang/String;" .null) ∧ (Fld Z Z.heap a_LATE_FEE "com/example/careful_invoicing/carefulinvoicing/CollectionStep" "status" "Lcom/example/careful_invoicing/carefulinvoicing/CustomerStatus;" .null) ∧ (a_TERMINATED ≠ a_LIMIT_WARNING) ∧ (a_TERMINATED ≠ a_SUSPEND_WARNING) ∧ (a_TERMINATED ≠ a_TERMINATE_WARNING) ∧ (a_TERMINATED ≠ a_LIMITED) ∧ (a_TERMINATED ≠ a_SUSPENDED) ∧ (a_TERMINATED ≠ a_DUE_REMINDER') ∧ (a_TERMINATED ≠ a_OVERDUE_REMINDER') ∧ (a_LIMIT_WARNING ≠ a_SUSPEND_WARNING) ∧ (a_LIMIT_WARNING ≠ a_TERMINATE_WARNING) ∧ (a_LIMIT_WARNING ≠ a_LIMITED) ∧ (a_LIMIT_WARNING ≠ a_SUSPENDED) ∧ (a_LIMIT_WARNING ≠ a_DUE_REMINDER') ∧ (a_LIMIT_WARNING ≠ a_OVERDUE_REMINDER') ∧ (a_SUSPEND_WARNING ≠ a_TERMINATE_WARNING) ∧ (a_SUSPEND_WARNING ≠ a_LIMITED) ∧ (a_SUSPEND_WARNING ≠ a_SUSPENDED) ∧ (a_SUSPEND_WARNING ≠ a_DUE_REMINDER') ∧ (a_SUSPEND_WARNING ≠ a_OVERDUE_REMINDER') ∧ (a_TERMINATE_WARNING ≠ a_LIMITED) ∧ (a_TERMINATE_WARNING ≠ a_SUSPENDED) ∧ (a_TERMINATE_WARNING ≠ a_DUE_REMINDER') ∧ (a_TERMINATE_WARNING ≠ a_OVERDUE_REMINDER') ∧ (a_LIMITED ≠ a_SUSPENDED) ∧ (a_LIMITED ≠ a_DUE_REMINDER') ∧ (a_LIMITED ≠ a_OVERDUE_REMINDER') ∧ (a_SUSPENDED ≠ a_DUE_REMINDER') ∧ (a_SUSPENDED ≠ a_OVERDUE_REMINDER') ∧ (a_DUE_REMINDER' ≠ a_OVERDUE_REMINDER')
theorem ff_S_TERMINATION {Z : State} {a_TERMINATION : Addr} {a_TERMINATED : Addr} {a_LIMIT_WARNING : Addr} {a_SUSPEND_WARNING : Addr} {a_TERMINATE_WARNING : Addr} {a_TERMINATE_WARNING' : Addr} {a_TERMINATED' : Addr} {a_LIMITATION : Addr} {a_LIMITED : Addr} {a_SUSPENSION : Addr} {a_SUSPENDED : Addr} {a_DUE_REMINDER : Addr} {a_DUE_REMINDER' : Addr} {a_SUSPEND_WARNING' : Addr} {a_SUSPENDED' : Addr} {a_OVERDUE_REMINDER : Addr} {a_OVERDUE_REMINDER' : Addr} {a_LATE_FEE : Addr} {a_LIMIT_WARNING' : Addr} {a_LIMITED' : Addr} {a_TERMINATION_label : Addr} {a_LIMITATION_label : Addr} {a_SUSPENSION_label : Addr} (FF : Facts Z a_TERMINATION a_TERMINATED a_LIMIT_WARNING a_SUSPEND_WARNING a_TERMINATE_WARNING a_TERMINATE_WARNING' a_TERMINATED' a_LIMITATION a_LIMITED a_SUSPENSION a_SUSPENDED a_DUE_REMINDER a_DUE_REMINDER' a_SUSPEND_WARNING' a_SUSPENDED' a_OVERDUE_REMINDER a_OVERDUE_REMINDER' a_LATE_FEE a_LIMIT_WARNING' a_LIMITED' a_TERMINATION_label a_LIMITATION_label a_SUSPENSION_label) : Sta Z Z.heap "com/example/careful_invoicing/carefulinvoicing/CollectionStep" "TERMINATION" "Lcom/example/careful_invoicing/carefulinvoicing/CollectionStep;" (.ref a_TERMINATION) := FF.1
theorem ff_E_TERMINATION {Z : State} {a_TERMINATION : Addr} {a_TERMINATED : Addr} {a_LIMIT_WARNING : Addr} {a_SUSPEND_WARNING : Addr} {a_TERMINATE_WARNING : Addr} {a_TERMINATE_WARNING' : Addr} {a_TERMINATED' : Addr} {a_LIMITATION : Addr} {a_LIMITED : Addr} {a_SUSPENSION : Addr} {a_SUSPENDED : Addr} {a_DUE_REMINDER : Addr} {a_DUE_REMINDER' : Addr} {a_SUSPEND_WARNING' : Addr} {a_SUSPENDED' : Addr} {a_OVERDUE_REMINDER : Addr} {a_OVERDUE_REMINDER' : Addr} {a_LATE_FEE : Addr} {a_LIMIT_WARNING' : Addr} {a_LIMITED' : Addr} {a_TERMINATION_label : Addr} {a_LIMITATION_label : Addr} {a_SUSPENSION_label : Addr} (FF : Facts Z a_TERMINATION a_TERMINATED a_LIMIT_WARNING a_SUSPEND_WARNING a_TERMINATE_WARNING a_TERMINATE_WARNING' a_TERMINATED' a_LIMITATION a_LIMITED a_SUSPENSION a_SUSPENDED a_DUE_REMINDER a_DUE_REMINDER' a_SUSPEND_WARNING' a_SUSPENDED' a_OVERDUE_REMINDER a_OVERDUE_REMINDER' a_LATE_FEE a_LIMIT_WARNING' a_LIMITED' a_TERMINATION_label a_LIMITATION_label a_SUSPENSION_label) : Exa Z Z.heap a_TERMINATION "com/example/careful_invoicing/carefulinvoicing/CollectionStep" := FF.2.1
theorem ff_F_TERMINATION_warned {Z : State} {a_TERMINATION : Addr} {a_TERMINATED : Addr} {a_LIMIT_WARNING : Addr} {a_SUSPEND_WARNING : Addr} {a_TERMINATE_WARNING : Addr} {a_TERMINATE_WARNING' : Addr} {a_TERMINATED' : Addr} {a_LIMITATION : Addr} {a_LIMITED : Addr} {a_SUSPENSION : Addr} {a_SUSPENDED : Addr} {a_DUE_REMINDER : Addr} {a_DUE_REMINDER' : Addr} {a_SUSPEND_WARNING' : Addr} {a_SUSPENDED' : Addr} {a_OVERDUE_REMINDER : Addr} {a_OVERDUE_REMINDER' : Addr} {a_LATE_FEE : Addr} {a_LIMIT_WARNING' : Addr} {a_LIMITED' : Addr} {a_TERMINATION_label : Addr} {a_LIMITATION_label : Addr} {a_SUSPENSION_label : Addr} (FF : Facts Z a_TERMINATION a_TERMINATED a_LIMIT_WARNING a_SUSPEND_WARNING a_TERMINATE_WARNING a_TERMINATE_WARNING' a_TERMINATED' a_LIMITATION a_LIMITED a_SUSPENSION a_SUSPENDED a_DUE_REMINDER a_DUE_REMINDER' a_SUSPEND_WARNING' a_SUSPENDED' a_OVERDUE_REMINDER a_OVERDUE_REMINDER' a_LATE_FEE a_LIMIT_WARNING' a_LIMITED' a_TERMINATION_label a_LIMITATION_label a_SUSPENSION_label) : Fld Z Z.heap a_TERMINATION "com/example/careful_invoicing/carefulinvoicing/CollectionStep" "warned" "Lcom/example/careful_invoicing/carefulinvoicing/CollectionStep;" .null := FF.2.2.1
theorem ff_S_TERMINATED {Z : State} {a_TERMINATION : Addr} {a_TERMINATED : Addr} {a_LIMIT_WARNING : Addr} {a_SUSPEND_WARNING : Addr} {a_TERMINATE_WARNING : Addr} {a_TERMINATE_WARNING' : Addr} {a_TERMINATED' : Addr} {a_LIMITATION : Addr} {a_LIMITED : Addr} {a_SUSPENSION : Addr} {a_SUSPENDED : Addr} {a_DUE_REMINDER : Addr} {a_DUE_REMINDER' : Addr} {a_SUSPEND_WARNING' : Addr} {a_SUSPENDED' : Addr} {a_OVERDUE_REMINDER : Addr} {a_OVERDUE_REMINDER' : Addr} {a_LATE_FEE : Addr} {a_LIMIT_WARNING' : Addr} {a_LIMITED' : Addr} {a_TERMINATION_label : Addr} {a_LIMITATION_label : Addr} {a_SUSPENSION_label : Addr} (FF : Facts Z a_TERMINATION a_TERMINATED a_LIMIT_WARNING a_SUSPEND_WARNING a_TERMINATE_WARNING a_TERMINATE_WARNING' a_TERMINATED' a_LIMITATION a_LIMITED a_SUSPENSION a_SUSPENDED a_DUE_REMINDER a_DUE_REMINDER' a_SUSPEND_WARNING' a_SUSPENDED' a_OVERDUE_REMINDER a_OVERDUE_REMINDER' a_LATE_FEE a_LIMIT_WARNING' a_LIMITED' a_TERMINATION_label a_LIMITATION_label a_SUSPENSION_label) : Sta Z Z.heap "com/example/careful_invoicing/carefulinvoicing/NoticeKind" "TERMINATED" "Lcom/example/careful_invoicing/carefulinvoicing/NoticeKind;" (.ref a_TERMINATED) := FF.2.2.2.1
theorem ff_E_TERMINATED {Z : State} {a_TERMINATION : Addr} {a_TERMINATED : Addr} {a_LIMIT_WARNING : Addr} {a_SUSPEND_WARNING : Addr} {a_TERMINATE_WARNING : Addr} {a_TERMINATE_WARNING' : Addr} {a_TERMINATED' : Addr} {a_LIMITATION : Addr} {a_LIMITED : Addr} {a_SUSPENSION : Addr} {a_SUSPENDED : Addr} {a_DUE_REMINDER : Addr} {a_DUE_REMINDER' : Addr} {a_SUSPEND_WARNING' : Addr} {a_SUSPENDED' : Addr} {a_OVERDUE_REMINDER : Addr} {a_OVERDUE_REMINDER' : Addr} {a_LATE_FEE : Addr} {a_LIMIT_WARNING' : Addr} {a_LIMITED' : Addr} {a_TERMINATION_label : Addr} {a_LIMITATION_label : Addr} {a_SUSPENSION_label : Addr} (FF : Facts Z a_TERMINATION a_TERMINATED a_LIMIT_WARNING a_SUSPEND_WARNING a_TERMINATE_WARNING a_TERMINATE_WARNING' a_TERMINATED' a_LIMITATION a_LIMITED a_SUSPENSION a_SUSPENDED a_DUE_REMINDER a_DUE_REMINDER' a_SUSPEND_WARNING' a_SUSPENDED' a_OVERDUE_REMINDER a_OVERDUE_REMINDER' a_LATE_FEE a_LIMIT_WARNING' a_LIMITED' a_TERMINATION_label a_LIMITATION_label a_SUSPENSION_label) : Exa Z Z.heap a_TERMINATED "com/example/careful_invoicing/carefulinvoicing/NoticeKind" := FF.2.2.2.2.1
theorem ff_F_TERMINATION_notice {Z : State} {a_TERMINATION : Addr} {a_TERMINATED : Addr} {a_LIMIT_WARNING : Addr} {a_SUSPEND_WARNING : Addr} {a_TERMINATE_WARNING : Addr} {a_TERMINATE_WARNING' : Addr} {a_TERMINATED' : Addr} {a_LIMITATION : Addr} {a_LIMITED : Addr} {a_SUSPENSION : Addr} {a_SUSPENDED : Addr} {a_DUE_REMINDER : Addr} {a_DUE_REMINDER' : Addr} {a_SUSPEND_WARNING' : Addr} {a_SUSPENDED' : Addr} {a_OVERDUE_REMINDER : Addr} {a_OVERDUE_REMINDER' : Addr} {a_LATE_FEE : Addr} {a_LIMIT_WARNING' : Addr} {a_LIMITED' : Addr} {a_TERMINATION_label : Addr} {a_LIMITATION_label : Addr} {a_SUSPENSION_label : Addr} (FF : Facts Z a_TERMINATION a_TERMINATED a_LIMIT_WARNING a_SUSPEND_WARNING a_TERMINATE_WARNING a_TERMINATE_WARNING' a_TERMINATED' a_LIMITATION a_LIMITED a_SUSPENSION a_SUSPENDED a_DUE_REMINDER a_DUE_REMINDER' a_SUSPEND_WARNING' a_SUSPENDED' a_OVERDUE_REMINDER a_OVERDUE_REMINDER' a_LATE_FEE a_LIMIT_WARNING' a_LIMITED' a_TERMINATION_label a_LIMITATION_label a_SUSPENSION_label) : Fld Z Z.heap a_TERMINATION "com/example/careful_invoicing/carefulinvoicing/CollectionStep" "notice" "Lcom/example/careful_invoicing/carefulinvoicing/NoticeKind;" (.ref a_TERMINATED) := FF.2.2.2.2.2.1
theorem ff_S_LIMIT_WARNING {Z : State} {a_TERMINATION : Addr} {a_TERMINATED : Addr} {a_LIMIT_WARNING : Addr} {a_SUSPEND_WARNING : Addr} {a_TERMINATE_WARNING : Addr} {a_TERMINATE_WARNING' : Addr} {a_TERMINATED' : Addr} {a_LIMITATION : Addr} {a_LIMITED : Addr} {a_SUSPENSION : Addr} {a_SUSPENDED : Addr} {a_DUE_REMINDER : Addr} {a_DUE_REMINDER' : Addr} {a_SUSPEND_WARNING' : Addr} {a_SUSPENDED' : Addr} {a_OVERDUE_REMINDER : Addr} {a_OVERDUE_REMINDER' : Addr} {a_LATE_FEE : Addr} {a_LIMIT_WARNING' : Addr} {a_LIMITED' : Addr} {a_TERMINATION_label : Addr} {a_LIMITATION_label : Addr} {a_SUSPENSION_label : Addr} (FF : Facts Z a_TERMINATION a_TERMINATED a_LIMIT_WARNING a_SUSPEND_WARNING a_TERMINATE_WARNING a_TERMINATE_WARNING' a_TERMINATED' a_LIMITATION a_LIMITED a_SUSPENSION a_SUSPENDED a_DUE_REMINDER a_DUE_REMINDER' a_SUSPEND_WARNING' a_SUSPENDED' a_OVERDUE_REMINDER a_OVERDUE_REMINDER' a_LATE_FEE a_LIMIT_WARNING' a_LIMITED' a_TERMINATION_label a_LIMITATION_label a_SUSPENSION_label) : Sta Z Z.heap "com/example/careful_invoicing/carefulinvoicing/NoticeKind" "LIMIT_WARNING" "Lcom/example/careful_invoicing/carefulinvoicing/NoticeKind;" (.ref a_LIMIT_WARNING) := FF.2.2.2.2.2.2.1
theorem ff_E_LIMIT_WARNING {Z : State} {a_TERMINATION : Addr} {a_TERMINATED : Addr} {a_LIMIT_WARNING : Addr} {a_SUSPEND_WARNING : Addr} {a_TERMINATE_WARNING : Addr} {a_TERMINATE_WARNING' : Addr} {a_TERMINATED' : Addr} {a_LIMITATION : Addr} {a_LIMITED : Addr} {a_SUSPENSION : Addr} {a_SUSPENDED : Addr} {a_DUE_REMINDER : Addr} {a_DUE_REMINDER' : Addr} {a_SUSPEND_WARNING' : Addr} {a_SUSPENDED' : Addr} {a_OVERDUE_REMINDER : Addr} {a_OVERDUE_REMINDER' : Addr} {a_LATE_FEE : Addr} {a_LIMIT_WARNING' : Addr} {a_LIMITED' : Addr} {a_TERMINATION_label : Addr} {a_LIMITATION_label : Addr} {a_SUSPENSION_label : Addr} (FF : Facts Z a_TERMINATION a_TERMINATED a_LIMIT_WARNING a_SUSPEND_WARNING a_TERMINATE_WARNING a_TERMINATE_WARNING' a_TERMINATED' a_LIMITATION a_LIMITED a_SUSPENSION a_SUSPENDED a_DUE_REMINDER a_DUE_REMINDER' a_SUSPEND_WARNING' a_SUSPENDED' a_OVERDUE_REMINDER a_OVERDUE_REMINDER' a_LATE_FEE a_LIMIT_WARNING' a_LIMITED' a_TERMINATION_label a_LIMITATION_label a_SUSPENSION_label) : Exa Z Z.heap a_LIMIT_WARNING "com/example/careful_invoicing/carefulinvoicing/NoticeKind" := FF.2.2.2.2.2.2.2.1
theorem ff_F_TERMINATED_ordinal {Z : State} {a_TERMINATION : Addr} {a_TERMINATED : Addr} {a_LIMIT_WARNING : Addr} {a_SUSPEND_WARNING : Addr} {a_TERMINATE_WARNING : Addr} {a_TERMINATE_WARNING' : Addr} {a_TERMINATED' : Addr} {a_LIMITATION : Addr} {a_LIMITED : Addr} {a_SUSPENSION : Addr} {a_SUSPENDED : Addr} {a_DUE_REMINDER : Addr} {a_DUE_REMINDER' : Addr} {a_SUSPEND_WARNING' : Addr} {a_SUSPENDED' : Addr} {a_OVERDUE_REMINDER : Addr} {a_OVERDUE_REMINDER' : Addr} {a_LATE_FEE : Addr} {a_LIMIT_WARNING' : Addr} {a_LIMITED' : Addr} {a_TERMINATION_label : Addr} {a_LIMITATION_label : Addr} {a_SUSPENSION_label : Addr} (FF : Facts Z a_TERMINATION a_TERMINATED a_LIMIT_WARNING a_SUSPEND_WARNING a_TERMINATE_WARNING a_TERMINATE_WARNING' a_TERMINATED' a_LIMITATION a_LIMITED a_SUSPENSION a_SUSPENDED a_DUE_REMINDER a_DUE_REMINDER' a_SUSPEND_WARNING' a_SUSPENDED' a_OVERDUE_REMINDER a_OVERDUE_REMINDER' a_LATE_FEE a_LIMIT_WARNING' a_LIMITED' a_TERMINATION_label a_LIMITATION_label a_SUSPENSION_label) : Fld Z Z.heap a_TERMINATED "java/lang/Enum" "ordinal" "I" (.int (7 : Int32)) := FF.2.2.2.2.2.2.2.2.1
theorem ff_F_LIMIT_WARNING_ordinal {Z : State} {a_TERMINATION : Addr} {a_TERMINATED : Addr} {a_LIMIT_WARNING : Addr} {a_SUSPEND_WARNING : Addr} {a_TERMINATE_WARNING : Addr} {a_TERMINATE_WARNING' : Addr} {a_TERMINATED' : Addr} {a_LIMITATION : Addr} {a_LIMITED : Addr} {a_SUSPENSION : Addr} {a_SUSPENDED : Addr} {a_DUE_REMINDER : Addr} {a_DUE_REMINDER' : Addr} {a_SUSPEND_WARNING' : Addr} {a_SUSPENDED' : Addr} {a_OVERDUE_REMINDER : Addr} {a_OVERDUE_REMINDER' : Addr} {a_LATE_FEE : Addr} {a_LIMIT_WARNING' : Addr} {a_LIMITED' : Addr} {a_TERMINATION_label : Addr} {a_LIMITATION_label : Addr} {a_SUSPENSION_label : Addr} (FF : Facts Z a_TERMINATION a_TERMINATED a_LIMIT_WARNING a_SUSPEND_WARNING a_TERMINATE_WARNING a_TERMINATE_WARNING' a_TERMINATED' a_LIMITATION a_LIMITED a_SUSPENSION a_SUSPENDED a_DUE_REMINDER a_DUE_REMINDER' a_SUSPEND_WARNING' a_SUSPENDED' a_OVERDUE_REMINDER a_OVERDUE_REMINDER' a_LATE_FEE a_LIMIT_WARNING' a_LIMITED' a_TERMINATION_label a_LIMITATION_label a_SUSPENSION_label) : Fld Z Z.heap a_LIMIT_WARNING "java/lang/Enum" "ordinal" "I" (.int (2 : Int32)) := FF.2.2.2.2.2.2.2.2.2.1
theorem ff_S_SUSPEND_WARNING {Z : State} {a_TERMINATION : Addr} {a_TERMINATED : Addr} {a_LIMIT_WARNING : Addr} {a_SUSPEND_WARNING : Addr} {a_TERMINATE_WARNING : Addr} {a_TERMINATE_WARNING' : Addr} {a_TERMINATED' : Addr} {a_LIMITATION : Addr} {a_LIMITED : Addr} {a_SUSPENSION : Addr} {a_SUSPENDED : Addr} {a_DUE_REMINDER : Addr} {a_DUE_REMINDER' : Addr} {a_SUSPEND_WARNING' : Addr} {a_SUSPENDED' : Addr} {a_OVERDUE_REMINDER : Addr} {a_OVERDUE_REMINDER' : Addr} {a_LATE_FEE : Addr} {a_LIMIT_WARNING' : Addr} {a_LIMITED' : Addr} {a_TERMINATION_label : Addr} {a_LIMITATION_label : Addr} {a_SUSPENSION_label : Addr} (FF : Facts Z a_TERMINATION a_TERMINATED a_LIMIT_WARNING a_SUSPEND_WARNING a_TERMINATE_WARNING a_TERMINATE_WARNING' a_TERMINATED' a_LIMITATION a_LIMITED a_SUSPENSION a_SUSPENDED a_DUE_REMINDER a_DUE_REMINDER' a_SUSPEND_WARNING' a_SUSPENDED' a_OVERDUE_REMINDER a_OVERDUE_REMINDER' a_LATE_FEE a_LIMIT_WARNING' a_LIMITED' a_TERMINATION_label a_LIMITATION_label a_SUSPENSION_label) : Sta Z Z.heap "com/example/careful_invoicing/carefulinvoicing/NoticeKind" "SUSPEND_WARNING" "Lcom/example/careful_invoicing/carefulinvoicing/NoticeKind;" (.ref a_SUSPEND_WARNING) := FF.2.2.2.2.2.2.2.2.2.2.1
theorem ff_E_SUSPEND_WARNING {Z : State} {a_TERMINATION : Addr} {a_TERMINATED : Addr} {a_LIMIT_WARNING : Addr} {a_SUSPEND_WARNING : Addr} {a_TERMINATE_WARNING : Addr} {a_TERMINATE_WARNING' : Addr} {a_TERMINATED' : Addr} {a_LIMITATION : Addr} {a_LIMITED : Addr} {a_SUSPENSION : Addr} {a_SUSPENDED : Addr} {a_DUE_REMINDER : Addr} {a_DUE_REMINDER' : Addr} {a_SUSPEND_WARNING' : Addr} {a_SUSPENDED' : Addr} {a_OVERDUE_REMINDER : Addr} {a_OVERDUE_REMINDER' : Addr} {a_LATE_FEE : Addr} {a_LIMIT_WARNING' : Addr} {a_LIMITED' : Addr} {a_TERMINATION_label : Addr} {a_LIMITATION_label : Addr} {a_SUSPENSION_label : Addr} (FF : Facts Z a_TERMINATION a_TERMINATED a_LIMIT_WARNING a_SUSPEND_WARNING a_TERMINATE_WARNING a_TERMINATE_WARNING' a_TERMINATED' a_LIMITATION a_LIMITED a_SUSPENSION a_SUSPENDED a_DUE_REMINDER a_DUE_REMINDER' a_SUSPEND_WARNING' a_SUSPENDED' a_OVERDUE_REMINDER a_OVERDUE_REMINDER' a_LATE_FEE a_LIMIT_WARNING' a_LIMITED' a_TERMINATION_label a_LIMITATION_label a_SUSPENSION_label) : Exa Z Z.heap a_SUSPEND_WARNING "com/example/careful_invoicing/carefulinvoicing/NoticeKind" := FF.2.2.2.2.2.2.2.2.2.2.2.1
theorem ff_F_SUSPEND_WARNING_ordinal {Z : State} {a_TERMINATION : Addr} {a_TERMINATED : Addr} {a_LIMIT_WARNING : Addr} {a_SUSPEND_WARNING : Addr} {a_TERMINATE_WARNING : Addr} {a_TERMINATE_WARNING' : Addr} {a_TERMINATED' : Addr} {a_LIMITATION : Addr} {a_LIMITED : Addr} {a_SUSPENSION : Addr} {a_SUSPENDED : Addr} {a_DUE_REMINDER : Addr} {a_DUE_REMINDER' : Addr} {a_SUSPEND_WARNING' : Addr} {a_SUSPENDED' : Addr} {a_OVERDUE_REMINDER : Addr} {a_OVERDUE_REMINDER' : Addr} {a_LATE_FEE : Addr} {a_LIMIT_WARNING' : Addr} {a_LIMITED' : Addr} {a_TERMINATION_label : Addr} {a_LIMITATION_label : Addr} {a_SUSPENSION_label : Addr} (FF : Facts Z a_TERMINATION a_TERMINATED a_LIMIT_WARNING a_SUSPEND_WARNING a_TERMINATE_WARNING a_TERMINATE_WARNING' a_TERMINATED' a_LIMITATION a_LIMITED a_SUSPENSION a_SUSPENDED a_DUE_REMINDER a_DUE_REMINDER' a_SUSPEND_WARNING' a_SUSPENDED' a_OVERDUE_REMINDER a_OVERDUE_REMINDER' a_LATE_FEE a_LIMIT_WARNING' a_LIMITED' a_TERMINATION_label a_LIMITATION_label a_SUSPENSION_label) : Fld Z Z.heap a_SUSPEND_WARNING "java/lang/Enum" "ordinal" "I" (.int (4 : Int32)) := FF.2.2.2.2.2.2.2.2.2.2.2.2.1
theorem ff_S_TERMINATE_WARNING {Z : State} {a_TERMINATION : Addr} {a_TERMINATED : Addr} {a_LIMIT_WARNING : Addr} {a_SUSPEND_WARNING : Addr} {a_TERMINATE_WARNING : Addr} {a_TERMINATE_WARNING' : Addr} {a_TERMINATED' : Addr} {a_LIMITATION : Addr} {a_LIMITED : Addr} {a_SUSPENSION : Addr} {a_SUSPENDED : Addr} {a_DUE_REMINDER : Addr} {a_DUE_REMINDER' : Addr} {a_SUSPEND_WARNING' : Addr} {a_SUSPENDED' : Addr} {a_OVERDUE_REMINDER : Addr} {a_OVERDUE_REMINDER' : Addr} {a_LATE_FEE : Addr} {a_LIMIT_WARNING' : Addr} {a_LIMITED' : Addr} {a_TERMINATION_label : Addr} {a_LIMITATION_label : Addr} {a_SUSPENSION_label : Addr} (FF : Facts Z a_TERMINATION a_TERMINATED a_LIMIT_WARNING a_SUSPEND_WARNING a_TERMINATE_WARNING a_TERMINATE_WARNING' a_TERMINATED' a_LIMITATION a_LIMITED a_SUSPENSION a_SUSPENDED a_DUE_REMINDER a_DUE_REMINDER' a_SUSPEND_WARNING' a_SUSPENDED' a_OVERDUE_REMINDER a_OVERDUE_REMINDER' a_LATE_FEE a_LIMIT_WARNING' a_LIMITED' a_TERMINATION_label a_LIMITATION_label a_SUSPENSION_label) : Sta Z Z.heap "com/example/careful_invoicing/carefulinvoicing/NoticeKind" "TERMINATE_WARNING" "Lcom/example/careful_invoicing/carefulinvoicing/NoticeKind;" (.ref a_TERMINATE_WARNING) := FF.2.2.2.2.2.2.2.2.2.2.2.2.2.1
theorem ff_E_TERMINATE_WARNING {Z : State} {a_TERMINATION : Addr} {a_TERMINATED : Addr} {a_LIMIT_WARNING : Addr} {a_SUSPEND_WARNING : Addr} {a_TERMINATE_WARNING : Addr} {a_TERMINATE_WARNING' : Addr} {a_TERMINATED' : Addr} {a_LIMITATION : Addr} {a_LIMITED : Addr} {a_SUSPENSION : Addr} {a_SUSPENDED : Addr} {a_DUE_REMINDER : Addr} {a_DUE_REMINDER' : Addr} {a_SUSPEND_WARNING' : Addr} {a_SUSPENDED' : Addr} {a_OVERDUE_REMINDER : Addr} {a_OVERDUE_REMINDER' : Addr} {a_LATE_FEE : Addr} {a_LIMIT_WARNING' : Addr} {a_LIMITED' : Addr} {a_TERMINATION_label : Addr} {a_LIMITATION_label : Addr} {a_SUSPENSION_label : Addr} (FF : Facts Z a_TERMINATION a_TERMINATED a_LIMIT_WARNING a_SUSPEND_WARNING a_TERMINATE_WARNING a_TERMINATE_WARNING' a_TERMINATED' a_LIMITATION a_LIMITED a_SUSPENSION a_SUSPENDED a_DUE_REMINDER a_DUE_REMINDER' a_SUSPEND_WARNING' a_SUSPENDED' a_OVERDUE_REMINDER a_OVERDUE_REMINDER' a_LATE_FEE a_LIMIT_WARNING' a_LIMITED' a_TERMINATION_label a_LIMITATION_label a_SUSPENSION_label) : Exa Z Z.heap a_TERMINATE_WARNING "com/example/careful_invoicing/carefulinvoicing/NoticeKind" := FF.2.2.2.2.2.2.2.2.2.2.2.2.2.2.1
theorem ff_F_TERMINATE_WARNING_ordinal {Z : State} {a_TERMINATION : Addr} {a_TERMINATED : Addr} {a_LIMIT_WARNING : Addr} {a_SUSPEND_WARNING : Addr} {a_TERMINATE_WARNING : Addr} {a_TERMINATE_WARNING' : Addr} {a_TERMINATED' : Addr} {a_LIMITATION : Addr} {a_LIMITED : Addr} {a_SUSPENSION : Addr} {a_SUSPENDED : Addr} {a_DUE_REMINDER : Addr} {a_DUE_REMINDER' : Addr} {a_SUSPEND_WARNING' : Addr} {a_SUSPENDED' : Addr} {a_OVERDUE_REMINDER : Addr} {a_OVERDUE_REMINDER' : Addr} {a_LATE_FEE : Addr} {a_LIMIT_WARNING' : Addr} {a_LIMITED' : Addr} {a_TERMINATION_label : Addr} {a_LIMITATION_label : Addr} {a_SUSPENSION_label : Addr} (FF : Facts Z a_TERMINATION a_TERMINATED a_LIMIT_WARNING a_SUSPEND_WARNING a_TERMINATE_WARNING a_TERMINATE_WARNING' a_TERMINATED' a_LIMITATION a_LIMITED a_SUSPENSION a_SUSPENDED a_DUE_REMINDER a_DUE_REMINDER' a_SUSPEND_WARNING' a_SUSPENDED' a_OVERDUE_REMINDER a_OVERDUE_REMINDER' a_LATE_FEE a_LIMIT_WARNING' a_LIMITED' a_TERMINATION_label a_LIMITATION_label a_SUSPENSION_label) : Fld Z Z.heap a_TERMINATE_WARNING "java/lang/Enum" "ordinal" "I" (.int (6 : Int32)) := FF.2.2.2.2.2.2.2.2.2.2.2.2.2.2.2.1
theorem ff_S_TERMINATE_WARNING' {Z : State} {a_TERMINATION : Addr} {a_TERMINATED : Addr} {a_LIMIT_WARNING : Addr} {a_SUSPEND_WARNING : Addr} {a_TERMINATE_WARNING : Addr} {a_TERMINATE_WARNING' : Addr} {a_TERMINATED' : Addr} {a_LIMITATION : Addr} {a_LIMITED : Addr} {a_SUSPENSION : Addr} {a_SUSPENDED : Addr} {a_DUE_REMINDER : Addr} {a_DUE_REMINDER' : Addr} {a_SUSPEND_WARNING' : Addr} {a_SUSPENDED' : Addr} {a_OVERDUE_REMINDER : Addr} {a_OVERDUE_REMINDER' : Addr} {a_LATE_FEE : Addr} {a_LIMIT_WARNING' : Addr} {a_LIMITED' : Addr} {a_TERMINATION_label : Addr} {a_LIMITATION_label : Addr} {a_SUSPENSION_label : Addr} (FF : Facts Z a_TERMINATION a_TERMINATED a_LIMIT_WARNING a_SUSPEND_WARNING a_TERMINATE_WARNING a_TERMINATE_WARNING' a_TERMINATED' a_LIMITATION a_LIMITED a_SUSPENSION a_SUSPENDED a_DUE_REMINDER a_DUE_REMINDER' a_SUSPEND_WARNING' a_SUSPENDED' a_OVERDUE_REMINDER a_OVERDUE_REMINDER' a_LATE_FEE a_LIMIT_WARNING' a_LIMITED' a_TERMINATION_label a_LIMITATION_label a_SUSPENSION_label) : Sta Z Z.heap "com/example/careful_invoicing/carefulinvoicing/CollectionStep" "TERMINATE_WARNING" "Lcom/example/careful_invoicing/carefulinvoicing/CollectionStep;" (.ref a_TERMINATE_WARNING') := FF.2.2.2.2.2.2.2.2.2.2.2.2.2.2.2.2.1
theorem ff_E_TERMINATE_WARNING' {Z : State} {a_TERMINATION : Addr} {a_TERMINATED : Addr} {a_LIMIT_WARNING : Addr} {a_SUSPEND_WARNING : Addr} {a_TERMINATE_WARNING : Addr} {a_TERMINATE_WARNING' : Addr} {a_TERMINATED' : Addr} {a_LIMITATION : Addr} {a_LIMITED : Addr} {a_SUSPENSION : Addr} {a_SUSPENDED : Addr} {a_DUE_REMINDER : Addr} {a_DUE_REMINDER' : Addr} {a_SUSPEND_WARNING' : Addr} {a_SUSPENDED' : Addr} {a_OVERDUE_REMINDER : Addr} {a_OVERDUE_REMINDER' : Addr} {a_LATE_FEE : Addr} {a_LIMIT_WARNING' : Addr} {a_LIMITED' : Addr} {a_TERMINATION_label : Addr} {a_LIMITATION_label : Addr} {a_SUSPENSION_label : Addr} (FF : Facts Z a_TERMINATION a_TERMINATED a_LIMIT_WARNING a_SUSPEND_WARNING a_TERMINATE_WARNING a_TERMINATE_WARNING' a_TERMINATED' a_LIMITATION a_LIMITED a_SUSPENSION a_SUSPENDED a_DUE_REMINDER a_DUE_REMINDER' a_SUSPEND_WARNING' a_SUSPENDED' a_OVERDUE_REMINDER a_OVERDUE_REMINDER' a_LATE_FEE a_LIMIT_WARNING' a_LIMITED' a_TERMINATION_label a_LIMITATION_label a_SUSPENSION_label) : Exa Z Z.heap a_TERMINATE_WARNING' "com/example/careful_invoicing/carefulinvoicing/CollectionStep" := FF.2.2.2.2.2.2.2.2.2.2.2.2.2.2.2.2.2.1
theorem ff_F_TERMINATE_WARNING'_warned {Z : State} {a_TERMINATION : Addr} {a_TERMINATED : Addr} {a_LIMIT_WARNING : Addr} {a_SUSPEND_WARNING : Addr} {a_TERMINATE_WARNING : Addr} {a_TERMINATE_WARNING' : Addr} {a_TERMINATED' : Addr} {a_LIMITATION : Addr} {a_LIMITED : Addr} {a_SUSPENSION : Addr} {a_SUSPENDED : Addr} {a_DUE_REMINDER : Addr} {a_DUE_REMINDER' : Addr} {a_SUSPEND_WARNING' : Addr} {a_SUSPENDED' : Addr} {a_OVERDUE_REMINDER : Addr} {a_OVERDUE_REMINDER' : Addr} {a_LATE_FEE : Addr} {a_LIMIT_WARNING' : Addr} {a_LIMITED' : Addr} {a_TERMINATION_label : Addr} {a_LIMITATION_label : Addr} {a_SUSPENSION_label : Addr} (FF : Facts Z a_TERMINATION a_TERMINATED a_LIMIT_WARNING a_SUSPEND_WARNING a_TERMINATE_WARNING a_TERMINATE_WARNING' a_TERMINATED' a_LIMITATION a_LIMITED a_SUSPENSION a_SUSPENDED a_DUE_REMINDER a_DUE_REMINDER' a_SUSPEND_WARNING' a_SUSPENDED' a_OVERDUE_REMINDER a_OVERDUE_REMINDER' a_LATE_FEE a_LIMIT_WARNING' a_LIMITED' a_TERMINATION_label a_LIMITATION_label a_SUSPENSION_label) : Fld Z Z.heap a_TERMINATE_WARNING' "com/example/careful_invoicing/carefulinvoicing/CollectionStep" "warned" "Lcom/example/careful_invoicing/carefulinvoicing/CollectionStep;" (.ref a_TERMINATION) := FF.2.2.2.2.2.2.2.2.2.2.2.2.2.2.2.2.2.2.1
theorem ff_F_TERMINATE_WARNING'_notice {Z : State} {a_TERMINATION : Addr} {a_TERMINATED : Addr} {a_LIMIT_WARNING : Addr} {a_SUSPEND_WARNING : Addr} {a_TERMINATE_WARNING : Addr} {a_TERMINATE_WARNING' : Addr} {a_TERMINATED' : Addr} {a_LIMITATION : Addr} {a_LIMITED : Addr} {a_SUSPENSION : Addr} {a_SUSPENDED : Addr} {a_DUE_REMINDER : Addr} {a_DUE_REMINDER' : Addr} {a_SUSPEND_WARNING' : Addr} {a_SUSPENDED' : Addr} {a_OVERDUE_REMINDER : Addr} {a_OVERDUE_REMINDER' : Addr} {a_LATE_FEE : Addr} {a_LIMIT_WARNING' : Addr} {a_LIMITED' : Addr} {a_TERMINATION_label : Addr} {a_LIMITATION_label : Addr} {a_SUSPENSION_label : Addr} (FF : Facts Z a_TERMINATION a_TERMINATED a_LIMIT_WARNING a_SUSPEND_WARNING a_TERMINATE_WARNING a_TERMINATE_WARNING' a_TERMINATED' a_LIMITATION a_LIMITED a_SUSPENSION a_SUSPENDED a_DUE_REMINDER a_DUE_REMINDER' a_SUSPEND_WARNING' a_SUSPENDED' a_OVERDUE_REMINDER a_OVERDUE_REMINDER' a_LATE_FEE a_LIMIT_WARNING' a_LIMITED' a_TERMINATION_label a_LIMITATION_label a_SUSPENSION_label) : Fld Z Z.heap a_TERMINATE_WARNING' "com/example/careful_invoicing/carefulinvoicing/CollectionStep" "notice" "Lcom/example/careful_invoicing/carefulinvoicing/NoticeKind;" (.ref a_TERMINATE_WARNING) := FF.2.2.2.2.2.2.2.2.2.2.2.2.2.2.2.2.2.2.2.1
theorem ff_F_TERMINATE_WARNING'_label {Z : State} {a_TERMINATION : Addr} {a_TERMINATED : Addr} {a_LIMIT_WARNING : Addr} {a_SUSPEND_WARNING : Addr} {a_TERMINATE_WARNING : Addr} {a_TERMINATE_WARNING' : Addr} {a_TERMINATED' : Addr} {a_LIMITATION : Addr} {a_LIMITED : Addr} {a_SUSPENSION : Addr} {a_SUSPENDED : Addr} {a_DUE_REMINDER : Addr} {a_DUE_REMINDER' : Addr} {a_SUSPEND_WARNING' : Addr} {a_SUSPENDED' : Addr} {a_OVERDUE_REMINDER : Addr} {a_OVERDUE_REMINDER' : Addr} {a_LATE_FEE : Addr} {a_LIMIT_WARNING' : Addr} {a_LIMITED' : Addr} {a_TERMINATION_label : Addr} {a_LIMITATION_label : Addr} {a_SUSPENSION_label : Addr} (FF : Facts Z a_TERMINATION a_TERMINATED a_LIMIT_WARNING a_SUSPEND_WARNING a_TERMINATE_WARNING a_TERMINATE_WARNING' a_TERMINATED' a_LIMITATION a_LIMITED a_SUSPENSION a_SUSPENDED a_DUE_REMINDER a_DUE_REMINDER' a_SUSPEND_WARNING' a_SUSPENDED' a_OVERDUE_REMINDER a_OVERDUE_REMINDER' a_LATE_FEE a_LIMIT_WARNING' a_LIMITED' a_TERMINATION_label a_LIMITATION_label a_SUSPENSION_label) : Fld Z Z.heap a_TERMINATE_WARNING' "com/example/careful_invoicing/carefulinvoicing/CollectionStep" "label" "Ljava/lang/String;" .null := FF.2.2.2.2.2.2.2.2.2.2.2.2.2.2.2.2.2.2.2.2.1
theorem ff_S_TERMINATED' {Z : State} {a_TERMINATION : Addr} {a_TERMINATED : Addr} {a_LIMIT_WARNING : Addr} {a_SUSPEND_WARNING : Addr} {a_TERMINATE_WARNING : Addr} {a_TERMINATE_WARNING' : Addr} {a_TERMINATED' : Addr} {a_LIMITATION : Addr} {a_LIMITED : Addr} {a_SUSPENSION : Addr} {a_SUSPENDED : Addr} {a_DUE_REMINDER : Addr} {a_DUE_REMINDER' : Addr} {a_SUSPEND_WARNING' : Addr} {a_SUSPENDED' : Addr} {a_OVERDUE_REMINDER : Addr} {a_OVERDUE_REMINDER' : Addr} {a_LATE_FEE : Addr} {a_LIMIT_WARNING' : Addr} {a_LIMITED' : Addr} {a_TERMINATION_label : Addr} {a_LIMITATION_label : Addr} {a_SUSPENSION_label : Addr} (FF : Facts Z a_TERMINATION a_TERMINATED a_LIMIT_WARNING a_SUSPEND_WARNING a_TERMINATE_WARNING a_TERMINATE_WARNING' a_TERMINATED' a_LIMITATION a_LIMITED a_SUSPENSION a_SUSPENDED a_DUE_REMINDER a_DUE_REMINDER' a_SUSPEND_WARNING' a_SUSPENDED' a_OVERDUE_REMINDER a_OVERDUE_REMINDER' a_LATE_FEE a_LIMIT_WARNING' a_LIMITED' a_TERMINATION_label a_LIMITATION_label a_SUSPENSION_label) : Sta Z Z.heap "com/example/careful_invoicing/carefulinvoicing/CustomerStatus" "TERMINATED" "Lcom/example/careful_invoicing/carefulinvoicing/CustomerStatus;" (.ref a_TERMINATED') := FF.2.2.2.2.2.2.2.2.2.2.2.2.2.2.2.2.2.2.2.2.2.1
theorem ff_E_TERMINATED' {Z : State} {a_TERMINATION : Addr} {a_TERMINATED : Addr} {a_LIMIT_WARNING : Addr} {a_SUSPEND_WARNING : Addr} {a_TERMINATE_WARNING : Addr} {a_TERMINATE_WARNING' : Addr} {a_TERMINATED' : Addr} {a_LIMITATION : Addr} {a_LIMITED : Addr} {a_SUSPENSION : Addr} {a_SUSPENDED : Addr} {a_DUE_REMINDER : Addr} {a_DUE_REMINDER' : Addr} {a_SUSPEND_WARNING' : Addr} {a_SUSPENDED' : Addr} {a_OVERDUE_REMINDER : Addr} {a_OVERDUE_REMINDER' : Addr} {a_LATE_FEE : Addr} {a_LIMIT_WARNING' : Addr} {a_LIMITED' : Addr} {a_TERMINATION_label : Addr} {a_LIMITATION_label : Addr} {a_SUSPENSION_label : Addr} (FF : Facts Z a_TERMINATION a_TERMINATED a_LIMIT_WARNING a_SUSPEND_WARNING a_TERMINATE_WARNING a_TERMINATE_WARNING' a_TERMINATED' a_LIMITATION a_LIMITED a_SUSPENSION a_SUSPENDED a_DUE_REMINDER a_DUE_REMINDER' a_SUSPEND_WARNING' a_SUSPENDED' a_OVERDUE_REMINDER a_OVERDUE_REMINDER' a_LATE_FEE a_LIMIT_WARNING' a_LIMITED' a_TERMINATION_label a_LIMITATION_label a_SUSPENSION_label) : Exa Z Z.heap a_TERMINATED' "com/example/careful_invoicing/carefulinvoicing/CustomerStatus" := FF.2.2.2.2.2.2.2.2.2.2.2.2.2.2.2.2.2.2.2.2.2.2.1
theorem ff_F_TERMINATE_WARNING'_status {Z : State} {a_TERMINATION : Addr} {a_TERMINATED : Addr} {a_LIMIT_WARNING : Addr} {a_SUSPEND_WARNING : Addr} {a_TERMINATE_WARNING : Addr} {a_TERMINATE_WARNING' : Addr} {a_TERMINATED' : Addr} {a_LIMITATION : Addr} {a_LIMITED : Addr} {a_SUSPENSION : Addr} {a_SUSPENDED : Addr} {a_DUE_REMINDER : Addr} {a_DUE_REMINDER' : Addr} {a_SUSPEND_WARNING' : Addr} {a_SUSPENDED' : Addr} {a_OVERDUE_REMINDER : Addr} {a_OVERDUE_REMINDER' : Addr} {a_LATE_FEE : Addr} {a_LIMIT_WARNING' : Addr} {a_LIMITED' : Addr} {a_TERMINATION_label : Addr} {a_LIMITATION_label : Addr} {a_SUSPENSION_label : Addr} (FF : Facts Z a_TERMINATION a_TERMINATED a_LIMIT_WARNING a_SUSPEND_WARNING a_TERMINATE_WARNING a_TERMINATE_WARNING' a_TERMINATED' a_LIMITATION a_LIMITED a_SUSPENSION a_SUSPENDED a_DUE_REMINDER a_DUE_REMINDER' a_SUSPEND_WARNING' a_SUSPENDED' a_OVERDUE_REMINDER a_OVERDUE_REMINDER' a_LATE_FEE a_LIMIT_WARNING' a_LIMITED' a_TERMINATION_label a_LIMITATION_label a_SUSPENSION_label) : Fld Z Z.heap a_TERMINATE_WARNING' "com/example/careful_invoicing/carefulinvoicing/CollectionStep" "status" "Lcom/example/careful_invoicing/carefulinvoicing/CustomerStatus;" (.ref a_TERMINATED') := FF.2.2.2.2.2.2.2.2.2.2.2.2.2.2.2.2.2.2.2.2.2.2.2.1
theorem ff_S_LIMITATION {Z : State} {a_TERMINATION : Addr} {a_TERMINATED : Addr} {a_LIMIT_WARNING : Addr} {a_SUSPEND_WARNING : Addr} {a_TERMINATE_WARNING : Addr} {a_TERMINATE_WARNING' : Addr} {a_TERMINATED' : Addr} {a_LIMITATION : Addr} {a_LIMITED : Addr} {a_SUSPENSION : Addr} {a_SUSPENDED : Addr} {a_DUE_REMINDER : Addr} {a_DUE_REMINDER' : Addr} {a_SUSPEND_WARNING' : Addr} {a_SUSPENDED' : Addr} {a_OVERDUE_REMINDER : Addr} {a_OVERDUE_REMINDER' : Addr} {a_LATE_FEE : Addr} {a_LIMIT_WARNING' : Addr} {a_LIMITED' : Addr} {a_TERMINATION_label : Addr} {a_LIMITATION_label : Addr} {a_SUSPENSION_label : Addr} (FF : Facts Z a_TERMINATION a_TERMINATED a_LIMIT_WARNING a_SUSPEND_WARNING a_TERMINATE_WARNING a_TERMINATE_WARNING' a_TERMINATED' a_LIMITATION a_LIMITED a_SUSPENSION a_SUSPENDED a_DUE_REMINDER a_DUE_REMINDER' a_SUSPEND_WARNING' a_SUSPENDED' a_OVERDUE_REMINDER a_OVERDUE_REMINDER' a_LATE_FEE a_LIMIT_WARNING' a_LIMITED' a_TERMINATION_label a_LIMITATION_label a_SUSPENSION_label) : Sta Z Z.heap "com/example/careful_invoicing/carefulinvoicing/CollectionStep" "LIMITATION" "Lcom/example/careful_invoicing/carefulinvoicing/CollectionStep;" (.ref a_LIMITATION) := FF.2.2.2.2.2.2.2.2.2.2.2.2.2.2.2.2.2.2.2.2.2.2.2.2.1
theorem ff_E_LIMITATION {Z : State} {a_TERMINATION : Addr} {a_TERMINATED : Addr} {a_LIMIT_WARNING : Addr} {a_SUSPEND_WARNING : Addr} {a_TERMINATE_WARNING : Addr} {a_TERMINATE_WARNING' : Addr} {a_TERMINATED' : Addr} {a_LIMITATION : Addr} {a_LIMITED : Addr} {a_SUSPENSION : Addr} {a_SUSPENDED : Addr} {a_DUE_REMINDER : Addr} {a_DUE_REMINDER' : Addr} {a_SUSPEND_WARNING' : Addr} {a_SUSPENDED' : Addr} {a_OVERDUE_REMINDER : Addr} {a_OVERDUE_REMINDER' : Addr} {a_LATE_FEE : Addr} {a_LIMIT_WARNING' : Addr} {a_LIMITED' : Addr} {a_TERMINATION_label : Addr} {a_LIMITATION_label : Addr} {a_SUSPENSION_label : Addr} (FF : Facts Z a_TERMINATION a_TERMINATED a_LIMIT_WARNING a_SUSPEND_WARNING a_TERMINATE_WARNING a_TERMINATE_WARNING' a_TERMINATED' a_LIMITATION a_LIMITED a_SUSPENSION a_SUSPENDED a_DUE_REMINDER a_DUE_REMINDER' a_SUSPEND_WARNING' a_SUSPENDED' a_OVERDUE_REMINDER a_OVERDUE_REMINDER' a_LATE_FEE a_LIMIT_WARNING' a_LIMITED' a_TERMINATION_label a_LIMITATION_label a_SUSPENSION_label) : Exa Z Z.heap a_LIMITATION "com/example/careful_invoicing/carefulinvoicing/CollectionStep" := FF.2.2.2.2.2.2.2.2.2.2.2.2.2.2.2.2.2.2.2.2.2.2.2.2.2.1
theorem ff_F_LIMITATION_warned {Z : State} {a_TERMINATION : Addr} {a_TERMINATED : Addr} {a_LIMIT_WARNING : Addr} {a_SUSPEND_WARNING : Addr} {a_TERMINATE_WARNING : Addr} {a_TERMINATE_WARNING' : Addr} {a_TERMINATED' : Addr} {a_LIMITATION : Addr} {a_LIMITED : Addr} {a_SUSPENSION : Addr} {a_SUSPENDED : Addr} {a_DUE_REMINDER : Addr} {a_DUE_REMINDER' : Addr} {a_SUSPEND_WARNING' : Addr} {a_SUSPENDED' : Addr} {a_OVERDUE_REMINDER : Addr} {a_OVERDUE_REMINDER' : Addr} {a_LATE_FEE : Addr} {a_LIMIT_WARNING' : Addr} {a_LIMITED' : Addr} {a_TERMINATION_label : Addr} {a_LIMITATION_label : Addr} {a_SUSPENSION_label : Addr} (FF : Facts Z a_TERMINATION a_TERMINATED a_LIMIT_WARNING a_SUSPEND_WARNING a_TERMINATE_WARNING a_TERMINATE_WARNING' a_TERMINATED' a_LIMITATION a_LIMITED a_SUSPENSION a_SUSPENDED a_DUE_REMINDER a_DUE_REMINDER' a_SUSPEND_WARNING' a_SUSPENDED' a_OVERDUE_REMINDER a_OVERDUE_REMINDER' a_LATE_FEE a_LIMIT_WARNING' a_LIMITED' a_TERMINATION_label a_LIMITATION_label a_SUSPENSION_label) : Fld Z Z.heap a_LIMITATION "com/example/careful_invoicing/carefulinvoicing/CollectionStep" "warned" "Lcom/example/careful_invoicing/carefulinvoicing/CollectionStep;" .null := FF.2.2.2.2.2.2.2.2.2.2.2.2.2.2.2.2.2.2.2.2.2.2.2.2.2.2.1
theorem ff_S_LIMITED {Z : State} {a_TERMINATION : Addr} {a_TERMINATED : Addr} {a_LIMIT_WARNING : Addr} {a_SUSPEND_WARNING : Addr} {a_TERMINATE_WARNING : Addr} {a_TERMINATE_WARNING' : Addr} {a_TERMINATED' : Addr} {a_LIMITATION : Addr} {a_LIMITED : Addr} {a_SUSPENSION : Addr} {a_SUSPENDED : Addr} {a_DUE_REMINDER : Addr} {a_DUE_REMINDER' : Addr} {a_SUSPEND_WARNING' : Addr} {a_SUSPENDED' : Addr} {a_OVERDUE_REMINDER : Addr} {a_OVERDUE_REMINDER' : Addr} {a_LATE_FEE : Addr} {a_LIMIT_WARNING' : Addr} {a_LIMITED' : Addr} {a_TERMINATION_label : Addr} {a_LIMITATION_label : Addr} {a_SUSPENSION_label : Addr} (FF : Facts Z a_TERMINATION a_TERMINATED a_LIMIT_WARNING a_SUSPEND_WARNING a_TERMINATE_WARNING a_TERMINATE_WARNING' a_TERMINATED' a_LIMITATION a_LIMITED a_SUSPENSION a_SUSPENDED a_DUE_REMINDER a_DUE_REMINDER' a_SUSPEND_WARNING' a_SUSPENDED' a_OVERDUE_REMINDER a_OVERDUE_REMINDER' a_LATE_FEE a_LIMIT_WARNING' a_LIMITED' a_TERMINATION_label a_LIMITATION_label a_SUSPENSION_label) : Sta Z Z.heap "com/example/careful_invoicing/carefulinvoicing/NoticeKind" "LIMITED" "Lcom/example/careful_invoicing/carefulinvoicing/NoticeKind;" (.ref a_LIMITED) := FF.2.2.2.2.2.2.2.2.2.2.2.2.2.2.2.2.2.2.2.2.2.2.2.2.2.2.2.1
theorem ff_E_LIMITED {Z : State} {a_TERMINATION : Addr} {a_TERMINATED : Addr} {a_LIMIT_WARNING : Addr} {a_SUSPEND_WARNING : Addr} {a_TERMINATE_WARNING : Addr} {a_TERMINATE_WARNING' : Addr} {a_TERMINATED' : Addr} {a_LIMITATION : Addr} {a_LIMITED : Addr} {a_SUSPENSION : Addr} {a_SUSPENDED : Addr} {a_DUE_REMINDER : Addr} {a_DUE_REMINDER' : Addr} {a_SUSPEND_WARNING' : Addr} {a_SUSPENDED' : Addr} {a_OVERDUE_REMINDER : Addr} {a_OVERDUE_REMINDER' : Addr} {a_LATE_FEE : Addr} {a_LIMIT_WARNING' : Addr} {a_LIMITED' : Addr} {a_TERMINATION_label : Addr} {a_LIMITATION_label : Addr} {a_SUSPENSION_label : Addr} (FF : Facts Z a_TERMINATION a_TERMINATED a_LIMIT_WARNING a_SUSPEND_WARNING a_TERMINATE_WARNING a_TERMINATE_WARNING' a_TERMINATED' a_LIMITATION a_LIMITED a_SUSPENSION a_SUSPENDED a_DUE_REMINDER a_DUE_REMINDER' a_SUSPEND_WARNING' a_SUSPENDED' a_OVERDUE_REMINDER a_OVERDUE_REMINDER' a_LATE_FEE a_LIMIT_WARNING' a_LIMITED' a_TERMINATION_label a_LIMITATION_label a_SUSPENSION_label) : Exa Z Z.heap a_LIMITED "com/example/careful_invoicing/carefulinvoicing/NoticeKind" := FF.2.2.2.2.2.2.2.2.2.2.2.2.2.2.2.2.2.2.2.2.2.2.2.2.2.2.2.2.1
theorem ff_F_LIMITATION_notice {Z : State} {a_TERMINATION : Addr} {a_TERMINATED : Addr} {a_LIMIT_WARNING : Addr} {a_SUSPEND_WARNING : Addr} {a_TERMINATE_WARNING : Addr} {a_TERMINATE_WARNING' : Addr} {a_TERMINATED' : Addr} {a_LIMITATION : Addr} {a_LIMITED : Addr} {a_SUSPENSION : Addr} {a_SUSPENDED : Addr} {a_DUE_REMINDER : Addr} {a_DUE_REMINDER' : Addr} {a_SUSPEND_WARNING' : Addr} {a_SUSPENDED' : Addr} {a_OVERDUE_REMINDER : Addr} {a_OVERDUE_REMINDER' : Addr} {a_LATE_FEE : Addr} {a_LIMIT_WARNING' : Addr} {a_LIMITED' : Addr} {a_TERMINATION_label : Addr} {a_LIMITATION_label : Addr} {a_SUSPENSION_label : Addr} (FF : Facts Z a_TERMINATION a_TERMINATED a_LIMIT_WARNING a_SUSPEND_WARNING a_TERMINATE_WARNING a_TERMINATE_WARNING' a_TERMINATED' a_LIMITATION a_LIMITED a_SUSPENSION a_SUSPENDED a_DUE_REMINDER a_DUE_REMINDER' a_SUSPEND_WARNING' a_SUSPENDED' a_OVERDUE_REMINDER a_OVERDUE_REMINDER' a_LATE_FEE a_LIMIT_WARNING' a_LIMITED' a_TERMINATION_label a_LIMITATION_label a_SUSPENSION_label) : Fld Z Z.heap a_LIMITATION "com/example/careful_invoicing/carefulinvoicing/CollectionStep" "notice" "Lcom/example/careful_invoicing/carefulinvoicing/NoticeKind;" (.ref a_LIMITED) := FF.2.2.2.2.2.2.2.2.2.2.2.2.2.2.2.2.2.2.2.2.2.2.2.2.2.2.2.2.2.1
theorem ff_F_LIMITED_ordinal {Z : State} {a_TERMINATION : Addr} {a_TERMINATED : Addr} {a_LIMIT_WARNING : Addr} {a_SUSPEND_WARNING : Addr} {a_TERMINATE_WARNING : Addr} {a_TERMINATE_WARNING' : Addr} {a_TERMINATED' : Addr} {a_LIMITATION : Addr} {a_LIMITED : Addr} {a_SUSPENSION : Addr} {a_SUSPENDED : Addr} {a_DUE_REMINDER : Addr} {a_DUE_REMINDER' : Addr} {a_SUSPEND_WARNING' : Addr} {a_SUSPENDED' : Addr} {a_OVERDUE_REMINDER : Addr} {a_OVERDUE_REMINDER' : Addr} {a_LATE_FEE : Addr} {a_LIMIT_WARNING' : Addr} {a_LIMITED' : Addr} {a_TERMINATION_label : Addr} {a_LIMITATION_label : Addr} {a_SUSPENSION_label : Addr} (FF : Facts Z a_TERMINATION a_TERMINATED a_LIMIT_WARNING a_SUSPEND_WARNING a_TERMINATE_WARNING a_TERMINATE_WARNING' a_TERMINATED' a_LIMITATION a_LIMITED a_SUSPENSION a_SUSPENDED a_DUE_REMINDER a_DUE_REMINDER' a_SUSPEND_WARNING' a_SUSPENDED' a_OVERDUE_REMINDER a_OVERDUE_REMINDER' a_LATE_FEE a_LIMIT_WARNING' a_LIMITED' a_TERMINATION_label a_LIMITATION_label a_SUSPENSION_label) : Fld Z Z.heap a_LIMITED "java/lang/Enum" "ordinal" "I" (.int (3 : Int32)) := FF.2.2.2.2.2.2.2.2.2.2.2.2.2.2.2.2.2.2.2.2.2.2.2.2.2.2.2.2.2.2.1
theorem ff_S_SUSPENSION {Z : State} {a_TERMINATION : Addr} {a_TERMINATED : Addr} {a_LIMIT_WARNING : Addr} {a_SUSPEND_WARNING : Addr} {a_TERMINATE_WARNING : Addr} {a_TERMINATE_WARNING' : Addr} {a_TERMINATED' : Addr} {a_LIMITATION : Addr} {a_LIMITED : Addr} {a_SUSPENSION : Addr} {a_SUSPENDED : Addr} {a_DUE_REMINDER : Addr} {a_DUE_REMINDER' : Addr} {a_SUSPEND_WARNING' : Addr} {a_SUSPENDED' : Addr} {a_OVERDUE_REMINDER : Addr} {a_OVERDUE_REMINDER' : Addr} {a_LATE_FEE : Addr} {a_LIMIT_WARNING' : Addr} {a_LIMITED' : Addr} {a_TERMINATION_label : Addr} {a_LIMITATION_label : Addr} {a_SUSPENSION_label : Addr} (FF : Facts Z a_TERMINATION a_TERMINATED a_LIMIT_WARNING a_SUSPEND_WARNING a_TERMINATE_WARNING a_TERMINATE_WARNING' a_TERMINATED' a_LIMITATION a_LIMITED a_SUSPENSION a_SUSPENDED a_DUE_REMINDER a_DUE_REMINDER' a_SUSPEND_WARNING' a_SUSPENDED' a_OVERDUE_REMINDER a_OVERDUE_REMINDER' a_LATE_FEE a_LIMIT_WARNING' a_LIMITED' a_TERMINATION_label a_LIMITATION_label a_SUSPENSION_label) : Sta Z Z.heap "com/example/careful_invoicing/carefulinvoicing/CollectionStep" "SUSPENSION" "Lcom/example/careful_invoicing/carefulinvoicing/CollectionStep;" (.ref a_SUSPENSION) := FF.2.2.2.2.2.2.2.2.2.2.2.2.2.2.2.2.2.2.2.2.2.2.2.2.2.2.2.2.2.2.2.1
theorem ff_E_SUSPENSION {Z : State} {a_TERMINATION : Addr} {a_TERMINATED : Addr} {a_LIMIT_WARNING : Addr} {a_SUSPEND_WARNING : Addr} {a_TERMINATE_WARNING : Addr} {a_TERMINATE_WARNING' : Addr} {a_TERMINATED' : Addr} {a_LIMITATION : Addr} {a_LIMITED : Addr} {a_SUSPENSION : Addr} {a_SUSPENDED : Addr} {a_DUE_REMINDER : Addr} {a_DUE_REMINDER' : Addr} {a_SUSPEND_WARNING' : Addr} {a_SUSPENDED' : Addr} {a_OVERDUE_REMINDER : Addr} {a_OVERDUE_REMINDER' : Addr} {a_LATE_FEE : Addr} {a_LIMIT_WARNING' : Addr} {a_LIMITED' : Addr} {a_TERMINATION_label : Addr} {a_LIMITATION_label : Addr} {a_SUSPENSION_label : Addr} (FF : Facts Z a_TERMINATION a_TERMINATED a_LIMIT_WARNING a_SUSPEND_WARNING a_TERMINATE_WARNING a_TERMINATE_WARNING' a_TERMINATED' a_LIMITATION a_LIMITED a_SUSPENSION a_SUSPENDED a_DUE_REMINDER a_DUE_REMINDER' a_SUSPEND_WARNING' a_SUSPENDED' a_OVERDUE_REMINDER a_OVERDUE_REMINDER' a_LATE_FEE a_LIMIT_WARNING' a_LIMITED' a_TERMINATION_label a_LIMITATION_label a_SUSPENSION_label) : Exa Z Z.heap a_SUSPENSION "com/example/careful_invoicing/carefulinvoicing/CollectionStep" := FF.2.2.2.2.2.2.2.2.2.2.2.2.2.2.2.2.2.2.2.2.2.2.2.2.2.2.2.2.2.2.2.2.1
theorem ff_F_SUSPENSION_warned {Z : State} {a_TERMINATION : Addr} {a_TERMINATED : Addr} {a_LIMIT_WARNING : Addr} {a_SUSPEND_WARNING : Addr} {a_TERMINATE_WARNING : Addr} {a_TERMINATE_WARNING' : Addr} {a_TERMINATED' : Addr} {a_LIMITATION : Addr} {a_LIMITED : Addr} {a_SUSPENSION : Addr} {a_SUSPENDED : Addr} {a_DUE_REMINDER : Addr} {a_DUE_REMINDER' : Addr} {a_SUSPEND_WARNING' : Addr} {a_SUSPENDED' : Addr} {a_OVERDUE_REMINDER : Addr} {a_OVERDUE_REMINDER' : Addr} {a_LATE_FEE : Addr} {a_LIMIT_WARNING' : Addr} {a_LIMITED' : Addr} {a_TERMINATION_label : Addr} {a_LIMITATION_label : Addr} {a_SUSPENSION_label : Addr} (FF : Facts Z a_TERMINATION a_TERMINATED a_LIMIT_WARNING a_SUSPEND_WARNING a_TERMINATE_WARNING a_TERMINATE_WARNING' a_TERMINATED' a_LIMITATION a_LIMITED a_SUSPENSION a_SUSPENDED a_DUE_REMINDER a_DUE_REMINDER' a_SUSPEND_WARNING' a_SUSPENDED' a_OVERDUE_REMINDER a_OVERDUE_REMINDER' a_LATE_FEE a_LIMIT_WARNING' a_LIMITED' a_TERMINATION_label a_LIMITATION_label a_SUSPENSION_label) : Fld Z Z.heap a_SUSPENSION "com/example/careful_invoicing/carefulinvoicing/CollectionStep" "warned" "Lcom/example/careful_invoicing/carefulinvoicing/CollectionStep;" .null := FF.2.2.2.2.2.2.2.2.2.2.2.2.2.2.2.2.2.2.2.2.2.2.2.2.2.2.2.2.2.2.2.2.2.1
theorem ff_S_SUSPENDED {Z : State} {a_TERMINATION : Addr} {a_TERMINATED : Addr} {a_LIMIT_WARNING : Addr} {a_SUSPEND_WARNING : Addr} {a_TERMINATE_WARNING : Addr} {a_TERMINATE_WARNING' : Addr} {a_TERMINATED' : Addr} {a_LIMITATION : Addr} {a_LIMITED : Addr} {a_SUSPENSION : Addr} {a_SUSPENDED : Addr} {a_DUE_REMINDER : Addr} {a_DUE_REMINDER' : Addr} {a_SUSPEND_WARNING' : Addr} {a_SUSPENDED' : Addr} {a_OVERDUE_REMINDER : Addr} {a_OVERDUE_REMINDER' : Addr} {a_LATE_FEE : Addr} {a_LIMIT_WARNING' : Addr} {a_LIMITED' : Addr} {a_TERMINATION_label : Addr} {a_LIMITATION_label : Addr} {a_SUSPENSION_label : Addr} (FF : Facts Z a_TERMINATION a_TERMINATED a_LIMIT_WARNING a_SUSPEND_WARNING a_TERMINATE_WARNING a_TERMINATE_WARNING' a_TERMINATED' a_LIMITATION a_LIMITED a_SUSPENSION a_SUSPENDED a_DUE_REMINDER a_DUE_REMINDER' a_SUSPEND_WARNING' a_SUSPENDED' a_OVERDUE_REMINDER a_OVERDUE_REMINDER' a_LATE_FEE a_LIMIT_WARNING' a_LIMITED' a_TERMINATION_label a_LIMITATION_label a_SUSPENSION_label) : Sta Z Z.heap "com/example/careful_invoicing/carefulinvoicing/NoticeKind" "SUSPENDED" "Lcom/example/careful_invoicing/carefulinvoicing/NoticeKind;" (.ref a_SUSPENDED) := FF.2.2.2.2.2.2.2.2.2.2.2.2.2.2.2.2.2.2.2.2.2.2.2.2.2.2.2.2.2.2.2.2.2.2.1
theorem ff_E_SUSPENDED {Z : State} {a_TERMINATION : Addr} {a_TERMINATED : Addr} {a_LIMIT_WARNING : Addr} {a_SUSPEND_WARNING : Addr} {a_TERMINATE_WARNING : Addr} {a_TERMINATE_WARNING' : Addr} {a_TERMINATED' : Addr} {a_LIMITATION : Addr} {a_LIMITED : Addr} {a_SUSPENSION : Addr} {a_SUSPENDED : Addr} {a_DUE_REMINDER : Addr} {a_DUE_REMINDER' : Addr} {a_SUSPEND_WARNING' : Addr} {a_SUSPENDED' : Addr} {a_OVERDUE_REMINDER : Addr} {a_OVERDUE_REMINDER' : Addr} {a_LATE_FEE : Addr} {a_LIMIT_WARNING' : Addr} {a_LIMITED' : Addr} {a_TERMINATION_label : Addr} {a_LIMITATION_label : Addr} {a_SUSPENSION_label : Addr} (FF : Facts Z a_TERMINATION a_TERMINATED a_LIMIT_WARNING a_SUSPEND_WARNING a_TERMINATE_WARNING a_TERMINATE_WARNING' a_TERMINATED' a_LIMITATION a_LIMITED a_SUSPENSION a_SUSPENDED a_DUE_REMINDER a_DUE_REMINDER' a_SUSPEND_WARNING' a_SUSPENDED' a_OVERDUE_REMINDER a_OVERDUE_REMINDER' a_LATE_FEE a_LIMIT_WARNING' a_LIMITED' a_TERMINATION_label a_LIMITATION_label a_SUSPENSION_label) : Exa Z Z.heap a_SUSPENDED "com/example/careful_invoicing/carefulinvoicing/NoticeKind" := FF.2.2.2.2.2.2.2.2.2.2.2.2.2.2.2.2.2.2.2.2.2.2.2.2.2.2.2.2.2.2.2.2.2.2.2.1
theorem ff_F_SUSPENSION_notice {Z : State} {a_TERMINATION : Addr} {a_TERMINATED : Addr} {a_LIMIT_WARNING : Addr} {a_SUSPEND_WARNING : Addr} {a_TERMINATE_WARNING : Addr} {a_TERMINATE_WARNING' : Addr} {a_TERMINATED' : Addr} {a_LIMITATION : Addr} {a_LIMITED : Addr} {a_SUSPENSION : Addr} {a_SUSPENDED : Addr} {a_DUE_REMINDER : Addr} {a_DUE_REMINDER' : Addr} {a_SUSPEND_WARNING' : Addr} {a_SUSPENDED' : Addr} {a_OVERDUE_REMINDER : Addr} {a_OVERDUE_REMINDER' : Addr} {a_LATE_FEE : Addr} {a_LIMIT_WARNING' : Addr} {a_LIMITED' : Addr} {a_TERMINATION_label : Addr} {a_LIMITATION_label : Addr} {a_SUSPENSION_label : Addr} (FF : Facts Z a_TERMINATION a_TERMINATED a_LIMIT_WARNING a_SUSPEND_WARNING a_TERMINATE_WARNING a_TERMINATE_WARNING' a_TERMINATED' a_LIMITATION a_LIMITED a_SUSPENSION a_SUSPENDED a_DUE_REMINDER a_DUE_REMINDER' a_SUSPEND_WARNING' a_SUSPENDED' a_OVERDUE_REMINDER a_OVERDUE_REMINDER' a_LATE_FEE a_LIMIT_WARNING' a_LIMITED' a_TERMINATION_label a_LIMITATION_label a_SUSPENSION_label) : Fld Z Z.heap a_SUSPENSION "com/example/careful_invoicing/carefulinvoicing/CollectionStep" "notice" "Lcom/example/careful_invoicing/carefulinvoicing/NoticeKind;" (.ref a_SUSPENDED) := FF.2.2.2.2.2.2.2.2.2.2.2.2.2.2.2.2.2.2.2.2.2.2.2.2.2.2.2.2.2.2.2.2.2.2.2.2.1
theorem ff_F_SUSPENDED_ordinal {Z : State} {a_TERMINATION : Addr} {a_TERMINATED : Addr} {a_LIMIT_WARNING : Addr} {a_SUSPEND_WARNING : Addr} {a_TERMINATE_WARNING : Addr} {a_TERMINATE_WARNING' : Addr} {a_TERMINATED' : Addr} {a_LIMITATION : Addr} {a_LIMITED : Addr} {a_SUSPENSION : Addr} {a_SUSPENDED : Addr} {a_DUE_REMINDER : Addr} {a_DUE_REMINDER' : Addr} {a_SUSPEND_WARNING' : Addr} {a_SUSPENDED' : Addr} {a_OVERDUE_REMINDER : Addr} {a_OVERDUE_REMINDER' : Addr} {a_LATE_FEE : Addr} {a_LIMIT_WARNING' : Addr} {a_LIMITED' : Addr} {a_TERMINATION_label : Addr} {a_LIMITATION_label : Addr} {a_SUSPENSION_label : Addr} (FF : Facts Z a_TERMINATION a_TERMINATED a_LIMIT_WARNING a_SUSPEND_WARNING a_TERMINATE_WARNING a_TERMINATE_WARNING' a_TERMINATED' a_LIMITATION a_LIMITED a_SUSPENSION a_SUSPENDED a_DUE_REMINDER a_DUE_REMINDER' a_SUSPEND_WARNING' a_SUSPENDED' a_OVERDUE_REMINDER a_OVERDUE_REMINDER' a_LATE_FEE a_LIMIT_WARNING' a_LIMITED' a_TERMINATION_label a_LIMITATION_label a_SUSPENSION_label) : Fld Z Z.heap a_SUSPENDED "java/lang/Enum" "ordinal" "I" (.int (5 : Int32)) := FF.2.2.2.2.2.2.2.2.2.2.2.2.2.2.2.2.2.2.2.2.2.2.2.2.2.2.2.2.2.2.2.2.2.2.2.2.2.1
theorem ff_S_DUE_REMINDER {Z : State} {a_TERMINATION : Addr} {a_TERMINATED : Addr} {a_LIMIT_WARNING : Addr} {a_SUSPEND_WARNING : Addr} {a_TERMINATE_WARNING : Addr} {a_TERMINATE_WARNING' : Addr} {a_TERMINATED' : Addr} {a_LIMITATION : Addr} {a_LIMITED : Addr} {a_SUSPENSION : Addr} {a_SUSPENDED : Addr} {a_DUE_REMINDER : Addr} {a_DUE_REMINDER' : Addr} {a_SUSPEND_WARNING' : Addr} {a_SUSPENDED' : Addr} {a_OVERDUE_REMINDER : Addr} {a_OVERDUE_REMINDER' : Addr} {a_LATE_FEE : Addr} {a_LIMIT_WARNING' : Addr} {a_LIMITED' : Addr} {a_TERMINATION_label : Addr} {a_LIMITATION_label : Addr} {a_SUSPENSION_label : Addr} (FF : Facts Z a_TERMINATION a_TERMINATED a_LIMIT_WARNING a_SUSPEND_WARNING a_TERMINATE_WARNING a_TERMINATE_WARNING' a_TERMINATED' a_LIMITATION a_LIMITED a_SUSPENSION a_SUSPENDED a_DUE_REMINDER a_DUE_REMINDER' a_SUSPEND_WARNING' a_SUSPENDED' a_OVERDUE_REMINDER a_OVERDUE_REMINDER' a_LATE_FEE a_LIMIT_WARNING' a_LIMITED' a_TERMINATION_label a_LIMITATION_label a_SUSPENSION_label) : Sta Z Z.heap "com/example/careful_invoicing/carefulinvoicing/CollectionStep" "DUE_REMINDER" "Lcom/example/careful_invoicing/carefulinvoicing/CollectionStep;" (.ref a_DUE_REMINDER) := FF.2.2.2.2.2.2.2.2.2.2.2.2.2.2.2.2.2.2.2.2.2.2.2.2.2.2.2.2.2.2.2.2.2.2.2.2.2.2.1
theorem ff_E_DUE_REMINDER {Z : State} {a_TERMINATION : Addr} {a_TERMINATED : Addr} {a_LIMIT_WARNING : Addr} {a_SUSPEND_WARNING : Addr} {a_TERMINATE_WARNING : Addr} {a_TERMINATE_WARNING' : Addr} {a_TERMINATED' : Addr} {a_LIMITATION : Addr} {a_LIMITED : Addr} {a_SUSPENSION : Addr} {a_SUSPENDED : Addr} {a_DUE_REMINDER : Addr} {a_DUE_REMINDER' : Addr} {a_SUSPEND_WARNING' : Addr} {a_SUSPENDED' : Addr} {a_OVERDUE_REMINDER : Addr} {a_OVERDUE_REMINDER' : Addr} {a_LATE_FEE : Addr} {a_LIMIT_WARNING' : Addr} {a_LIMITED' : Addr} {a_TERMINATION_label : Addr} {a_LIMITATION_label : Addr} {a_SUSPENSION_label : Addr} (FF : Facts Z a_TERMINATION a_TERMINATED a_LIMIT_WARNING a_SUSPEND_WARNING a_TERMINATE_WARNING a_TERMINATE_WARNING' a_TERMINATED' a_LIMITATION a_LIMITED a_SUSPENSION a_SUSPENDED a_DUE_REMINDER a_DUE_REMINDER' a_SUSPEND_WARNING' a_SUSPENDED' a_OVERDUE_REMINDER a_OVERDUE_REMINDER' a_LATE_FEE a_LIMIT_WARNING' a_LIMITED' a_TERMINATION_label a_LIMITATION_label a_SUSPENSION_label) : Exa Z Z.heap a_DUE_REMINDER "com/example/careful_invoicing/carefulinvoicing/CollectionStep" := FF.2.2.2.2.2.2.2.2.2.2.2.2.2.2.2.2.2.2.2.2.2.2.2.2.2.2.2.2.2.2.2.2.2.2.2.2.2.2.2.1
theorem ff_F_DUE_REMINDER_warned {Z : State} {a_TERMINATION : Addr} {a_TERMINATED : Addr} {a_LIMIT_WARNING : Addr} {a_SUSPEND_WARNING : Addr} {a_TERMINATE_WARNING : Addr} {a_TERMINATE_WARNING' : Addr} {a_TERMINATED' : Addr} {a_LIMITATION : Addr} {a_LIMITED : Addr} {a_SUSPENSION : Addr} {a_SUSPENDED : Addr} {a_DUE_REMINDER : Addr} {a_DUE_REMINDER' : Addr} {a_SUSPEND_WARNING' : Addr} {a_SUSPENDED' : Addr} {a_OVERDUE_REMINDER : Addr} {a_OVERDUE_REMINDER' : Addr} {a_LATE_FEE : Addr} {a_LIMIT_WARNING' : Addr} {a_LIMITED' : Addr} {a_TERMINATION_label : Addr} {a_LIMITATION_label : Addr} {a_SUSPENSION_label : Addr} (FF : Facts Z a_TERMINATION a_TERMINATED a_LIMIT_WARNING a_SUSPEND_WARNING a_TERMINATE_WARNING a_TERMINATE_WARNING' a_TERMINATED' a_LIMITATION a_LIMITED a_SUSPENSION a_SUSPENDED a_DUE_REMINDER a_DUE_REMINDER' a_SUSPEND_WARNING' a_SUSPENDED' a_OVERDUE_REMINDER a_OVERDUE_REMINDER' a_LATE_FEE a_LIMIT_WARNING' a_LIMITED' a_TERMINATION_label a_LIMITATION_label a_SUSPENSION_label) : Fld Z Z.heap a_DUE_REMINDER "com/example/careful_invoicing/carefulinvoicing/CollectionStep" "warned" "Lcom/example/careful_invoicing/carefulinvoicing/CollectionStep;" .null := FF.2.2.2.2.2.2.2.2.2.2.2.2.2.2.2.2.2.2.2.2.2.2.2.2.2.2.2.2.2.2.2.2.2.2.2.2.2.2.2.2.1
theorem ff_S_DUE_REMINDER' {Z : State} {a_TERMINATION : Addr} {a_TERMINATED : Addr} {a_LIMIT_WARNING : Addr} {a_SUSPEND_WARNING : Addr} {a_TERMINATE_WARNING : Addr} {a_TERMINATE_WARNING' : Addr} {a_TERMINATED' : Addr} {a_LIMITATION : Addr} {a_LIMITED : Addr} {a_SUSPENSION : Addr} {a_SUSPENDED : Addr} {a_DUE_REMINDER : Addr} {a_DUE_REMINDER' : Addr} {a_SUSPEND_WARNING' : Addr} {a_SUSPENDED' : Addr} {a_OVERDUE_REMINDER : Addr} {a_OVERDUE_REMINDER' : Addr} {a_LATE_FEE : Addr} {a_LIMIT_WARNING' : Addr} {a_LIMITED' : Addr} {a_TERMINATION_label : Addr} {a_LIMITATION_label : Addr} {a_SUSPENSION_label : Addr} (FF : Facts Z a_TERMINATION a_TERMINATED a_LIMIT_WARNING a_SUSPEND_WARNING a_TERMINATE_WARNING a_TERMINATE_WARNING' a_TERMINATED' a_LIMITATION a_LIMITED a_SUSPENSION a_SUSPENDED a_DUE_REMINDER a_DUE_REMINDER' a_SUSPEND_WARNING' a_SUSPENDED' a_OVERDUE_REMINDER a_OVERDUE_REMINDER' a_LATE_FEE a_LIMIT_WARNING' a_LIMITED' a_TERMINATION_label a_LIMITATION_label a_SUSPENSION_label) : Sta Z Z.heap "com/example/careful_invoicing/carefulinvoicing/NoticeKind" "DUE_REMINDER" "Lcom/example/careful_invoicing/carefulinvoicing/NoticeKind;" (.ref a_DUE_REMINDER') := FF.2.2.2.2.2.2.2.2.2.2.2.2.2.2.2.2.2.2.2.2.2.2.2.2.2.2.2.2.2.2.2.2.2.2.2.2.2.2.2.2.2.1
theorem ff_E_DUE_REMINDER' {Z : State} {a_TERMINATION : Addr} {a_TERMINATED : Addr} {a_LIMIT_WARNING : Addr} {a_SUSPEND_WARNING : Addr} {a_TERMINATE_WARNING : Addr} {a_TERMINATE_WARNING' : Addr} {a_TERMINATED' : Addr} {a_LIMITATION : Addr} {a_LIMITED : Addr} {a_SUSPENSION : Addr} {a_SUSPENDED : Addr} {a_DUE_REMINDER : Addr} {a_DUE_REMINDER' : Addr} {a_SUSPEND_WARNING' : Addr} {a_SUSPENDED' : Addr} {a_OVERDUE_REMINDER : Addr} {a_OVERDUE_REMINDER' : Addr} {a_LATE_FEE : Addr} {a_LIMIT_WARNING' : Addr} {a_LIMITED' : Addr} {a_TERMINATION_label : Addr} {a_LIMITATION_label : Addr} {a_SUSPENSION_label : Addr} (FF : Facts Z a_TERMINATION a_TERMINATED a_LIMIT_WARNING a_SUSPEND_WARNING a_TERMINATE_WARNING a_TERMINATE_WARNING' a_TERMINATED' a_LIMITATION a_LIMITED a_SUSPENSION a_SUSPENDED a_DUE_REMINDER a_DUE_REMINDER' a_SUSPEND_WARNING' a_SUSPENDED' a_OVERDUE_REMINDER a_OVERDUE_REMINDER' a_LATE_FEE a_LIMIT_WARNING' a_LIMITED' a_TERMINATION_label a_LIMITATION_label a_SUSPENSION_label) : Exa Z Z.heap a_DUE_REMINDER' "com/example/careful_invoicing/carefulinvoicing/NoticeKind" := FF.2.2.2.2.2.2.2.2.2.2.2.2.2.2.2.2.2.2.2.2.2.2.2.2.2.2.2.2.2.2.2.2.2.2.2.2.2.2.2.2.2.2.1
theorem ff_F_DUE_REMINDER_notice {Z : State} {a_TERMINATION : Addr} {a_TERMINATED : Addr} {a_LIMIT_WARNING : Addr} {a_SUSPEND_WARNING : Addr} {a_TERMINATE_WARNING : Addr} {a_TERMINATE_WARNING' : Addr} {a_TERMINATED' : Addr} {a_LIMITATION : Addr} {a_LIMITED : Addr} {a_SUSPENSION : Addr} {a_SUSPENDED : Addr} {a_DUE_REMINDER : Addr} {a_DUE_REMINDER' : Addr} {a_SUSPEND_WARNING' : Addr} {a_SUSPENDED' : Addr} {a_OVERDUE_REMINDER : Addr} {a_OVERDUE_REMINDER' : Addr} {a_LATE_FEE : Addr} {a_LIMIT_WARNING' : Addr} {a_LIMITED' : Addr} {a_TERMINATION_label : Addr} {a_LIMITATION_label : Addr} {a_SUSPENSION_label : Addr} (FF : Facts Z a_TERMINATION a_TERMINATED a_LIMIT_WARNING a_SUSPEND_WARNING a_TERMINATE_WARNING a_TERMINATE_WARNING' a_TERMINATED' a_LIMITATION a_LIMITED a_SUSPENSION a_SUSPENDED a_DUE_REMINDER a_DUE_REMINDER' a_SUSPEND_WARNING' a_SUSPENDED' a_OVERDUE_REMINDER a_OVERDUE_REMINDER' a_LATE_FEE a_LIMIT_WARNING' a_LIMITED' a_TERMINATION_label a_LIMITATION_label a_SUSPENSION_label) : Fld Z Z.heap a_DUE_REMINDER "com/example/careful_invoicing/carefulinvoicing/CollectionStep" "notice" "Lcom/example/careful_invoicing/carefulinvoicing/NoticeKind;" (.ref a_DUE_REMINDER') := FF.2.2.2.2.2.2.2.2.2.2.2.2.2.2.2.2.2.2.2.2.2.2.2.2.2.2.2.2.2.2.2.2.2.2.2.2.2.2.2.2.2.2.2.1
theorem ff_F_DUE_REMINDER'_ordinal {Z : State} {a_TERMINATION : Addr} {a_TERMINATED : Addr} {a_LIMIT_WARNING : Addr} {a_SUSPEND_WARNING : Addr} {a_TERMINATE_WARNING : Addr} {a_TERMINATE_WARNING' : Addr} {a_TERMINATED' : Addr} {a_LIMITATION : Addr} {a_LIMITED : Addr} {a_SUSPENSION : Addr} {a_SUSPENDED : Addr} {a_DUE_REMINDER : Addr} {a_DUE_REMINDER' : Addr} {a_SUSPEND_WARNING' : Addr} {a_SUSPENDED' : Addr} {a_OVERDUE_REMINDER : Addr} {a_OVERDUE_REMINDER' : Addr} {a_LATE_FEE : Addr} {a_LIMIT_WARNING' : Addr} {a_LIMITED' : Addr} {a_TERMINATION_label : Addr} {a_LIMITATION_label : Addr} {a_SUSPENSION_label : Addr} (FF : Facts Z a_TERMINATION a_TERMINATED a_LIMIT_WARNING a_SUSPEND_WARNING a_TERMINATE_WARNING a_TERMINATE_WARNING' a_TERMINATED' a_LIMITATION a_LIMITED a_SUSPENSION a_SUSPENDED a_DUE_REMINDER a_DUE_REMINDER' a_SUSPEND_WARNING' a_SUSPENDED' a_OVERDUE_REMINDER a_OVERDUE_REMINDER' a_LATE_FEE a_LIMIT_WARNING' a_LIMITED' a_TERMINATION_label a_LIMITATION_label a_SUSPENSION_label) : Fld Z Z.heap a_DUE_REMINDER' "java/lang/Enum" "ordinal" "I" (.int (0 : Int32)) := FF.2.2.2.2.2.2.2.2.2.2.2.2.2.2.2.2.2.2.2.2.2.2.2.2.2.2.2.2.2.2.2.2.2.2.2.2.2.2.2.2.2.2.2.2.1
theorem ff_S_SUSPEND_WARNING' {Z : State} {a_TERMINATION : Addr} {a_TERMINATED : Addr} {a_LIMIT_WARNING : Addr} {a_SUSPEND_WARNING : Addr} {a_TERMINATE_WARNING : Addr} {a_TERMINATE_WARNING' : Addr} {a_TERMINATED' : Addr} {a_LIMITATION : Addr} {a_LIMITED : Addr} {a_SUSPENSION : Addr} {a_SUSPENDED : Addr} {a_DUE_REMINDER : Addr} {a_DUE_REMINDER' : Addr} {a_SUSPEND_WARNING' : Addr} {a_SUSPENDED' : Addr} {a_OVERDUE_REMINDER : Addr} {a_OVERDUE_REMINDER' : Addr} {a_LATE_FEE : Addr} {a_LIMIT_WARNING' : Addr} {a_LIMITED' : Addr} {a_TERMINATION_label : Addr} {a_LIMITATION_label : Addr} {a_SUSPENSION_label : Addr} (FF : Facts Z a_TERMINATION a_TERMINATED a_LIMIT_WARNING a_SUSPEND_WARNING a_TERMINATE_WARNING a_TERMINATE_WARNING' a_TERMINATED' a_LIMITATION a_LIMITED a_SUSPENSION a_SUSPENDED a_DUE_REMINDER a_DUE_REMINDER' a_SUSPEND_WARNING' a_SUSPENDED' a_OVERDUE_REMINDER a_OVERDUE_REMINDER' a_LATE_FEE a_LIMIT_WARNING' a_LIMITED' a_TERMINATION_label a_LIMITATION_label a_SUSPENSION_label) : Sta Z Z.heap "com/example/careful_invoicing/carefulinvoicing/CollectionStep" "SUSPEND_WARNING" "Lcom/example/careful_invoicing/carefulinvoicing/CollectionStep;" (.ref a_SUSPEND_WARNING') := FF.2.2.2.2.2.2.2.2.2.2.2.2.2.2.2.2.2.2.2.2.2.2.2.2.2.2.2.2.2.2.2.2.2.2.2.2.2.2.2.2.2.2.2.2.2.1
theorem ff_E_SUSPEND_WARNING' {Z : State} {a_TERMINATION : Addr} {a_TERMINATED : Addr} {a_LIMIT_WARNING : Addr} {a_SUSPEND_WARNING : Addr} {a_TERMINATE_WARNING : Addr} {a_TERMINATE_WARNING' : Addr} {a_TERMINATED' : Addr} {a_LIMITATION : Addr} {a_LIMITED : Addr} {a_SUSPENSION : Addr} {a_SUSPENDED : Addr} {a_DUE_REMINDER : Addr} {a_DUE_REMINDER' : Addr} {a_SUSPEND_WARNING' : Addr} {a_SUSPENDED' : Addr} {a_OVERDUE_REMINDER : Addr} {a_OVERDUE_REMINDER' : Addr} {a_LATE_FEE : Addr} {a_LIMIT_WARNING' : Addr} {a_LIMITED' : Addr} {a_TERMINATION_label : Addr} {a_LIMITATION_label : Addr} {a_SUSPENSION_label : Addr} (FF : Facts Z a_TERMINATION a_TERMINATED a_LIMIT_WARNING a_SUSPEND_WARNING a_TERMINATE_WARNING a_TERMINATE_WARNING' a_TERMINATED' a_LIMITATION a_LIMITED a_SUSPENSION a_SUSPENDED a_DUE_REMINDER a_DUE_REMINDER' a_SUSPEND_WARNING' a_SUSPENDED' a_OVERDUE_REMINDER a_OVERDUE_REMINDER' a_LATE_FEE a_LIMIT_WARNING' a_LIMITED' a_TERMINATION_label a_LIMITATION_label a_SUSPENSION_label) : Exa Z Z.heap a_SUSPEND_WARNING' "com/example/careful_invoicing/carefulinvoicing/CollectionStep" := FF.2.2.2.2.2.2.2.2.2.2.2.2.2.2.2.2.2.2.2.2.2.2.2.2.2.2.2.2.2.2.2.2.2.2.2.2.2.2.2.2.2.2.2.2.2.2.1
theorem ff_F_SUSPEND_WARNING'_warned {Z : State} {a_TERMINATION : Addr} {a_TERMINATED : Addr} {a_LIMIT_WARNING : Addr} {a_SUSPEND_WARNING : Addr} {a_TERMINATE_WARNING : Addr} {a_TERMINATE_WARNING' : Addr} {a_TERMINATED' : Addr} {a_LIMITATION : Addr} {a_LIMITED : Addr} {a_SUSPENSION : Addr} {a_SUSPENDED : Addr} {a_DUE_REMINDER : Addr} {a_DUE_REMINDER' : Addr} {a_SUSPEND_WARNING' : Addr} {a_SUSPENDED' : Addr} {a_OVERDUE_REMINDER : Addr} {a_OVERDUE_REMINDER' : Addr} {a_LATE_FEE : Addr} {a_LIMIT_WARNING' : Addr} {a_LIMITED' : Addr} {a_TERMINATION_label : Addr} {a_LIMITATION_label : Addr} {a_SUSPENSION_label : Addr} (FF : Facts Z a_TERMINATION a_TERMINATED a_LIMIT_WARNING a_SUSPEND_WARNING a_TERMINATE_WARNING a_TERMINATE_WARNING' a_TERMINATED' a_LIMITATION a_LIMITED a_SUSPENSION a_SUSPENDED a_DUE_REMINDER a_DUE_REMINDER' a_SUSPEND_WARNING' a_SUSPENDED' a_OVERDUE_REMINDER a_OVERDUE_REMINDER' a_LATE_FEE a_LIMIT_WARNING' a_LIMITED' a_TERMINATION_label a_LIMITATION_label a_SUSPENSION_label) : Fld Z Z.heap a_SUSPEND_WARNING' "com/example/careful_invoicing/carefulinvoicing/CollectionStep" "warned" "Lcom/example/careful_invoicing/carefulinvoicing/CollectionStep;" (.ref a_SUSPENSION) := FF.2.2.2.2.2.2.2.2.2.2.2.2.2.2.2.2.2.2.2.2.2.2.2.2.2.2.2.2.2.2.2.2.2.2.2.2.2.2.2.2.2.2.2.2.2.2.2.1
theorem ff_F_SUSPEND_WARNING'_notice {Z : State} {a_TERMINATION : Addr} {a_TERMINATED : Addr} {a_LIMIT_WARNING : Addr} {a_SUSPEND_WARNING : Addr} {a_TERMINATE_WARNING : Addr} {a_TERMINATE_WARNING' : Addr} {a_TERMINATED' : Addr} {a_LIMITATION : Addr} {a_LIMITED : Addr} {a_SUSPENSION : Addr} {a_SUSPENDED : Addr} {a_DUE_REMINDER : Addr} {a_DUE_REMINDER' : Addr} {a_SUSPEND_WARNING' : Addr} {a_SUSPENDED' : Addr} {a_OVERDUE_REMINDER : Addr} {a_OVERDUE_REMINDER' : Addr} {a_LATE_FEE : Addr} {a_LIMIT_WARNING' : Addr} {a_LIMITED' : Addr} {a_TERMINATION_label : Addr} {a_LIMITATION_label : Addr} {a_SUSPENSION_label : Addr} (FF : Facts Z a_TERMINATION a_TERMINATED a_LIMIT_WARNING a_SUSPEND_WARNING a_TERMINATE_WARNING a_TERMINATE_WARNING' a_TERMINATED' a_LIMITATION a_LIMITED a_SUSPENSION a_SUSPENDED a_DUE_REMINDER a_DUE_REMINDER' a_SUSPEND_WARNING' a_SUSPENDED' a_OVERDUE_REMINDER a_OVERDUE_REMINDER' a_LATE_FEE a_LIMIT_WARNING' a_LIMITED' a_TERMINATION_label a_LIMITATION_label a_SUSPENSION_label) : Fld Z Z.heap a_SUSPEND_WARNING' "com/example/careful_invoicing/carefulinvoicing/CollectionStep" "notice" "Lcom/example/careful_invoicing/carefulinvoicing/NoticeKind;" (.ref a_SUSPEND_WARNING) := FF.2.2.2.2.2.2.2.2.2.2.2.2.2.2.2.2.2.2.2.2.2.2.2.2.2.2.2.2.2.2.2.2.2.2.2.2.2.2.2.2.2.2.2.2.2.2.2.2.1
theorem ff_F_SUSPEND_WARNING'_label {Z : State} {a_TERMINATION : Addr} {a_TERMINATED : Addr} {a_LIMIT_WARNING : Addr} {a_SUSPEND_WARNING : Addr} {a_TERMINATE_WARNING : Addr} {a_TERMINATE_WARNING' : Addr} {a_TERMINATED' : Addr} {a_LIMITATION : Addr} {a_LIMITED : Addr} {a_SUSPENSION : Addr} {a_SUSPENDED : Addr} {a_DUE_REMINDER : Addr} {a_DUE_REMINDER' : Addr} {a_SUSPEND_WARNING' : Addr} {a_SUSPENDED' : Addr} {a_OVERDUE_REMINDER : Addr} {a_OVERDUE_REMINDER' : Addr} {a_LATE_FEE : Addr} {a_LIMIT_WARNING' : Addr} {a_LIMITED' : Addr} {a_TERMINATION_label : Addr} {a_LIMITATION_label : Addr} {a_SUSPENSION_label : Addr} (FF : Facts Z a_TERMINATION a_TERMINATED a_LIMIT_WARNING a_SUSPEND_WARNING a_TERMINATE_WARNING a_TERMINATE_WARNING' a_TERMINATED' a_LIMITATION a_LIMITED a_SUSPENSION a_SUSPENDED a_DUE_REMINDER a_DUE_REMINDER' a_SUSPEND_WARNING' a_SUSPENDED' a_OVERDUE_REMINDER a_OVERDUE_REMINDER' a_LATE_FEE a_LIMIT_WARNING' a_LIMITED' a_TERMINATION_label a_LIMITATION_label a_SUSPENSION_label) : Fld Z Z.heap a_SUSPEND_WARNING' "com/example/careful_invoicing/carefulinvoicing/CollectionStep" "label" "Ljava/lang/String;" .null := FF.2.2.2.2.2.2.2.2.2.2.2.2.2.2.2.2.2.2.2.2.2.2.2.2.2.2.2.2.2.2.2.2.2.2.2.2.2.2.2.2.2.2.2.2.2.2.2.2.2.1
theorem ff_S_SUSPENDED' {Z : State} {a_TERMINATION : Addr} {a_TERMINATED : Addr} {a_LIMIT_WARNING : Addr} {a_SUSPEND_WARNING : Addr} {a_TERMINATE_WARNING : Addr} {a_TERMINATE_WARNING' : Addr} {a_TERMINATED' : Addr} {a_LIMITATION : Addr} {a_LIMITED : Addr} {a_SUSPENSION : Addr} {a_SUSPENDED : Addr} {a_DUE_REMINDER : Addr} {a_DUE_REMINDER' : Addr} {a_SUSPEND_WARNING' : Addr} {a_SUSPENDED' : Addr} {a_OVERDUE_REMINDER : Addr} {a_OVERDUE_REMINDER' : Addr} {a_LATE_FEE : Addr} {a_LIMIT_WARNING' : Addr} {a_LIMITED' : Addr} {a_TERMINATION_label : Addr} {a_LIMITATION_label : Addr} {a_SUSPENSION_label : Addr} (FF : Facts Z a_TERMINATION a_TERMINATED a_LIMIT_WARNING a_SUSPEND_WARNING a_TERMINATE_WARNING a_TERMINATE_WARNING' a_TERMINATED' a_LIMITATION a_LIMITED a_SUSPENSION a_SUSPENDED a_DUE_REMINDER a_DUE_REMINDER' a_SUSPEND_WARNING' a_SUSPENDED' a_OVERDUE_REMINDER a_OVERDUE_REMINDER' a_LATE_FEE a_LIMIT_WARNING' a_LIMITED' a_TERMINATION_label a_LIMITATION_label a_SUSPENSION_label) : Sta Z Z.heap "com/example/careful_invoicing/carefulinvoicing/CustomerStatus" "SUSPENDED" "Lcom/example/careful_invoicing/carefulinvoicing/CustomerStatus;" (.ref a_SUSPENDED') := FF.2.2.2.2.2.2.2.2.2.2.2.2.2.2.2.2.2.2.2.2.2.2.2.2.2.2.2.2.2.2.2.2.2.2.2.2.2.2.2.2.2.2.2.2.2.2.2.2.2.2.1
theorem ff_E_SUSPENDED' {Z : State} {a_TERMINATION : Addr} {a_TERMINATED : Addr} {a_LIMIT_WARNING : Addr} {a_SUSPEND_WARNING : Addr} {a_TERMINATE_WARNING : Addr} {a_TERMINATE_WARNING' : Addr} {a_TERMINATED' : Addr} {a_LIMITATION : Addr} {a_LIMITED : Addr} {a_SUSPENSION : Addr} {a_SUSPENDED : Addr} {a_DUE_REMINDER : Addr} {a_DUE_REMINDER' : Addr} {a_SUSPEND_WARNING' : Addr} {a_SUSPENDED' : Addr} {a_OVERDUE_REMINDER : Addr} {a_OVERDUE_REMINDER' : Addr} {a_LATE_FEE : Addr} {a_LIMIT_WARNING' : Addr} {a_LIMITED' : Addr} {a_TERMINATION_label : Addr} {a_LIMITATION_label : Addr} {a_SUSPENSION_label : Addr} (FF : Facts Z a_TERMINATION a_TERMINATED a_LIMIT_WARNING a_SUSPEND_WARNING a_TERMINATE_WARNING a_TERMINATE_WARNING' a_TERMINATED' a_LIMITATION a_LIMITED a_SUSPENSION a_SUSPENDED a_DUE_REMINDER a_DUE_REMINDER' a_SUSPEND_WARNING' a_SUSPENDED' a_OVERDUE_REMINDER a_OVERDUE_REMINDER' a_LATE_FEE a_LIMIT_WARNING' a_LIMITED' a_TERMINATION_label a_LIMITATION_label a_SUSPENSION_label) : Exa Z Z.heap a_SUSPENDED' "com/example/careful_invoicing/carefulinvoicing/CustomerStatus" := FF.2.2.2.2.2.2.2.2.2.2.2.2.2.2.2.2.2.2.2.2.2.2.2.2.2.2.2.2.2.2.2.2.2.2.2.2.2.2.2.2.2.2.2.2.2.2.2.2.2.2.2.1
theorem ff_F_SUSPEND_WARNING'_status {Z : State} {a_TERMINATION : Addr} {a_TERMINATED : Addr} {a_LIMIT_WARNING : Addr} {a_SUSPEND_WARNING : Addr} {a_TERMINATE_WARNING : Addr} {a_TERMINATE_WARNING' : Addr} {a_TERMINATED' : Addr} {a_LIMITATION : Addr} {a_LIMITED : Addr} {a_SUSPENSION : Addr} {a_SUSPENDED : Addr} {a_DUE_REMINDER : Addr} {a_DUE_REMINDER' : Addr} {a_SUSPEND_WARNING' : Addr} {a_SUSPENDED' : Addr} {a_OVERDUE_REMINDER : Addr} {a_OVERDUE_REMINDER' : Addr} {a_LATE_FEE : Addr} {a_LIMIT_WARNING' : Addr} {a_LIMITED' : Addr} {a_TERMINATION_label : Addr} {a_LIMITATION_label : Addr} {a_SUSPENSION_label : Addr} (FF : Facts Z a_TERMINATION a_TERMINATED a_LIMIT_WARNING a_SUSPEND_WARNING a_TERMINATE_WARNING a_TERMINATE_WARNING' a_TERMINATED' a_LIMITATION a_LIMITED a_SUSPENSION a_SUSPENDED a_DUE_REMINDER a_DUE_REMINDER' a_SUSPEND_WARNING' a_SUSPENDED' a_OVERDUE_REMINDER a_OVERDUE_REMINDER' a_LATE_FEE a_LIMIT_WARNING' a_LIMITED' a_TERMINATION_label a_LIMITATION_label a_SUSPENSION_label) : Fld Z Z.heap a_SUSPEND_WARNING' "com/example/careful_invoicing/carefulinvoicing/CollectionStep" "status" "Lcom/example/careful_invoicing/carefulinvoicing/CustomerStatus;" (.ref a_SUSPENDED') := FF.2.2.2.2.2.2.2.2.2.2.2.2.2.2.2.2.2.2.2.2.2.2.2.2.2.2.2.2.2.2.2.2.2.2.2.2.2.2.2.2.2.2.2.2.2.2.2.2.2.2.2.2.1
theorem ff_S_OVERDUE_REMINDER {Z : State} {a_TERMINATION : Addr} {a_TERMINATED : Addr} {a_LIMIT_WARNING : Addr} {a_SUSPEND_WARNING : Addr} {a_TERMINATE_WARNING : Addr} {a_TERMINATE_WARNING' : Addr} {a_TERMINATED' : Addr} {a_LIMITATION : Addr} {a_LIMITED : Addr} {a_SUSPENSION : Addr} {a_SUSPENDED : Addr} {a_DUE_REMINDER : Addr} {a_DUE_REMINDER' : Addr} {a_SUSPEND_WARNING' : Addr} {a_SUSPENDED' : Addr} {a_OVERDUE_REMINDER : Addr} {a_OVERDUE_REMINDER' : Addr} {a_LATE_FEE : Addr} {a_LIMIT_WARNING' : Addr} {a_LIMITED' : Addr} {a_TERMINATION_label : Addr} {a_LIMITATION_label : Addr} {a_SUSPENSION_label : Addr} (FF : Facts Z a_TERMINATION a_TERMINATED a_LIMIT_WARNING a_SUSPEND_WARNING a_TERMINATE_WARNING a_TERMINATE_WARNING' a_TERMINATED' a_LIMITATION a_LIMITED a_SUSPENSION a_SUSPENDED a_DUE_REMINDER a_DUE_REMINDER' a_SUSPEND_WARNING' a_SUSPENDED' a_OVERDUE_REMINDER a_OVERDUE_REMINDER' a_LATE_FEE a_LIMIT_WARNING' a_LIMITED' a_TERMINATION_label a_LIMITATION_label a_SUSPENSION_label) : Sta Z Z.heap "com/example/careful_invoicing/carefulinvoicing/CollectionStep" "OVERDUE_REMINDER" "Lcom/example/careful_invoicing/carefulinvoicing/CollectionStep;" (.ref a_OVERDUE_REMINDER) := FF.2.2.2.2.2.2.2.2.2.2.2.2.2.2.2.2.2.2.2.2.2.2.2.2.2.2.2.2.2.2.2.2.2.2.2.2.2.2.2.2.2.2.2.2.2.2.2.2.2.2.2.2.2.1
theorem ff_E_OVERDUE_REMINDER {Z : State} {a_TERMINATION : Addr} {a_TERMINATED : Addr} {a_LIMIT_WARNING : Addr} {a_SUSPEND_WARNING : Addr} {a_TERMINATE_WARNING : Addr} {a_TERMINATE_WARNING' : Addr} {a_TERMINATED' : Addr} {a_LIMITATION : Addr} {a_LIMITED : Addr} {a_SUSPENSION : Addr} {a_SUSPENDED : Addr} {a_DUE_REMINDER : Addr} {a_DUE_REMINDER' : Addr} {a_SUSPEND_WARNING' : Addr} {a_SUSPENDED' : Addr} {a_OVERDUE_REMINDER : Addr} {a_OVERDUE_REMINDER' : Addr} {a_LATE_FEE : Addr} {a_LIMIT_WARNING' : Addr} {a_LIMITED' : Addr} {a_TERMINATION_label : Addr} {a_LIMITATION_label : Addr} {a_SUSPENSION_label : Addr} (FF : Facts Z a_TERMINATION a_TERMINATED a_LIMIT_WARNING a_SUSPEND_WARNING a_TERMINATE_WARNING a_TERMINATE_WARNING' a_TERMINATED' a_LIMITATION a_LIMITED a_SUSPENSION a_SUSPENDED a_DUE_REMINDER a_DUE_REMINDER' a_SUSPEND_WARNING' a_SUSPENDED' a_OVERDUE_REMINDER a_OVERDUE_REMINDER' a_LATE_FEE a_LIMIT_WARNING' a_LIMITED' a_TERMINATION_label a_LIMITATION_label a_SUSPENSION_label) : Exa Z Z.heap a_OVERDUE_REMINDER "com/example/careful_invoicing/carefulinvoicing/CollectionStep" := FF.2.2.2.2.2.2.2.2.2.2.2.2.2.2.2.2.2.2.2.2.2.2.2.2.2.2.2.2.2.2.2.2.2.2.2.2.2.2.2.2.2.2.2.2.2.2.2.2.2.2.2.2.2.2.1
theorem ff_F_OVERDUE_REMINDER_warned {Z : State} {a_TERMINATION : Addr} {a_TERMINATED : Addr} {a_LIMIT_WARNING : Addr} {a_SUSPEND_WARNING : Addr} {a_TERMINATE_WARNING : Addr} {a_TERMINATE_WARNING' : Addr} {a_TERMINATED' : Addr} {a_LIMITATION : Addr} {a_LIMITED : Addr} {a_SUSPENSION : Addr} {a_SUSPENDED : Addr} {a_DUE_REMINDER : Addr} {a_DUE_REMINDER' : Addr} {a_SUSPEND_WARNING' : Addr} {a_SUSPENDED' : Addr} {a_OVERDUE_REMINDER : Addr} {a_OVERDUE_REMINDER' : Addr} {a_LATE_FEE : Addr} {a_LIMIT_WARNING' : Addr} {a_LIMITED' : Addr} {a_TERMINATION_label : Addr} {a_LIMITATION_label : Addr} {a_SUSPENSION_label : Addr} (FF : Facts Z a_TERMINATION a_TERMINATED a_LIMIT_WARNING a_SUSPEND_WARNING a_TERMINATE_WARNING a_TERMINATE_WARNING' a_TERMINATED' a_LIMITATION a_LIMITED a_SUSPENSION a_SUSPENDED a_DUE_REMINDER a_DUE_REMINDER' a_SUSPEND_WARNING' a_SUSPENDED' a_OVERDUE_REMINDER a_OVERDUE_REMINDER' a_LATE_FEE a_LIMIT_WARNING' a_LIMITED' a_TERMINATION_label a_LIMITATION_label a_SUSPENSION_label) : Fld Z Z.heap a_OVERDUE_REMINDER "com/example/careful_invoicing/carefulinvoicing/CollectionStep" "warned" "Lcom/example/careful_invoicing/carefulinvoicing/CollectionStep;" .null := FF.2.2.2.2.2.2.2.2.2.2.2.2.2.2.2.2.2.2.2.2.2.2.2.2.2.2.2.2.2.2.2.2.2.2.2.2.2.2.2.2.2.2.2.2.2.2.2.2.2.2.2.2.2.2.2.1
theorem ff_S_OVERDUE_REMINDER' {Z : State} {a_TERMINATION : Addr} {a_TERMINATED : Addr} {a_LIMIT_WARNING : Addr} {a_SUSPEND_WARNING : Addr} {a_TERMINATE_WARNING : Addr} {a_TERMINATE_WARNING' : Addr} {a_TERMINATED' : Addr} {a_LIMITATION : Addr} {a_LIMITED : Addr} {a_SUSPENSION : Addr} {a_SUSPENDED : Addr} {a_DUE_REMINDER : Addr} {a_DUE_REMINDER' : Addr} {a_SUSPEND_WARNING' : Addr} {a_SUSPENDED' : Addr} {a_OVERDUE_REMINDER : Addr} {a_OVERDUE_REMINDER' : Addr} {a_LATE_FEE : Addr} {a_LIMIT_WARNING' : Addr} {a_LIMITED' : Addr} {a_TERMINATION_label : Addr} {a_LIMITATION_label : Addr} {a_SUSPENSION_label : Addr} (FF : Facts Z a_TERMINATION a_TERMINATED a_LIMIT_WARNING a_SUSPEND_WARNING a_TERMINATE_WARNING a_TERMINATE_WARNING' a_TERMINATED' a_LIMITATION a_LIMITED a_SUSPENSION a_SUSPENDED a_DUE_REMINDER a_DUE_REMINDER' a_SUSPEND_WARNING' a_SUSPENDED' a_OVERDUE_REMINDER a_OVERDUE_REMINDER' a_LATE_FEE a_LIMIT_WARNING' a_LIMITED' a_TERMINATION_label a_LIMITATION_label a_SUSPENSION_label) : Sta Z Z.heap "com/example/careful_invoicing/carefulinvoicing/NoticeKind" "OVERDUE_REMINDER" "Lcom/example/careful_invoicing/carefulinvoicing/NoticeKind;" (.ref a_OVERDUE_REMINDER') := FF.2.2.2.2.2.2.2.2.2.2.2.2.2.2.2.2.2.2.2.2.2.2.2.2.2.2.2.2.2.2.2.2.2.2.2.2.2.2.2.2.2.2.2.2.2.2.2.2.2.2.2.2.2.2.2.2.1
theorem ff_E_OVERDUE_REMINDER' {Z : State} {a_TERMINATION : Addr} {a_TERMINATED : Addr} {a_LIMIT_WARNING : Addr} {a_SUSPEND_WARNING : Addr} {a_TERMINATE_WARNING : Addr} {a_TERMINATE_WARNING' : Addr} {a_TERMINATED' : Addr} {a_LIMITATION : Addr} {a_LIMITED : Addr} {a_SUSPENSION : Addr} {a_SUSPENDED : Addr} {a_DUE_REMINDER : Addr} {a_DUE_REMINDER' : Addr} {a_SUSPEND_WARNING' : Addr} {a_SUSPENDED' : Addr} {a_OVERDUE_REMINDER : Addr} {a_OVERDUE_REMINDER' : Addr} {a_LATE_FEE : Addr} {a_LIMIT_WARNING' : Addr} {a_LIMITED' : Addr} {a_TERMINATION_label : Addr} {a_LIMITATION_label : Addr} {a_SUSPENSION_label : Addr} (FF : Facts Z a_TERMINATION a_TERMINATED a_LIMIT_WARNING a_SUSPEND_WARNING a_TERMINATE_WARNING a_TERMINATE_WARNING' a_TERMINATED' a_LIMITATION a_LIMITED a_SUSPENSION a_SUSPENDED a_DUE_REMINDER a_DUE_REMINDER' a_SUSPEND_WARNING' a_SUSPENDED' a_OVERDUE_REMINDER a_OVERDUE_REMINDER' a_LATE_FEE a_LIMIT_WARNING' a_LIMITED' a_TERMINATION_label a_LIMITATION_label a_SUSPENSION_label) : Exa Z Z.heap a_OVERDUE_REMINDER' "com/example/careful_invoicing/carefulinvoicing/NoticeKind" := FF.2.2.2.2.2.2.2.2.2.2.2.2.2.2.2.2.2.2.2.2.2.2.2.2.2.2.2.2.2.2.2.2.2.2.2.2.2.2.2.2.2.2.2.2.2.2.2.2.2.2.2.2.2.2.2.2.2.1
theorem ff_F_OVERDUE_REMINDER_notice {Z : State} {a_TERMINATION : Addr} {a_TERMINATED : Addr} {a_LIMIT_WARNING : Addr} {a_SUSPEND_WARNING : Addr} {a_TERMINATE_WARNING : Addr} {a_TERMINATE_WARNING' : Addr} {a_TERMINATED' : Addr} {a_LIMITATION : Addr} {a_LIMITED : Addr} {a_SUSPENSION : Addr} {a_SUSPENDED : Addr} {a_DUE_REMINDER : Addr} {a_DUE_REMINDER' : Addr} {a_SUSPEND_WARNING' : Addr} {a_SUSPENDED' : Addr} {a_OVERDUE_REMINDER : Addr} {a_OVERDUE_REMINDER' : Addr} {a_LATE_FEE : Addr} {a_LIMIT_WARNING' : Addr} {a_LIMITED' : Addr} {a_TERMINATION_label : Addr} {a_LIMITATION_label : Addr} {a_SUSPENSION_label : Addr} (FF : Facts Z a_TERMINATION a_TERMINATED a_LIMIT_WARNING a_SUSPEND_WARNING a_TERMINATE_WARNING a_TERMINATE_WARNING' a_TERMINATED' a_LIMITATION a_LIMITED a_SUSPENSION a_SUSPENDED a_DUE_REMINDER a_DUE_REMINDER' a_SUSPEND_WARNING' a_SUSPENDED' a_OVERDUE_REMINDER a_OVERDUE_REMINDER' a_LATE_FEE a_LIMIT_WARNING' a_LIMITED' a_TERMINATION_label a_LIMITATION_label a_SUSPENSION_label) : Fld Z Z.heap a_OVERDUE_REMINDER "com/example/careful_invoicing/carefulinvoicing/CollectionStep" "notice" "Lcom/example/careful_invoicing/carefulinvoicing/NoticeKind;" (.ref a_OVERDUE_REMINDER') := FF.2.2.2.2.2.2.2.2.2.2.2.2.2.2.2.2.2.2.2.2.2.2.2.2.2.2.2.2.2.2.2.2.2.2.2.2.2.2.2.2.2.2.2.2.2.2.2.2.2.2.2.2.2.2.2.2.2.2.1
theorem ff_F_OVERDUE_REMINDER'_ordinal {Z : State} {a_TERMINATION : Addr} {a_TERMINATED : Addr} {a_LIMIT_WARNING : Addr} {a_SUSPEND_WARNING : Addr} {a_TERMINATE_WARNING : Addr} {a_TERMINATE_WARNING' : Addr} {a_TERMINATED' : Addr} {a_LIMITATION : Addr} {a_LIMITED : Addr} {a_SUSPENSION : Addr} {a_SUSPENDED : Addr} {a_DUE_REMINDER : Addr} {a_DUE_REMINDER' : Addr} {a_SUSPEND_WARNING' : Addr} {a_SUSPENDED' : Addr} {a_OVERDUE_REMINDER : Addr} {a_OVERDUE_REMINDER' : Addr} {a_LATE_FEE : Addr} {a_LIMIT_WARNING' : Addr} {a_LIMITED' : Addr} {a_TERMINATION_label : Addr} {a_LIMITATION_label : Addr} {a_SUSPENSION_label : Addr} (FF : Facts Z a_TERMINATION a_TERMINATED a_LIMIT_WARNING a_SUSPEND_WARNING a_TERMINATE_WARNING a_TERMINATE_WARNING' a_TERMINATED' a_LIMITATION a_LIMITED a_SUSPENSION a_SUSPENDED a_DUE_REMINDER a_DUE_REMINDER' a_SUSPEND_WARNING' a_SUSPENDED' a_OVERDUE_REMINDER a_OVERDUE_REMINDER' a_LATE_FEE a_LIMIT_WARNING' a_LIMITED' a_TERMINATION_label a_LIMITATION_label a_SUSPENSION_label) : Fld Z Z.heap a_OVERDUE_REMINDER' "java/lang/Enum" "ordinal" "I" (.int (1 : Int32)) := FF.2.2.2.2.2.2.2.2.2.2.2.2.2.2.2.2.2.2.2.2.2.2.2.2.2.2.2.2.2.2.2.2.2.2.2.2.2.2.2.2.2.2.2.2.2.2.2.2.2.2.2.2.2.2.2.2.2.2.2.1
theorem ff_S_LATE_FEE {Z : State} {a_TERMINATION : Addr} {a_TERMINATED : Addr} {a_LIMIT_WARNING : Addr} {a_SUSPEND_WARNING : Addr} {a_TERMINATE_WARNING : Addr} {a_TERMINATE_WARNING' : Addr} {a_TERMINATED' : Addr} {a_LIMITATION : Addr} {a_LIMITED : Addr} {a_SUSPENSION : Addr} {a_SUSPENDED : Addr} {a_DUE_REMINDER : Addr} {a_DUE_REMINDER' : Addr} {a_SUSPEND_WARNING' : Addr} {a_SUSPENDED' : Addr} {a_OVERDUE_REMINDER : Addr} {a_OVERDUE_REMINDER' : Addr} {a_LATE_FEE : Addr} {a_LIMIT_WARNING' : Addr} {a_LIMITED' : Addr} {a_TERMINATION_label : Addr} {a_LIMITATION_label : Addr} {a_SUSPENSION_label : Addr} (FF : Facts Z a_TERMINATION a_TERMINATED a_LIMIT_WARNING a_SUSPEND_WARNING a_TERMINATE_WARNING a_TERMINATE_WARNING' a_TERMINATED' a_LIMITATION a_LIMITED a_SUSPENSION a_SUSPENDED a_DUE_REMINDER a_DUE_REMINDER' a_SUSPEND_WARNING' a_SUSPENDED' a_OVERDUE_REMINDER a_OVERDUE_REMINDER' a_LATE_FEE a_LIMIT_WARNING' a_LIMITED' a_TERMINATION_label a_LIMITATION_label a_SUSPENSION_label) : Sta Z Z.heap "com/example/careful_invoicing/carefulinvoicing/CollectionStep" "LATE_FEE" "Lcom/example/careful_invoicing/carefulinvoicing/CollectionStep;" (.ref a_LATE_FEE) := FF.2.2.2.2.2.2.2.2.2.2.2.2.2.2.2.2.2.2.2.2.2.2.2.2.2.2.2.2.2.2.2.2.2.2.2.2.2.2.2.2.2.2.2.2.2.2.2.2.2.2.2.2.2.2.2.2.2.2.2.2.1
theorem ff_E_LATE_FEE {Z : State} {a_TERMINATION : Addr} {a_TERMINATED : Addr} {a_LIMIT_WARNING : Addr} {a_SUSPEND_WARNING : Addr} {a_TERMINATE_WARNING : Addr} {a_TERMINATE_WARNING' : Addr} {a_TERMINATED' : Addr} {a_LIMITATION : Addr} {a_LIMITED : Addr} {a_SUSPENSION : Addr} {a_SUSPENDED : Addr} {a_DUE_REMINDER : Addr} {a_DUE_REMINDER' : Addr} {a_SUSPEND_WARNING' : Addr} {a_SUSPENDED' : Addr} {a_OVERDUE_REMINDER : Addr} {a_OVERDUE_REMINDER' : Addr} {a_LATE_FEE : Addr} {a_LIMIT_WARNING' : Addr} {a_LIMITED' : Addr} {a_TERMINATION_label : Addr} {a_LIMITATION_label : Addr} {a_SUSPENSION_label : Addr} (FF : Facts Z a_TERMINATION a_TERMINATED a_LIMIT_WARNING a_SUSPEND_WARNING a_TERMINATE_WARNING a_TERMINATE_WARNING' a_TERMINATED' a_LIMITATION a_LIMITED a_SUSPENSION a_SUSPENDED a_DUE_REMINDER a_DUE_REMINDER' a_SUSPEND_WARNING' a_SUSPENDED' a_OVERDUE_REMINDER a_OVERDUE_REMINDER' a_LATE_FEE a_LIMIT_WARNING' a_LIMITED' a_TERMINATION_label a_LIMITATION_label a_SUSPENSION_label) : Exa Z Z.heap a_LATE_FEE "com/example/careful_invoicing/carefulinvoicing/CollectionStep" := FF.2.2.2.2.2.2.2.2.2.2.2.2.2.2.2.2.2.2.2.2.2.2.2.2.2.2.2.2.2.2.2.2.2.2.2.2.2.2.2.2.2.2.2.2.2.2.2.2.2.2.2.2.2.2.2.2.2.2.2.2.2.1
theorem ff_F_LATE_FEE_warned {Z : State} {a_TERMINATION : Addr} {a_TERMINATED : Addr} {a_LIMIT_WARNING : Addr} {a_SUSPEND_WARNING : Addr} {a_TERMINATE_WARNING : Addr} {a_TERMINATE_WARNING' : Addr} {a_TERMINATED' : Addr} {a_LIMITATION : Addr} {a_LIMITED : Addr} {a_SUSPENSION : Addr} {a_SUSPENDED : Addr} {a_DUE_REMINDER : Addr} {a_DUE_REMINDER' : Addr} {a_SUSPEND_WARNING' : Addr} {a_SUSPENDED' : Addr} {a_OVERDUE_REMINDER : Addr} {a_OVERDUE_REMINDER' : Addr} {a_LATE_FEE : Addr} {a_LIMIT_WARNING' : Addr} {a_LIMITED' : Addr} {a_TERMINATION_label : Addr} {a_LIMITATION_label : Addr} {a_SUSPENSION_label : Addr} (FF : Facts Z a_TERMINATION a_TERMINATED a_LIMIT_WARNING a_SUSPEND_WARNING a_TERMINATE_WARNING a_TERMINATE_WARNING' a_TERMINATED' a_LIMITATION a_LIMITED a_SUSPENSION a_SUSPENDED a_DUE_REMINDER a_DUE_REMINDER' a_SUSPEND_WARNING' a_SUSPENDED' a_OVERDUE_REMINDER a_OVERDUE_REMINDER' a_LATE_FEE a_LIMIT_WARNING' a_LIMITED' a_TERMINATION_label a_LIMITATION_label a_SUSPENSION_label) : Fld Z Z.heap a_LATE_FEE "com/example/careful_invoicing/carefulinvoicing/CollectionStep" "warned" "Lcom/example/careful_invoicing/carefulinvoicing/CollectionStep;" .null := FF.2.2.2.2.2.2.2.2.2.2.2.2.2.2.2.2.2.2.2.2.2.2.2.2.2.2.2.2.2.2.2.2.2.2.2.2.2.2.2.2.2.2.2.2.2.2.2.2.2.2.2.2.2.2.2.2.2.2.2.2.2.2.1
theorem ff_F_LATE_FEE_notice {Z : State} {a_TERMINATION : Addr} {a_TERMINATED : Addr} {a_LIMIT_WARNING : Addr} {a_SUSPEND_WARNING : Addr} {a_TERMINATE_WARNING : Addr} {a_TERMINATE_WARNING' : Addr} {a_TERMINATED' : Addr} {a_LIMITATION : Addr} {a_LIMITED : Addr} {a_SUSPENSION : Addr} {a_SUSPENDED : Addr} {a_DUE_REMINDER : Addr} {a_DUE_REMINDER' : Addr} {a_SUSPEND_WARNING' : Addr} {a_SUSPENDED' : Addr} {a_OVERDUE_REMINDER : Addr} {a_OVERDUE_REMINDER' : Addr} {a_LATE_FEE : Addr} {a_LIMIT_WARNING' : Addr} {a_LIMITED' : Addr} {a_TERMINATION_label : Addr} {a_LIMITATION_label : Addr} {a_SUSPENSION_label : Addr} (FF : Facts Z a_TERMINATION a_TERMINATED a_LIMIT_WARNING a_SUSPEND_WARNING a_TERMINATE_WARNING a_TERMINATE_WARNING' a_TERMINATED' a_LIMITATION a_LIMITED a_SUSPENSION a_SUSPENDED a_DUE_REMINDER a_DUE_REMINDER' a_SUSPEND_WARNING' a_SUSPENDED' a_OVERDUE_REMINDER a_OVERDUE_REMINDER' a_LATE_FEE a_LIMIT_WARNING' a_LIMITED' a_TERMINATION_label a_LIMITATION_label a_SUSPENSION_label) : Fld Z Z.heap a_LATE_FEE "com/example/careful_invoicing/carefulinvoicing/CollectionStep" "notice" "Lcom/example/careful_invoicing/carefulinvoicing/NoticeKind;" .null := FF.2.2.2.2.2.2.2.2.2.2.2.2.2.2.2.2.2.2.2.2.2.2.2.2.2.2.2.2.2.2.2.2.2.2.2.2.2.2.2.2.2.2.2.2.2.2.2.2.2.2.2.2.2.2.2.2.2.2.2.2.2.2.2.1
theorem ff_S_LIMIT_WARNING' {Z : State} {a_TERMINATION : Addr} {a_TERMINATED : Addr} {a_LIMIT_WARNING : Addr} {a_SUSPEND_WARNING : Addr} {a_TERMINATE_WARNING : Addr} {a_TERMINATE_WARNING' : Addr} {a_TERMINATED' : Addr} {a_LIMITATION : Addr} {a_LIMITED : Addr} {a_SUSPENSION : Addr} {a_SUSPENDED : Addr} {a_DUE_REMINDER : Addr} {a_DUE_REMINDER' : Addr} {a_SUSPEND_WARNING' : Addr} {a_SUSPENDED' : Addr} {a_OVERDUE_REMINDER : Addr} {a_OVERDUE_REMINDER' : Addr} {a_LATE_FEE : Addr} {a_LIMIT_WARNING' : Addr} {a_LIMITED' : Addr} {a_TERMINATION_label : Addr} {a_LIMITATION_label : Addr} {a_SUSPENSION_label : Addr} (FF : Facts Z a_TERMINATION a_TERMINATED a_LIMIT_WARNING a_SUSPEND_WARNING a_TERMINATE_WARNING a_TERMINATE_WARNING' a_TERMINATED' a_LIMITATION a_LIMITED a_SUSPENSION a_SUSPENDED a_DUE_REMINDER a_DUE_REMINDER' a_SUSPEND_WARNING' a_SUSPENDED' a_OVERDUE_REMINDER a_OVERDUE_REMINDER' a_LATE_FEE a_LIMIT_WARNING' a_LIMITED' a_TERMINATION_label a_LIMITATION_label a_SUSPENSION_label) : Sta Z Z.heap "com/example/careful_invoicing/carefulinvoicing/CollectionStep" "LIMIT_WARNING" "Lcom/example/careful_invoicing/carefulinvoicing/CollectionStep;" (.ref a_LIMIT_WARNING') := FF.2.2.2.2.2.2.2.2.2.2.2.2.2.2.2.2.2.2.2.2.2.2.2.2.2.2.2.2.2.2.2.2.2.2.2.2.2.2.2.2.2.2.2.2.2.2.2.2.2.2.2.2.2.2.2.2.2.2.2.2.2.2.2.2.1
theorem ff_E_LIMIT_WARNING' {Z : State} {a_TERMINATION : Addr} {a_TERMINATED : Addr} {a_LIMIT_WARNING : Addr} {a_SUSPEND_WARNING : Addr} {a_TERMINATE_WARNING : Addr} {a_TERMINATE_WARNING' : Addr} {a_TERMINATED' : Addr} {a_LIMITATION : Addr} {a_LIMITED : Addr} {a_SUSPENSION : Addr} {a_SUSPENDED : Addr} {a_DUE_REMINDER : Addr} {a_DUE_REMINDER' : Addr} {a_SUSPEND_WARNING' : Addr} {a_SUSPENDED' : Addr} {a_OVERDUE_REMINDER : Addr} {a_OVERDUE_REMINDER' : Addr} {a_LATE_FEE : Addr} {a_LIMIT_WARNING' : Addr} {a_LIMITED' : Addr} {a_TERMINATION_label : Addr} {a_LIMITATION_label : Addr} {a_SUSPENSION_label : Addr} (FF : Facts Z a_TERMINATION a_TERMINATED a_LIMIT_WARNING a_SUSPEND_WARNING a_TERMINATE_WARNING a_TERMINATE_WARNING' a_TERMINATED' a_LIMITATION a_LIMITED a_SUSPENSION a_SUSPENDED a_DUE_REMINDER a_DUE_REMINDER' a_SUSPEND_WARNING' a_SUSPENDED' a_OVERDUE_REMINDER a_OVERDUE_REMINDER' a_LATE_FEE a_LIMIT_WARNING' a_LIMITED' a_TERMINATION_label a_LIMITATION_label a_SUSPENSION_label) : Exa Z Z.heap a_LIMIT_WARNING' "com/example/careful_invoicing/carefulinvoicing/CollectionStep" := FF.2.2.2.2.2.2.2.2.2.2.2.2.2.2.2.2.2.2.2.2.2.2.2.2.2.2.2.2.2.2.2.2.2.2.2.2.2.2.2.2.2.2.2.2.2.2.2.2.2.2.2.2.2.2.2.2.2.2.2.2.2.2.2.2.2.1
theorem ff_F_LIMIT_WARNING'_warned {Z : State} {a_TERMINATION : Addr} {a_TERMINATED : Addr} {a_LIMIT_WARNING : Addr} {a_SUSPEND_WARNING : Addr} {a_TERMINATE_WARNING : Addr} {a_TERMINATE_WARNING' : Addr} {a_TERMINATED' : Addr} {a_LIMITATION : Addr} {a_LIMITED : Addr} {a_SUSPENSION : Addr} {a_SUSPENDED : Addr} {a_DUE_REMINDER : Addr} {a_DUE_REMINDER' : Addr} {a_SUSPEND_WARNING' : Addr} {a_SUSPENDED' : Addr} {a_OVERDUE_REMINDER : Addr} {a_OVERDUE_REMINDER' : Addr} {a_LATE_FEE : Addr} {a_LIMIT_WARNING' : Addr} {a_LIMITED' : Addr} {a_TERMINATION_label : Addr} {a_LIMITATION_label : Addr} {a_SUSPENSION_label : Addr} (FF : Facts Z a_TERMINATION a_TERMINATED a_LIMIT_WARNING a_SUSPEND_WARNING a_TERMINATE_WARNING a_TERMINATE_WARNING' a_TERMINATED' a_LIMITATION a_LIMITED a_SUSPENSION a_SUSPENDED a_DUE_REMINDER a_DUE_REMINDER' a_SUSPEND_WARNING' a_SUSPENDED' a_OVERDUE_REMINDER a_OVERDUE_REMINDER' a_LATE_FEE a_LIMIT_WARNING' a_LIMITED' a_TERMINATION_label a_LIMITATION_label a_SUSPENSION_label) : Fld Z Z.heap a_LIMIT_WARNING' "com/example/careful_invoicing/carefulinvoicing/CollectionStep" "warned" "Lcom/example/careful_invoicing/carefulinvoicing/CollectionStep;" (.ref a_LIMITATION) := FF.2.2.2.2.2.2.2.2.2.2.2.2.2.2.2.2.2.2.2.2.2.2.2.2.2.2.2.2.2.2.2.2.2.2.2.2.2.2.2.2.2.2.2.2.2.2.2.2.2.2.2.2.2.2.2.2.2.2.2.2.2.2.2.2.2.2.1
theorem ff_F_LIMIT_WARNING'_notice {Z : State} {a_TERMINATION : Addr} {a_TERMINATED : Addr} {a_LIMIT_WARNING : Addr} {a_SUSPEND_WARNING : Addr} {a_TERMINATE_WARNING : Addr} {a_TERMINATE_WARNING' : Addr} {a_TERMINATED' : Addr} {a_LIMITATION : Addr} {a_LIMITED : Addr} {a_SUSPENSION : Addr} {a_SUSPENDED : Addr} {a_DUE_REMINDER : Addr} {a_DUE_REMINDER' : Addr} {a_SUSPEND_WARNING' : Addr} {a_SUSPENDED' : Addr} {a_OVERDUE_REMINDER : Addr} {a_OVERDUE_REMINDER' : Addr} {a_LATE_FEE : Addr} {a_LIMIT_WARNING' : Addr} {a_LIMITED' : Addr} {a_TERMINATION_label : Addr} {a_LIMITATION_label : Addr} {a_SUSPENSION_label : Addr} (FF : Facts Z a_TERMINATION a_TERMINATED a_LIMIT_WARNING a_SUSPEND_WARNING a_TERMINATE_WARNING a_TERMINATE_WARNING' a_TERMINATED' a_LIMITATION a_LIMITED a_SUSPENSION a_SUSPENDED a_DUE_REMINDER a_DUE_REMINDER' a_SUSPEND_WARNING' a_SUSPENDED' a_OVERDUE_REMINDER a_OVERDUE_REMINDER' a_LATE_FEE a_LIMIT_WARNING' a_LIMITED' a_TERMINATION_label a_LIMITATION_label a_SUSPENSION_label) : Fld Z Z.heap a_LIMIT_WARNING' "com/example/careful_invoicing/carefulinvoicing/CollectionStep" "notice" "Lcom/example/careful_invoicing/carefulinvoicing/NoticeKind;" (.ref a_LIMIT_WARNING) := FF.2.2.2.2.2.2.2.2.2.2.2.2.2.2.2.2.2.2.2.2.2.2.2.2.2.2.2.2.2.2.2.2.2.2.2.2.2.2.2.2.2.2.2.2.2.2.2.2.2.2.2.2.2.2.2.2.2.2.2.2.2.2.2.2.2.2.2.1
theorem ff_F_LIMIT_WARNING'_label {Z : State} {a_TERMINATION : Addr} {a_TERMINATED : Addr} {a_LIMIT_WARNING : Addr} {a_SUSPEND_WARNING : Addr} {a_TERMINATE_WARNING : Addr} {a_TERMINATE_WARNING' : Addr} {a_TERMINATED' : Addr} {a_LIMITATION : Addr} {a_LIMITED : Addr} {a_SUSPENSION : Addr} {a_SUSPENDED : Addr} {a_DUE_REMINDER : Addr} {a_DUE_REMINDER' : Addr} {a_SUSPEND_WARNING' : Addr} {a_SUSPENDED' : Addr} {a_OVERDUE_REMINDER : Addr} {a_OVERDUE_REMINDER' : Addr} {a_LATE_FEE : Addr} {a_LIMIT_WARNING' : Addr} {a_LIMITED' : Addr} {a_TERMINATION_label : Addr} {a_LIMITATION_label : Addr} {a_SUSPENSION_label : Addr} (FF : Facts Z a_TERMINATION a_TERMINATED a_LIMIT_WARNING a_SUSPEND_WARNING a_TERMINATE_WARNING a_TERMINATE_WARNING' a_TERMINATED' a_LIMITATION a_LIMITED a_SUSPENSION a_SUSPENDED a_DUE_REMINDER a_DUE_REMINDER' a_SUSPEND_WARNING' a_SUSPENDED' a_OVERDUE_REMINDER a_OVERDUE_REMINDER' a_LATE_FEE a_LIMIT_WARNING' a_LIMITED' a_TERMINATION_label a_LIMITATION_label a_SUSPENSION_label) : Fld Z Z.heap a_LIMIT_WARNING' "com/example/careful_invoicing/carefulinvoicing/CollectionStep" "label" "Ljava/lang/String;" .null := FF.2.2.2.2.2.2.2.2.2.2.2.2.2.2.2.2.2.2.2.2.2.2.2.2.2.2.2.2.2.2.2.2.2.2.2.2.2.2.2.2.2.2.2.2.2.2.2.2.2.2.2.2.2.2.2.2.2.2.2.2.2.2.2.2.2.2.2.2.1
theorem ff_S_LIMITED' {Z : State} {a_TERMINATION : Addr} {a_TERMINATED : Addr} {a_LIMIT_WARNING : Addr} {a_SUSPEND_WARNING : Addr} {a_TERMINATE_WARNING : Addr} {a_TERMINATE_WARNING' : Addr} {a_TERMINATED' : Addr} {a_LIMITATION : Addr} {a_LIMITED : Addr} {a_SUSPENSION : Addr} {a_SUSPENDED : Addr} {a_DUE_REMINDER : Addr} {a_DUE_REMINDER' : Addr} {a_SUSPEND_WARNING' : Addr} {a_SUSPENDED' : Addr} {a_OVERDUE_REMINDER : Addr} {a_OVERDUE_REMINDER' : Addr} {a_LATE_FEE : Addr} {a_LIMIT_WARNING' : Addr} {a_LIMITED' : Addr} {a_TERMINATION_label : Addr} {a_LIMITATION_label : Addr} {a_SUSPENSION_label : Addr} (FF : Facts Z a_TERMINATION a_TERMINATED a_LIMIT_WARNING a_SUSPEND_WARNING a_TERMINATE_WARNING a_TERMINATE_WARNING' a_TERMINATED' a_LIMITATION a_LIMITED a_SUSPENSION a_SUSPENDED a_DUE_REMINDER a_DUE_REMINDER' a_SUSPEND_WARNING' a_SUSPENDED' a_OVERDUE_REMINDER a_OVERDUE_REMINDER' a_LATE_FEE a_LIMIT_WARNING' a_LIMITED' a_TERMINATION_label a_LIMITATION_label a_SUSPENSION_label) : Sta Z Z.heap "com/example/careful_invoicing/carefulinvoicing/CustomerStatus" "LIMITED" "Lcom/example/careful_invoicing/carefulinvoicing/CustomerStatus;" (.ref a_LIMITED') := FF.2.2.2.2.2.2.2.2.2.2.2.2.2.2.2.2.2.2.2.2.2.2.2.2.2.2.2.2.2.2.2.2.2.2.2.2.2.2.2.2.2.2.2.2.2.2.2.2.2.2.2.2.2.2.2.2.2.2.2.2.2.2.2.2.2.2.2.2.2.1
theorem ff_E_LIMITED' {Z : State} {a_TERMINATION : Addr} {a_TERMINATED : Addr} {a_LIMIT_WARNING : Addr} {a_SUSPEND_WARNING : Addr} {a_TERMINATE_WARNING : Addr} {a_TERMINATE_WARNING' : Addr} {a_TERMINATED' : Addr} {a_LIMITATION : Addr} {a_LIMITED : Addr} {a_SUSPENSION : Addr} {a_SUSPENDED : Addr} {a_DUE_REMINDER : Addr} {a_DUE_REMINDER' : Addr} {a_SUSPEND_WARNING' : Addr} {a_SUSPENDED' : Addr} {a_OVERDUE_REMINDER : Addr} {a_OVERDUE_REMINDER' : Addr} {a_LATE_FEE : Addr} {a_LIMIT_WARNING' : Addr} {a_LIMITED' : Addr} {a_TERMINATION_label : Addr} {a_LIMITATION_label : Addr} {a_SUSPENSION_label : Addr} (FF : Facts Z a_TERMINATION a_TERMINATED a_LIMIT_WARNING a_SUSPEND_WARNING a_TERMINATE_WARNING a_TERMINATE_WARNING' a_TERMINATED' a_LIMITATION a_LIMITED a_SUSPENSION a_SUSPENDED a_DUE_REMINDER a_DUE_REMINDER' a_SUSPEND_WARNING' a_SUSPENDED' a_OVERDUE_REMINDER a_OVERDUE_REMINDER' a_LATE_FEE a_LIMIT_WARNING' a_LIMITED' a_TERMINATION_label a_LIMITATION_label a_SUSPENSION_label) : Exa Z Z.heap a_LIMITED' "com/example/careful_invoicing/carefulinvoicing/CustomerStatus" := FF.2.2.2.2.2.2.2.2.2.2.2.2.2.2.2.2.2.2.2.2.2.2.2.2.2.2.2.2.2.2.2.2.2.2.2.2.2.2.2.2.2.2.2.2.2.2.2.2.2.2.2.2.2.2.2.2.2.2.2.2.2.2.2.2.2.2.2.2.2.2.1
theorem ff_F_LIMIT_WARNING'_status {Z : State} {a_TERMINATION : Addr} {a_TERMINATED : Addr} {a_LIMIT_WARNING : Addr} {a_SUSPEND_WARNING : Addr} {a_TERMINATE_WARNING : Addr} {a_TERMINATE_WARNING' : Addr} {a_TERMINATED' : Addr} {a_LIMITATION : Addr} {a_LIMITED : Addr} {a_SUSPENSION : Addr} {a_SUSPENDED : Addr} {a_DUE_REMINDER : Addr} {a_DUE_REMINDER' : Addr} {a_SUSPEND_WARNING' : Addr} {a_SUSPENDED' : Addr} {a_OVERDUE_REMINDER : Addr} {a_OVERDUE_REMINDER' : Addr} {a_LATE_FEE : Addr} {a_LIMIT_WARNING' : Addr} {a_LIMITED' : Addr} {a_TERMINATION_label : Addr} {a_LIMITATION_label : Addr} {a_SUSPENSION_label : Addr} (FF : Facts Z a_TERMINATION a_TERMINATED a_LIMIT_WARNING a_SUSPEND_WARNING a_TERMINATE_WARNING a_TERMINATE_WARNING' a_TERMINATED' a_LIMITATION a_LIMITED a_SUSPENSION a_SUSPENDED a_DUE_REMINDER a_DUE_REMINDER' a_SUSPEND_WARNING' a_SUSPENDED' a_OVERDUE_REMINDER a_OVERDUE_REMINDER' a_LATE_FEE a_LIMIT_WARNING' a_LIMITED' a_TERMINATION_label a_LIMITATION_label a_SUSPENSION_label) : Fld Z Z.heap a_LIMIT_WARNING' "com/example/careful_invoicing/carefulinvoicing/CollectionStep" "status" "Lcom/example/careful_invoicing/carefulinvoicing/CustomerStatus;" (.ref a_LIMITED') := FF.2.2.2.2.2.2.2.2.2.2.2.2.2.2.2.2.2.2.2.2.2.2.2.2.2.2.2.2.2.2.2.2.2.2.2.2.2.2.2.2.2.2.2.2.2.2.2.2.2.2.2.2.2.2.2.2.2.2.2.2.2.2.2.2.2.2.2.2.2.2.2.1
theorem ff_F_TERMINATION_label {Z : State} {a_TERMINATION : Addr} {a_TERMINATED : Addr} {a_LIMIT_WARNING : Addr} {a_SUSPEND_WARNING : Addr} {a_TERMINATE_WARNING : Addr} {a_TERMINATE_WARNING' : Addr} {a_TERMINATED' : Addr} {a_LIMITATION : Addr} {a_LIMITED : Addr} {a_SUSPENSION : Addr} {a_SUSPENDED : Addr} {a_DUE_REMINDER : Addr} {a_DUE_REMINDER' : Addr} {a_SUSPEND_WARNING' : Addr} {a_SUSPENDED' : Addr} {a_OVERDUE_REMINDER : Addr} {a_OVERDUE_REMINDER' : Addr} {a_LATE_FEE : Addr} {a_LIMIT_WARNING' : Addr} {a_LIMITED' : Addr} {a_TERMINATION_label : Addr} {a_LIMITATION_label : Addr} {a_SUSPENSION_label : Addr} (FF : Facts Z a_TERMINATION a_TERMINATED a_LIMIT_WARNING a_SUSPEND_WARNING a_TERMINATE_WARNING a_TERMINATE_WARNING' a_TERMINATED' a_LIMITATION a_LIMITED a_SUSPENSION a_SUSPENDED a_DUE_REMINDER a_DUE_REMINDER' a_SUSPEND_WARNING' a_SUSPENDED' a_OVERDUE_REMINDER a_OVERDUE_REMINDER' a_LATE_FEE a_LIMIT_WARNING' a_LIMITED' a_TERMINATION_label a_LIMITATION_label a_SUSPENSION_label) : Fld Z Z.heap a_TERMINATION "com/example/careful_invoicing/carefulinvoicing/CollectionStep" "label" "Ljava/lang/String;" (.ref a_TERMINATION_label) := FF.2.2.2.2.2.2.2.2.2.2.2.2.2.2.2.2.2.2.2.2.2.2.2.2.2.2.2.2.2.2.2.2.2.2.2.2.2.2.2.2.2.2.2.2.2.2.2.2.2.2.2.2.2.2.2.2.2.2.2.2.2.2.2.2.2.2.2.2.2.2.2.2.1
theorem ff_E_TERMINATION_label {Z : State} {a_TERMINATION : Addr} {a_TERMINATED : Addr} {a_LIMIT_WARNING : Addr} {a_SUSPEND_WARNING : Addr} {a_TERMINATE_WARNING : Addr} {a_TERMINATE_WARNING' : Addr} {a_TERMINATED' : Addr} {a_LIMITATION : Addr} {a_LIMITED : Addr} {a_SUSPENSION : Addr} {a_SUSPENDED : Addr} {a_DUE_REMINDER : Addr} {a_DUE_REMINDER' : Addr} {a_SUSPEND_WARNING' : Addr} {a_SUSPENDED' : Addr} {a_OVERDUE_REMINDER : Addr} {a_OVERDUE_REMINDER' : Addr} {a_LATE_FEE : Addr} {a_LIMIT_WARNING' : Addr} {a_LIMITED' : Addr} {a_TERMINATION_label : Addr} {a_LIMITATION_label : Addr} {a_SUSPENSION_label : Addr} (FF : Facts Z a_TERMINATION a_TERMINATED a_LIMIT_WARNING a_SUSPEND_WARNING a_TERMINATE_WARNING a_TERMINATE_WARNING' a_TERMINATED' a_LIMITATION a_LIMITED a_SUSPENSION a_SUSPENDED a_DUE_REMINDER a_DUE_REMINDER' a_SUSPEND_WARNING' a_SUSPENDED' a_OVERDUE_REMINDER a_OVERDUE_REMINDER' a_LATE_FEE a_LIMIT_WARNING' a_LIMITED' a_TERMINATION_label a_LIMITATION_label a_SUSPENSION_label) : Exa Z Z.heap a_TERMINATION_label "java/lang/String" := FF.2.2.2.2.2.2.2.2.2.2.2.2.2.2.2.2.2.2.2.2.2.2.2.2.2.2.2.2.2.2.2.2.2.2.2.2.2.2.2.2.2.2.2.2.2.2.2.2.2.2.2.2.2.2.2.2.2.2.2.2.2.2.2.2.2.2.2.2.2.2.2.2.2.1
theorem ff_F_TERMINATION_status {Z : State} {a_TERMINATION : Addr} {a_TERMINATED : Addr} {a_LIMIT_WARNING : Addr} {a_SUSPEND_WARNING : Addr} {a_TERMINATE_WARNING : Addr} {a_TERMINATE_WARNING' : Addr} {a_TERMINATED' : Addr} {a_LIMITATION : Addr} {a_LIMITED : Addr} {a_SUSPENSION : Addr} {a_SUSPENDED : Addr} {a_DUE_REMINDER : Addr} {a_DUE_REMINDER' : Addr} {a_SUSPEND_WARNING' : Addr} {a_SUSPENDED' : Addr} {a_OVERDUE_REMINDER : Addr} {a_OVERDUE_REMINDER' : Addr} {a_LATE_FEE : Addr} {a_LIMIT_WARNING' : Addr} {a_LIMITED' : Addr} {a_TERMINATION_label : Addr} {a_LIMITATION_label : Addr} {a_SUSPENSION_label : Addr} (FF : Facts Z a_TERMINATION a_TERMINATED a_LIMIT_WARNING a_SUSPEND_WARNING a_TERMINATE_WARNING a_TERMINATE_WARNING' a_TERMINATED' a_LIMITATION a_LIMITED a_SUSPENSION a_SUSPENDED a_DUE_REMINDER a_DUE_REMINDER' a_SUSPEND_WARNING' a_SUSPENDED' a_OVERDUE_REMINDER a_OVERDUE_REMINDER' a_LATE_FEE a_LIMIT_WARNING' a_LIMITED' a_TERMINATION_label a_LIMITATION_label a_SUSPENSION_label) : Fld Z Z.heap a_TERMINATION "com/example/careful_invoicing/carefulinvoicing/CollectionStep" "status" "Lcom/example/careful_invoicing/carefulinvoicing/CustomerStatus;" (.ref a_TERMINATED') := FF.2.2.2.2.2.2.2.2.2.2.2.2.2.2.2.2.2.2.2.2.2.2.2.2.2.2.2.2.2.2.2.2.2.2.2.2.2.2.2.2.2.2.2.2.2.2.2.2.2.2.2.2.2.2.2.2.2.2.2.2.2.2.2.2.2.2.2.2.2.2.2.2.2.2.1
theorem ff_F_LIMITATION_label {Z : State} {a_TERMINATION : Addr} {a_TERMINATED : Addr} {a_LIMIT_WARNING : Addr} {a_SUSPEND_WARNING : Addr} {a_TERMINATE_WARNING : Addr} {a_TERMINATE_WARNING' : Addr} {a_TERMINATED' : Addr} {a_LIMITATION : Addr} {a_LIMITED : Addr} {a_SUSPENSION : Addr} {a_SUSPENDED : Addr} {a_DUE_REMINDER : Addr} {a_DUE_REMINDER' : Addr} {a_SUSPEND_WARNING' : Addr} {a_SUSPENDED' : Addr} {a_OVERDUE_REMINDER : Addr} {a_OVERDUE_REMINDER' : Addr} {a_LATE_FEE : Addr} {a_LIMIT_WARNING' : Addr} {a_LIMITED' : Addr} {a_TERMINATION_label : Addr} {a_LIMITATION_label : Addr} {a_SUSPENSION_label : Addr} (FF : Facts Z a_TERMINATION a_TERMINATED a_LIMIT_WARNING a_SUSPEND_WARNING a_TERMINATE_WARNING a_TERMINATE_WARNING' a_TERMINATED' a_LIMITATION a_LIMITED a_SUSPENSION a_SUSPENDED a_DUE_REMINDER a_DUE_REMINDER' a_SUSPEND_WARNING' a_SUSPENDED' a_OVERDUE_REMINDER a_OVERDUE_REMINDER' a_LATE_FEE a_LIMIT_WARNING' a_LIMITED' a_TERMINATION_label a_LIMITATION_label a_SUSPENSION_label) : Fld Z Z.heap a_LIMITATION "com/example/careful_invoicing/carefulinvoicing/CollectionStep" "label" "Ljava/lang/String;" (.ref a_LIMITATION_label) := FF.2.2.2.2.2.2.2.2.2.2.2.2.2.2.2.2.2.2.2.2.2.2.2.2.2.2.2.2.2.2.2.2.2.2.2.2.2.2.2.2.2.2.2.2.2.2.2.2.2.2.2.2.2.2.2.2.2.2.2.2.2.2.2.2.2.2.2.2.2.2.2.2.2.2.2.1
theorem ff_E_LIMITATION_label {Z : State} {a_TERMINATION : Addr} {a_TERMINATED : Addr} {a_LIMIT_WARNING : Addr} {a_SUSPEND_WARNING : Addr} {a_TERMINATE_WARNING : Addr} {a_TERMINATE_WARNING' : Addr} {a_TERMINATED' : Addr} {a_LIMITATION : Addr} {a_LIMITED : Addr} {a_SUSPENSION : Addr} {a_SUSPENDED : Addr} {a_DUE_REMINDER : Addr} {a_DUE_REMINDER' : Addr} {a_SUSPEND_WARNING' : Addr} {a_SUSPENDED' : Addr} {a_OVERDUE_REMINDER : Addr} {a_OVERDUE_REMINDER' : Addr} {a_LATE_FEE : Addr} {a_LIMIT_WARNING' : Addr} {a_LIMITED' : Addr} {a_TERMINATION_label : Addr} {a_LIMITATION_label : Addr} {a_SUSPENSION_label : Addr} (FF : Facts Z a_TERMINATION a_TERMINATED a_LIMIT_WARNING a_SUSPEND_WARNING a_TERMINATE_WARNING a_TERMINATE_WARNING' a_TERMINATED' a_LIMITATION a_LIMITED a_SUSPENSION a_SUSPENDED a_DUE_REMINDER a_DUE_REMINDER' a_SUSPEND_WARNING' a_SUSPENDED' a_OVERDUE_REMINDER a_OVERDUE_REMINDER' a_LATE_FEE a_LIMIT_WARNING' a_LIMITED' a_TERMINATION_label a_LIMITATION_label a_SUSPENSION_label) : Exa Z Z.heap a_LIMITATION_label "java/lang/String" := FF.2.2.2.2.2.2.2.2.2.2.2.2.2.2.2.2.2.2.2.2.2.2.2.2.2.2.2.2.2.2.2.2.2.2.2.2.2.2.2.2.2.2.2.2.2.2.2.2.2.2.2.2.2.2.2.2.2.2.2.2.2.2.2.2.2.2.2.2.2.2.2.2.2.2.2.2.1
theorem ff_F_LIMITATION_status {Z : State} {a_TERMINATION : Addr} {a_TERMINATED : Addr} {a_LIMIT_WARNING : Addr} {a_SUSPEND_WARNING : Addr} {a_TERMINATE_WARNING : Addr} {a_TERMINATE_WARNING' : Addr} {a_TERMINATED' : Addr} {a_LIMITATION : Addr} {a_LIMITED : Addr} {a_SUSPENSION : Addr} {a_SUSPENDED : Addr} {a_DUE_REMINDER : Addr} {a_DUE_REMINDER' : Addr} {a_SUSPEND_WARNING' : Addr} {a_SUSPENDED' : Addr} {a_OVERDUE_REMINDER : Addr} {a_OVERDUE_REMINDER' : Addr} {a_LATE_FEE : Addr} {a_LIMIT_WARNING' : Addr} {a_LIMITED' : Addr} {a_TERMINATION_label : Addr} {a_LIMITATION_label : Addr} {a_SUSPENSION_label : Addr} (FF : Facts Z a_TERMINATION a_TERMINATED a_LIMIT_WARNING a_SUSPEND_WARNING a_TERMINATE_WARNING a_TERMINATE_WARNING' a_TERMINATED' a_LIMITATION a_LIMITED a_SUSPENSION a_SUSPENDED a_DUE_REMINDER a_DUE_REMINDER' a_SUSPEND_WARNING' a_SUSPENDED' a_OVERDUE_REMINDER a_OVERDUE_REMINDER' a_LATE_FEE a_LIMIT_WARNING' a_LIMITED' a_TERMINATION_label a_LIMITATION_label a_SUSPENSION_label) : Fld Z Z.heap a_LIMITATION "com/example/careful_invoicing/carefulinvoicing/CollectionStep" "status" "Lcom/example/careful_invoicing/carefulinvoicing/CustomerStatus;" (.ref a_LIMITED') := FF.2.2.2.2.2.2.2.2.2.2.2.2.2.2.2.2.2.2.2.2.2.2.2.2.2.2.2.2.2.2.2.2.2.2.2.2.2.2.2.2.2.2.2.2.2.2.2.2.2.2.2.2.2.2.2.2.2.2.2.2.2.2.2.2.2.2.2.2.2.2.2.2.2.2.2.2.2.1
theorem ff_F_SUSPENSION_label {Z : State} {a_TERMINATION : Addr} {a_TERMINATED : Addr} {a_LIMIT_WARNING : Addr} {a_SUSPEND_WARNING : Addr} {a_TERMINATE_WARNING : Addr} {a_TERMINATE_WARNING' : Addr} {a_TERMINATED' : Addr} {a_LIMITATION : Addr} {a_LIMITED : Addr} {a_SUSPENSION : Addr} {a_SUSPENDED : Addr} {a_DUE_REMINDER : Addr} {a_DUE_REMINDER' : Addr} {a_SUSPEND_WARNING' : Addr} {a_SUSPENDED' : Addr} {a_OVERDUE_REMINDER : Addr} {a_OVERDUE_REMINDER' : Addr} {a_LATE_FEE : Addr} {a_LIMIT_WARNING' : Addr} {a_LIMITED' : Addr} {a_TERMINATION_label : Addr} {a_LIMITATION_label : Addr} {a_SUSPENSION_label : Addr} (FF : Facts Z a_TERMINATION a_TERMINATED a_LIMIT_WARNING a_SUSPEND_WARNING a_TERMINATE_WARNING a_TERMINATE_WARNING' a_TERMINATED' a_LIMITATION a_LIMITED a_SUSPENSION a_SUSPENDED a_DUE_REMINDER a_DUE_REMINDER' a_SUSPEND_WARNING' a_SUSPENDED' a_OVERDUE_REMINDER a_OVERDUE_REMINDER' a_LATE_FEE a_LIMIT_WARNING' a_LIMITED' a_TERMINATION_label a_LIMITATION_label a_SUSPENSION_label) : Fld Z Z.heap a_SUSPENSION "com/example/careful_invoicing/carefulinvoicing/CollectionStep" "label" "Ljava/lang/String;" (.ref a_SUSPENSION_label) := FF.2.2.2.2.2.2.2.2.2.2.2.2.2.2.2.2.2.2.2.2.2.2.2.2.2.2.2.2.2.2.2.2.2.2.2.2.2.2.2.2.2.2.2.2.2.2.2.2.2.2.2.2.2.2.2.2.2.2.2.2.2.2.2.2.2.2.2.2.2.2.2.2.2.2.2.2.2.2.1
theorem ff_E_SUSPENSION_label {Z : State} {a_TERMINATION : Addr} {a_TERMINATED : Addr} {a_LIMIT_WARNING : Addr} {a_SUSPEND_WARNING : Addr} {a_TERMINATE_WARNING : Addr} {a_TERMINATE_WARNING' : Addr} {a_TERMINATED' : Addr} {a_LIMITATION : Addr} {a_LIMITED : Addr} {a_SUSPENSION : Addr} {a_SUSPENDED : Addr} {a_DUE_REMINDER : Addr} {a_DUE_REMINDER' : Addr} {a_SUSPEND_WARNING' : Addr} {a_SUSPENDED' : Addr} {a_OVERDUE_REMINDER : Addr} {a_OVERDUE_REMINDER' : Addr} {a_LATE_FEE : Addr} {a_LIMIT_WARNING' : Addr} {a_LIMITED' : Addr} {a_TERMINATION_label : Addr} {a_LIMITATION_label : Addr} {a_SUSPENSION_label : Addr} (FF : Facts Z a_TERMINATION a_TERMINATED a_LIMIT_WARNING a_SUSPEND_WARNING a_TERMINATE_WARNING a_TERMINATE_WARNING' a_TERMINATED' a_LIMITATION a_LIMITED a_SUSPENSION a_SUSPENDED a_DUE_REMINDER a_DUE_REMINDER' a_SUSPEND_WARNING' a_SUSPENDED' a_OVERDUE_REMINDER a_OVERDUE_REMINDER' a_LATE_FEE a_LIMIT_WARNING' a_LIMITED' a_TERMINATION_label a_LIMITATION_label a_SUSPENSION_label) : Exa Z Z.heap a_SUSPENSION_label "java/lang/String" := FF.2.2.2.2.2.2.2.2.2.2.2.2.2.2.2.2.2.2.2.2.2.2.2.2.2.2.2.2.2.2.2.2.2.2.2.2.2.2.2.2.2.2.2.2.2.2.2.2.2.2.2.2.2.2.2.2.2.2.2.2.2.2.2.2.2.2.2.2.2.2.2.2.2.2.2.2.2.2.2.1
theorem ff_F_SUSPENSION_status {Z : State} {a_TERMINATION : Addr} {a_TERMINATED : Addr} {a_LIMIT_WARNING : Addr} {a_SUSPEND_WARNING : Addr} {a_TERMINATE_WARNING : Addr} {a_TERMINATE_WARNING' : Addr} {a_TERMINATED' : Addr} {a_LIMITATION : Addr} {a_LIMITED : Addr} {a_SUSPENSION : Addr} {a_SUSPENDED : Addr} {a_DUE_REMINDER : Addr} {a_DUE_REMINDER' : Addr} {a_SUSPEND_WARNING' : Addr} {a_SUSPENDED' : Addr} {a_OVERDUE_REMINDER : Addr} {a_OVERDUE_REMINDER' : Addr} {a_LATE_FEE : Addr} {a_LIMIT_WARNING' : Addr} {a_LIMITED' : Addr} {a_TERMINATION_label : Addr} {a_LIMITATION_label : Addr} {a_SUSPENSION_label : Addr} (FF : Facts Z a_TERMINATION a_TERMINATED a_LIMIT_WARNING a_SUSPEND_WARNING a_TERMINATE_WARNING a_TERMINATE_WARNING' a_TERMINATED' a_LIMITATION a_LIMITED a_SUSPENSION a_SUSPENDED a_DUE_REMINDER a_DUE_REMINDER' a_SUSPEND_WARNING' a_SUSPENDED' a_OVERDUE_REMINDER a_OVERDUE_REMINDER' a_LATE_FEE a_LIMIT_WARNING' a_LIMITED' a_TERMINATION_label a_LIMITATION_label a_SUSPENSION_label) : Fld Z Z.heap a_SUSPENSION "com/example/careful_invoicing/carefulinvoicing/CollectionStep" "status" "Lcom/example/careful_invoicing/carefulinvoicing/CustomerStatus;" (.ref a_SUSPENDED') := FF.2.2.2.2.2.2.2.2.2.2.2.2.2.2.2.2.2.2.2.2.2.2.2.2.2.2.2.2.2.2.2.2.2.2.2.2.2.2.2.2.2.2.2.2.2.2.2.2.2.2.2.2.2.2.2.2.2.2.2.2.2.2.2.2.2.2.2.2.2.2.2.2.2.2.2.2.2.2.2.2.1
theorem ff_F_DUE_REMINDER_label {Z : State} {a_TERMINATION : Addr} {a_TERMINATED : Addr} {a_LIMIT_WARNING : Addr} {a_SUSPEND_WARNING : Addr} {a_TERMINATE_WARNING : Addr} {a_TERMINATE_WARNING' : Addr} {a_TERMINATED' : Addr} {a_LIMITATION : Addr} {a_LIMITED : Addr} {a_SUSPENSION : Addr} {a_SUSPENDED : Addr} {a_DUE_REMINDER : Addr} {a_DUE_REMINDER' : Addr} {a_SUSPEND_WARNING' : Addr} {a_SUSPENDED' : Addr} {a_OVERDUE_REMINDER : Addr} {a_OVERDUE_REMINDER' : Addr} {a_LATE_FEE : Addr} {a_LIMIT_WARNING' : Addr} {a_LIMITED' : Addr} {a_TERMINATION_label : Addr} {a_LIMITATION_label : Addr} {a_SUSPENSION_label : Addr} (FF : Facts Z a_TERMINATION a_TERMINATED a_LIMIT_WARNING a_SUSPEND_WARNING a_TERMINATE_WARNING a_TERMINATE_WARNING' a_TERMINATED' a_LIMITATION a_LIMITED a_SUSPENSION a_SUSPENDED a_DUE_REMINDER a_DUE_REMINDER' a_SUSPEND_WARNING' a_SUSPENDED' a_OVERDUE_REMINDER a_OVERDUE_REMINDER' a_LATE_FEE a_LIMIT_WARNING' a_LIMITED' a_TERMINATION_label a_LIMITATION_label a_SUSPENSION_label) : Fld Z Z.heap a_DUE_REMINDER "com/example/careful_invoicing/carefulinvoicing/CollectionStep" "label" "Ljava/lang/String;" .null := FF.2.2.2.2.2.2.2.2.2.2.2.2.2.2.2.2.2.2.2.2.2.2.2.2.2.2.2.2.2.2.2.2.2.2.2.2.2.2.2.2.2.2.2.2.2.2.2.2.2.2.2.2.2.2.2.2.2.2.2.2.2.2.2.2.2.2.2.2.2.2.2.2.2.2.2.2.2.2.2.2.2.1
theorem ff_F_DUE_REMINDER_status {Z : State} {a_TERMINATION : Addr} {a_TERMINATED : Addr} {a_LIMIT_WARNING : Addr} {a_SUSPEND_WARNING : Addr} {a_TERMINATE_WARNING : Addr} {a_TERMINATE_WARNING' : Addr} {a_TERMINATED' : Addr} {a_LIMITATION : Addr} {a_LIMITED : Addr} {a_SUSPENSION : Addr} {a_SUSPENDED : Addr} {a_DUE_REMINDER : Addr} {a_DUE_REMINDER' : Addr} {a_SUSPEND_WARNING' : Addr} {a_SUSPENDED' : Addr} {a_OVERDUE_REMINDER : Addr} {a_OVERDUE_REMINDER' : Addr} {a_LATE_FEE : Addr} {a_LIMIT_WARNING' : Addr} {a_LIMITED' : Addr} {a_TERMINATION_label : Addr} {a_LIMITATION_label : Addr} {a_SUSPENSION_label : Addr} (FF : Facts Z a_TERMINATION a_TERMINATED a_LIMIT_WARNING a_SUSPEND_WARNING a_TERMINATE_WARNING a_TERMINATE_WARNING' a_TERMINATED' a_LIMITATION a_LIMITED a_SUSPENSION a_SUSPENDED a_DUE_REMINDER a_DUE_REMINDER' a_SUSPEND_WARNING' a_SUSPENDED' a_OVERDUE_REMINDER a_OVERDUE_REMINDER' a_LATE_FEE a_LIMIT_WARNING' a_LIMITED' a_TERMINATION_label a_LIMITATION_label a_SUSPENSION_label) : Fld Z Z.heap a_DUE_REMINDER "com/example/careful_invoicing/carefulinvoicing/CollectionStep" "status" "Lcom/example/careful_invoicing/carefulinvoicing/CustomerStatus;" .null := FF.2.2.2.2.2.2.2.2.2.2.2.2.2.2.2.2.2.2.2.2.2.2.2.2.2.2.2.2.2.2.2.2.2.2.2.2.2.2.2.2.2.2.2.2.2.2.2.2.2.2.2.2.2.2.2.2.2.2.2.2.2.2.2.2.2.2.2.2.2.2.2.2.2.2.2.2.2.2.2.2.2.2.1
theorem ff_F_OVERDUE_REMINDER_label {Z : State} {a_TERMINATION : Addr} {a_TERMINATED : Addr} {a_LIMIT_WARNING : Addr} {a_SUSPEND_WARNING : Addr} {a_TERMINATE_WARNING : Addr} {a_TERMINATE_WARNING' : Addr} {a_TERMINATED' : Addr} {a_LIMITATION : Addr} {a_LIMITED : Addr} {a_SUSPENSION : Addr} {a_SUSPENDED : Addr} {a_DUE_REMINDER : Addr} {a_DUE_REMINDER' : Addr} {a_SUSPEND_WARNING' : Addr} {a_SUSPENDED' : Addr} {a_OVERDUE_REMINDER : Addr} {a_OVERDUE_REMINDER' : Addr} {a_LATE_FEE : Addr} {a_LIMIT_WARNING' : Addr} {a_LIMITED' : Addr} {a_TERMINATION_label : Addr} {a_LIMITATION_label : Addr} {a_SUSPENSION_label : Addr} (FF : Facts Z a_TERMINATION a_TERMINATED a_LIMIT_WARNING a_SUSPEND_WARNING a_TERMINATE_WARNING a_TERMINATE_WARNING' a_TERMINATED' a_LIMITATION a_LIMITED a_SUSPENSION a_SUSPENDED a_DUE_REMINDER a_DUE_REMINDER' a_SUSPEND_WARNING' a_SUSPENDED' a_OVERDUE_REMINDER a_OVERDUE_REMINDER' a_LATE_FEE a_LIMIT_WARNING' a_LIMITED' a_TERMINATION_label a_LIMITATION_label a_SUSPENSION_label) : Fld Z Z.heap a_OVERDUE_REMINDER "com/example/careful_invoicing/carefulinvoicing/CollectionStep" "label" "Ljava/lang/String;" .null := FF.2.2.2.2.2.2.2.2.2.2.2.2.2.2.2.2.2.2.2.2.2.2.2.2.2.2.2.2.2.2.2.2.2.2.2.2.2.2.2.2.2.2.2.2.2.2.2.2.2.2.2.2.2.2.2.2.2.2.2.2.2.2.2.2.2.2.2.2.2.2.2.2.2.2.2.2.2.2.2.2.2.2.2.1
theorem ff_F_OVERDUE_REMINDER_status {Z : State} {a_TERMINATION : Addr} {a_TERMINATED : Addr} {a_LIMIT_WARNING : Addr} {a_SUSPEND_WARNING : Addr} {a_TERMINATE_WARNING : Addr} {a_TERMINATE_WARNING' : Addr} {a_TERMINATED' : Addr} {a_LIMITATION : Addr} {a_LIMITED : Addr} {a_SUSPENSION : Addr} {a_SUSPENDED : Addr} {a_DUE_REMINDER : Addr} {a_DUE_REMINDER' : Addr} {a_SUSPEND_WARNING' : Addr} {a_SUSPENDED' : Addr} {a_OVERDUE_REMINDER : Addr} {a_OVERDUE_REMINDER' : Addr} {a_LATE_FEE : Addr} {a_LIMIT_WARNING' : Addr} {a_LIMITED' : Addr} {a_TERMINATION_label : Addr} {a_LIMITATION_label : Addr} {a_SUSPENSION_label : Addr} (FF : Facts Z a_TERMINATION a_TERMINATED a_LIMIT_WARNING a_SUSPEND_WARNING a_TERMINATE_WARNING a_TERMINATE_WARNING' a_TERMINATED' a_LIMITATION a_LIMITED a_SUSPENSION a_SUSPENDED a_DUE_REMINDER a_DUE_REMINDER' a_SUSPEND_WARNING' a_SUSPENDED' a_OVERDUE_REMINDER a_OVERDUE_REMINDER' a_LATE_FEE a_LIMIT_WARNING' a_LIMITED' a_TERMINATION_label a_LIMITATION_label a_SUSPENSION_label) : Fld Z Z.heap a_OVERDUE_REMINDER "com/example/careful_invoicing/carefulinvoicing/CollectionStep" "status" "Lcom/example/careful_invoicing/carefulinvoicing/CustomerStatus;" .null := FF.2.2.2.2.2.2.2.2.2.2.2.2.2.2.2.2.2.2.2.2.2.2.2.2.2.2.2.2.2.2.2.2.2.2.2.2.2.2.2.2.2.2.2.2.2.2.2.2.2.2.2.2.2.2.2.2.2.2.2.2.2.2.2.2.2.2.2.2.2.2.2.2.2.2.2.2.2.2.2.2.2.2.2.2.1
theorem ff_F_LATE_FEE_label {Z : State} {a_TERMINATION : Addr} {a_TERMINATED : Addr} {a_LIMIT_WARNING : Addr} {a_SUSPEND_WARNING : Addr} {a_TERMINATE_WARNING : Addr} {a_TERMINATE_WARNING' : Addr} {a_TERMINATED' : Addr} {a_LIMITATION : Addr} {a_LIMITED : Addr} {a_SUSPENSION : Addr} {a_SUSPENDED : Addr} {a_DUE_REMINDER : Addr} {a_DUE_REMINDER' : Addr} {a_SUSPEND_WARNING' : Addr} {a_SUSPENDED' : Addr} {a_OVERDUE_REMINDER : Addr} {a_OVERDUE_REMINDER' : Addr} {a_LATE_FEE : Addr} {a_LIMIT_WARNING' : Addr} {a_LIMITED' : Addr} {a_TERMINATION_label : Addr} {a_LIMITATION_label : Addr} {a_SUSPENSION_label : Addr} (FF : Facts Z a_TERMINATION a_TERMINATED a_LIMIT_WARNING a_SUSPEND_WARNING a_TERMINATE_WARNING a_TERMINATE_WARNING' a_TERMINATED' a_LIMITATION a_LIMITED a_SUSPENSION a_SUSPENDED a_DUE_REMINDER a_DUE_REMINDER' a_SUSPEND_WARNING' a_SUSPENDED' a_OVERDUE_REMINDER a_OVERDUE_REMINDER' a_LATE_FEE a_LIMIT_WARNING' a_LIMITED' a_TERMINATION_label a_LIMITATION_label a_SUSPENSION_label) : Fld Z Z.heap a_LATE_FEE "com/example/careful_invoicing/carefulinvoicing/CollectionStep" "label" "Ljava/lang/String;" .null := FF.2.2.2.2.2.2.2.2.2.2.2.2.2.2.2.2.2.2.2.2.2.2.2.2.2.2.2.2.2.2.2.2.2.2.2.2.2.2.2.2.2.2.2.2.2.2.2.2.2.2.2.2.2.2.2.2.2.2.2.2.2.2.2.2.2.2.2.2.2.2.2.2.2.2.2.2.2.2.2.2.2.2.2.2.2.1
theorem ff_F_LATE_FEE_status {Z : State} {a_TERMINATION : Addr} {a_TERMINATED : Addr} {a_LIMIT_WARNING : Addr} {a_SUSPEND_WARNING : Addr} {a_TERMINATE_WARNING : Addr} {a_TERMINATE_WARNING' : Addr} {a_TERMINATED' : Addr} {a_LIMITATION : Addr} {a_LIMITED : Addr} {a_SUSPENSION : Addr} {a_SUSPENDED : Addr} {a_DUE_REMINDER : Addr} {a_DUE_REMINDER' : Addr} {a_SUSPEND_WARNING' : Addr} {a_SUSPENDED' : Addr} {a_OVERDUE_REMINDER : Addr} {a_OVERDUE_REMINDER' : Addr} {a_LATE_FEE : Addr} {a_LIMIT_WARNING' : Addr} {a_LIMITED' : Addr} {a_TERMINATION_label : Addr} {a_LIMITATION_label : Addr} {a_SUSPENSION_label : Addr} (FF : Facts Z a_TERMINATION a_TERMINATED a_LIMIT_WARNING a_SUSPEND_WARNING a_TERMINATE_WARNING a_TERMINATE_WARNING' a_TERMINATED' a_LIMITATION a_LIMITED a_SUSPENSION a_SUSPENDED a_DUE_REMINDER a_DUE_REMINDER' a_SUSPEND_WARNING' a_SUSPENDED' a_OVERDUE_REMINDER a_OVERDUE_REMINDER' a_LATE_FEE a_LIMIT_WARNING' a_LIMITED' a_TERMINATION_label a_LIMITATION_label a_SUSPENSION_label) : Fld Z Z.heap a_LATE_FEE "com/example/careful_invoicing/carefulinvoicing/CollectionStep" "status" "Lcom/example/careful_invoicing/carefulinvoicing/CustomerStatus;" .null := FF.2.2.2.2.2.2.2.2.2.2.2.2.2.2.2.2.2.2.2.2.2.2.2.2.2.2.2.2.2.2.2.2.2.2.2.2.2.2.2.2.2.2.2.2.2.2.2.2.2.2.2.2.2.2.2.2.2.2.2.2.2.2.2.2.2.2.2.2.2.2.2.2.2.2.2.2.2.2.2.2.2.2.2.2.2.2.1
theorem ff_ne_TERMINATED_LIMIT_WARNING {Z : State} {a_TERMINATION : Addr} {a_TERMINATED : Addr} {a_LIMIT_WARNING : Addr} {a_SUSPEND_WARNING : Addr} {a_TERMINATE_WARNING : Addr} {a_TERMINATE_WARNING' : Addr} {a_TERMINATED' : Addr} {a_LIMITATION : Addr} {a_LIMITED : Addr} {a_SUSPENSION : Addr} {a_SUSPENDED : Addr} {a_DUE_REMINDER : Addr} {a_DUE_REMINDER' : Addr} {a_SUSPEND_WARNING' : Addr} {a_SUSPENDED' : Addr} {a_OVERDUE_REMINDER : Addr} {a_OVERDUE_REMINDER' : Addr} {a_LATE_FEE : Addr} {a_LIMIT_WARNING' : Addr} {a_LIMITED' : Addr} {a_TERMINATION_label : Addr} {a_LIMITATION_label : Addr} {a_SUSPENSION_label : Addr} (FF : Facts Z a_TERMINATION a_TERMINATED a_LIMIT_WARNING a_SUSPEND_WARNING a_TERMINATE_WARNING a_TERMINATE_WARNING' a_TERMINATED' a_LIMITATION a_LIMITED a_SUSPENSION a_SUSPENDED a_DUE_REMINDER a_DUE_REMINDER' a_SUSPEND_WARNING' a_SUSPENDED' a_OVERDUE_REMINDER a_OVERDUE_REMINDER' a_LATE_FEE a_LIMIT_WARNING' a_LIMITED' a_TERMINATION_label a_LIMITATION_label a_SUSPENSION_label) : a_TERMINATED ≠ a_LIMIT_WARNING := FF.2.2.2.2.2.2.2.2.2.2.2.2.2.2.2.2.2.2.2.2.2.2.2.2.2.2.2.2.2.2.2.2.2.2.2.2.2.2.2.2.2.2.2.2.2.2.2.2.2.2.2.2.2.2.2.2.2.2.2.2.2.2.2.2.2.2.2.2.2.2.2.2.2.2.2.2.2.2.2.2.2.2.2.2.2.2.2.1
theorem ff_ne_TERMINATED_SUSPEND_WARNING {Z : State} {a_TERMINATION : Addr} {a_TERMINATED : Addr} {a_LIMIT_WARNING : Addr} {a_SUSPEND_WARNING : Addr} {a_TERMINATE_WARNING : Addr} {a_TERMINATE_WARNING' : Addr} {a_TERMINATED' : Addr} {a_LIMITATION : Addr} {a_LIMITED : Addr} {a_SUSPENSION : Addr} {a_SUSPENDED : Addr} {a_DUE_REMINDER : Addr} {a_DUE_REMINDER' : Addr} {a_SUSPEND_WARNING' : Addr} {a_SUSPENDED' : Addr} {a_OVERDUE_REMINDER : Addr} {a_OVERDUE_REMINDER' : Addr} {a_LATE_FEE : Addr} {a_LIMIT_WARNING' : Addr} {a_LIMITED' : Addr} {a_TERMINATION_label : Addr} {a_LIMITATION_label : Addr} {a_SUSPENSION_label : Addr} (FF : Facts Z a_TERMINATION a_TERMINATED a_LIMIT_WARNING a_SUSPEND_WARNING a_TERMINATE_WARNING a_TERMINATE_WARNING' a_TERMINATED' a_LIMITATION a_LIMITED a_SUSPENSION a_SUSPENDED a_DUE_REMINDER a_DUE_REMINDER' a_SUSPEND_WARNING' a_SUSPENDED' a_OVERDUE_REMINDER a_OVERDUE_REMINDER' a_LATE_FEE a_LIMIT_WARNING' a_LIMITED' a_TERMINATION_label a_LIMITATION_label a_SUSPENSION_label) : a_TERMINATED ≠ a_SUSPEND_WARNING := FF.2.2.2.2.2.2.2.2.2.2.2.2.2.2.2.2.2.2.2.2.2.2.2.2.2.2.2.2.2.2.2.2.2.2.2.2.2.2.2.2.2.2.2.2.2.2.2.2.2.2.2.2.2.2.2.2.2.2.2.2.2.2.2.2.2.2.2.2.2.2.2.2.2.2.2.2.2.2.2.2.2.2.2.2.2.2.2.2.1
theorem ff_ne_TERMINATED_TERMINATE_WARNING {Z : State} {a_TERMINATION : Addr} {a_TERMINATED : Addr} {a_LIMIT_WARNING : Addr} {a_SUSPEND_WARNING : Addr} {a_TERMINATE_WARNING : Addr} {a_TERMINATE_WARNING' : Addr} {a_TERMINATED' : Addr} {a_LIMITATION : Addr} {a_LIMITED : Addr} {a_SUSPENSION : Addr} {a_SUSPENDED : Addr} {a_DUE_REMINDER : Addr} {a_DUE_REMINDER' : Addr} {a_SUSPEND_WARNING' : Addr} {a_SUSPENDED' : Addr} {a_OVERDUE_REMINDER : Addr} {a_OVERDUE_REMINDER' : Addr} {a_LATE_FEE : Addr} {a_LIMIT_WARNING' : Addr} {a_LIMITED' : Addr} {a_TERMINATION_label : Addr} {a_LIMITATION_label : Addr} {a_SUSPENSION_label : Addr} (FF : Facts Z a_TERMINATION a_TERMINATED a_LIMIT_WARNING a_SUSPEND_WARNING a_TERMINATE_WARNING a_TERMINATE_WARNING' a_TERMINATED' a_LIMITATION a_LIMITED a_SUSPENSION a_SUSPENDED a_DUE_REMINDER a_DUE_REMINDER' a_SUSPEND_WARNING' a_SUSPENDED' a_OVERDUE_REMINDER a_OVERDUE_REMINDER' a_LATE_FEE a_LIMIT_WARNING' a_LIMITED' a_TERMINATION_label a_LIMITATION_label a_SUSPENSION_label) : a_TERMINATED ≠ a_TERMINATE_WARNING := FF.2.2.2.2.2.2.2.2.2.2.2.2.2.2.2.2.2.2.2.2.2.2.2.2.2.2.2.2.2.2.2.2.2.2.2.2.2.2.2.2.2.2.2.2.2.2.2.2.2.2.2.2.2.2.2.2.2.2.2.2.2.2.2.2.2.2.2.2.2.2.2.2.2.2.2.2.2.2.2.2.2.2.2.2.2.2.2.2.2.1
theorem ff_ne_TERMINATED_LIMITED {Z : State} {a_TERMINATION : Addr} {a_TERMINATED : Addr} {a_LIMIT_WARNING : Addr} {a_SUSPEND_WARNING : Addr} {a_TERMINATE_WARNING : Addr} {a_TERMINATE_WARNING' : Addr} {a_TERMINATED' : Addr} {a_LIMITATION : Addr} {a_LIMITED : Addr} {a_SUSPENSION : Addr} {a_SUSPENDED : Addr} {a_DUE_REMINDER : Addr} {a_DUE_REMINDER' : Addr} {a_SUSPEND_WARNING' : Addr} {a_SUSPENDED' : Addr} {a_OVERDUE_REMINDER : Addr} {a_OVERDUE_REMINDER' : Addr} {a_LATE_FEE : Addr} {a_LIMIT_WARNING' : Addr} {a_LIMITED' : Addr} {a_TERMINATION_label : Addr} {a_LIMITATION_label : Addr} {a_SUSPENSION_label : Addr} (FF : Facts Z a_TERMINATION a_TERMINATED a_LIMIT_WARNING a_SUSPEND_WARNING a_TERMINATE_WARNING a_TERMINATE_WARNING' a_TERMINATED' a_LIMITATION a_LIMITED a_SUSPENSION a_SUSPENDED a_DUE_REMINDER a_DUE_REMINDER' a_SUSPEND_WARNING' a_SUSPENDED' a_OVERDUE_REMINDER a_OVERDUE_REMINDER' a_LATE_FEE a_LIMIT_WARNING' a_LIMITED' a_TERMINATION_label a_LIMITATION_label a_SUSPENSION_label) : a_TERMINATED ≠ a_LIMITED := FF.2.2.2.2.2.2.2.2.2.2.2.2.2.2.2.2.2.2.2.2.2.2.2.2.2.2.2.2.2.2.2.2.2.2.2.2.2.2.2.2.2.2.2.2.2.2.2.2.2.2.2.2.2.2.2.2.2.2.2.2.2.2.2.2.2.2.2.2.2.2.2.2.2.2.2.2.2.2.2.2.2.2.2.2.2.2.2.2.2.2.1
theorem ff_ne_TERMINATED_SUSPENDED {Z : State} {a_TERMINATION : Addr} {a_TERMINATED : Addr} {a_LIMIT_WARNING : Addr} {a_SUSPEND_WARNING : Addr} {a_TERMINATE_WARNING : Addr} {a_TERMINATE_WARNING' : Addr} {a_TERMINATED' : Addr} {a_LIMITATION : Addr} {a_LIMITED : Addr} {a_SUSPENSION : Addr} {a_SUSPENDED : Addr} {a_DUE_REMINDER : Addr} {a_DUE_REMINDER' : Addr} {a_SUSPEND_WARNING' : Addr} {a_SUSPENDED' : Addr} {a_OVERDUE_REMINDER : Addr} {a_OVERDUE_REMINDER' : Addr} {a_LATE_FEE : Addr} {a_LIMIT_WARNING' : Addr} {a_LIMITED' : Addr} {a_TERMINATION_label : Addr} {a_LIMITATION_label : Addr} {a_SUSPENSION_label : Addr} (FF : Facts Z a_TERMINATION a_TERMINATED a_LIMIT_WARNING a_SUSPEND_WARNING a_TERMINATE_WARNING a_TERMINATE_WARNING' a_TERMINATED' a_LIMITATION a_LIMITED a_SUSPENSION a_SUSPENDED a_DUE_REMINDER a_DUE_REMINDER' a_SUSPEND_WARNING' a_SUSPENDED' a_OVERDUE_REMINDER a_OVERDUE_REMINDER' a_LATE_FEE a_LIMIT_WARNING' a_LIMITED' a_TERMINATION_label a_LIMITATION_label a_SUSPENSION_label) : a_TERMINATED ≠ a_SUSPENDED := FF.2.2.2.2.2.2.2.2.2.2.2.2.2.2.2.2.2.2.2.2.2.2.2.2.2.2.2.2.2.2.2.2.2.2.2.2.2.2.2.2.2.2.2.2.2.2.2.2.2.2.2.2.2.2.2.2.2.2.2.2.2.2.2.2.2.2.2.2.2.2.2.2.2.2.2.2.2.2.2.2.2.2.2.2.2.2.2.2.2.2.2.1
theorem ff_ne_TERMINATED_DUE_REMINDER' {Z : State} {a_TERMINATION : Addr} {a_TERMINATED : Addr} {a_LIMIT_WARNING : Addr} {a_SUSPEND_WARNING : Addr} {a_TERMINATE_WARNING : Addr} {a_TERMINATE_WARNING' : Addr} {a_TERMINATED' : Addr} {a_LIMITATION : Addr} {a_LIMITED : Addr} {a_SUSPENSION : Addr} {a_SUSPENDED : Addr} {a_DUE_REMINDER : Addr} {a_DUE_REMINDER' : Addr} {a_SUSPEND_WARNING' : Addr} {a_SUSPENDED' : Addr} {a_OVERDUE_REMINDER : Addr} {a_OVERDUE_REMINDER' : Addr} {a_LATE_FEE : Addr} {a_LIMIT_WARNING' : Addr} {a_LIMITED' : Addr} {a_TERMINATION_label : Addr} {a_LIMITATION_label : Addr} {a_SUSPENSION_label : Addr} (FF : Facts Z a_TERMINATION a_TERMINATED a_LIMIT_WARNING a_SUSPEND_WARNING a_TERMINATE_WARNING a_TERMINATE_WARNING' a_TERMINATED' a_LIMITATION a_LIMITED a_SUSPENSION a_SUSPENDED a_DUE_REMINDER a_DUE_REMINDER' a_SUSPEND_WARNING' a_SUSPENDED' a_OVERDUE_REMINDER a_OVERDUE_REMINDER' a_LATE_FEE a_LIMIT_WARNING' a_LIMITED' a_TERMINATION_label a_LIMITATION_label a_SUSPENSION_label) : a_TERMINATED ≠ a_DUE_REMINDER' := FF.2.2.2.2.2.2.2.2.2.2.2.2.2.2.2.2.2.2.2.2.2.2.2.2.2.2.2.2.2.2.2.2.2.2.2.2.2.2.2.2.2.2.2.2.2.2.2.2.2.2.2.2.2.2.2.2.2.2.2.2.2.2.2.2.2.2.2.2.2.2.2.2.2.2.2.2.2.2.2.2.2.2.2.2.2.2.2.2.2.2.2.2.1
theorem ff_ne_TERMINATED_OVERDUE_REMINDER' {Z : State} {a_TERMINATION : Addr} {a_TERMINATED : Addr} {a_LIMIT_WARNING : Addr} {a_SUSPEND_WARNING : Addr} {a_TERMINATE_WARNING : Addr} {a_TERMINATE_WARNING' : Addr} {a_TERMINATED' : Addr} {a_LIMITATION : Addr} {a_LIMITED : Addr} {a_SUSPENSION : Addr} {a_SUSPENDED : Addr} {a_DUE_REMINDER : Addr} {a_DUE_REMINDER' : Addr} {a_SUSPEND_WARNING' : Addr} {a_SUSPENDED' : Addr} {a_OVERDUE_REMINDER : Addr} {a_OVERDUE_REMINDER' : Addr} {a_LATE_FEE : Addr} {a_LIMIT_WARNING' : Addr} {a_LIMITED' : Addr} {a_TERMINATION_label : Addr} {a_LIMITATION_label : Addr} {a_SUSPENSION_label : Addr} (FF : Facts Z a_TERMINATION a_TERMINATED a_LIMIT_WARNING a_SUSPEND_WARNING a_TERMINATE_WARNING a_TERMINATE_WARNING' a_TERMINATED' a_LIMITATION a_LIMITED a_SUSPENSION a_SUSPENDED a_DUE_REMINDER a_DUE_REMINDER' a_SUSPEND_WARNING' a_SUSPENDED' a_OVERDUE_REMINDER a_OVERDUE_REMINDER' a_LATE_FEE a_LIMIT_WARNING' a_LIMITED' a_TERMINATION_label a_LIMITATION_label a_SUSPENSION_label) : a_TERMINATED ≠ a_OVERDUE_REMINDER' := FF.2.2.2.2.2.2.2.2.2.2.2.2.2.2.2.2.2.2.2.2.2.2.2.2.2.2.2.2.2.2.2.2.2.2.2.2.2.2.2.2.2.2.2.2.2.2.2.2.2.2.2.2.2.2.2.2.2.2.2.2.2.2.2.2.2.2.2.2.2.2.2.2.2.2.2.2.2.2.2.2.2.2.2.2.2.2.2.2.2.2.2.2.2.1
theorem ff_ne_LIMIT_WARNING_SUSPEND_WARNING {Z : State} {a_TERMINATION : Addr} {a_TERMINATED : Addr} {a_LIMIT_WARNING : Addr} {a_SUSPEND_WARNING : Addr} {a_TERMINATE_WARNING : Addr} {a_TERMINATE_WARNING' : Addr} {a_TERMINATED' : Addr} {a_LIMITATION : Addr} {a_LIMITED : Addr} {a_SUSPENSION : Addr} {a_SUSPENDED : Addr} {a_DUE_REMINDER : Addr} {a_DUE_REMINDER' : Addr} {a_SUSPEND_WARNING' : Addr} {a_SUSPENDED' : Addr} {a_OVERDUE_REMINDER : Addr} {a_OVERDUE_REMINDER' : Addr} {a_LATE_FEE : Addr} {a_LIMIT_WARNING' : Addr} {a_LIMITED' : Addr} {a_TERMINATION_label : Addr} {a_LIMITATION_label : Addr} {a_SUSPENSION_label : Addr} (FF : Facts Z a_TERMINATION a_TERMINATED a_LIMIT_WARNING a_SUSPEND_WARNING a_TERMINATE_WARNING a_TERMINATE_WARNING' a_TERMINATED' a_LIMITATION a_LIMITED a_SUSPENSION a_SUSPENDED a_DUE_REMINDER a_DUE_REMINDER' a_SUSPEND_WARNING' a_SUSPENDED' a_OVERDUE_REMINDER a_OVERDUE_REMINDER' a_LATE_FEE a_LIMIT_WARNING' a_LIMITED' a_TERMINATION_label a_LIMITATION_label a_SUSPENSION_label) : a_LIMIT_WARNING ≠ a_SUSPEND_WARNING := FF.2.2.2.2.2.2.2.2.2.2.2.2.2.2.2.2.2.2.2.2.2.2.2.2.2.2.2.2.2.2.2.2.2.2.2.2.2.2.2.2.2.2.2.2.2.2.2.2.2.2.2.2.2.2.2.2.2.2.2.2.2.2.2.2.2.2.2.2.2.2.2.2.2.2.2.2.2.2.2.2.2.2.2.2.2.2.2.2.2.2.2.2.2.2.1
theorem ff_ne_LIMIT_WARNING_TERMINATE_WARNING {Z : State} {a_TERMINATION : Addr} {a_TERMINATED : Addr} {a_LIMIT_WARNING : Addr} {a_SUSPEND_WARNING : Addr} {a_TERMINATE_WARNING : Addr} {a_TERMINATE_WARNING' : Addr} {a_TERMINATED' : Addr} {a_LIMITATION : Addr} {a_LIMITED : Addr} {a_SUSPENSION : Addr} {a_SUSPENDED : Addr} {a_DUE_REMINDER : Addr} {a_DUE_REMINDER' : Addr} {a_SUSPEND_WARNING' : Addr} {a_SUSPENDED' : Addr} {a_OVERDUE_REMINDER : Addr} {a_OVERDUE_REMINDER' : Addr} {a_LATE_FEE : Addr} {a_LIMIT_WARNING' : Addr} {a_LIMITED' : Addr} {a_TERMINATION_label : Addr} {a_LIMITATION_label : Addr} {a_SUSPENSION_label : Addr} (FF : Facts Z a_TERMINATION a_TERMINATED a_LIMIT_WARNING a_SUSPEND_WARNING a_TERMINATE_WARNING a_TERMINATE_WARNING' a_TERMINATED' a_LIMITATION a_LIMITED a_SUSPENSION a_SUSPENDED a_DUE_REMINDER a_DUE_REMINDER' a_SUSPEND_WARNING' a_SUSPENDED' a_OVERDUE_REMINDER a_OVERDUE_REMINDER' a_LATE_FEE a_LIMIT_WARNING' a_LIMITED' a_TERMINATION_label a_LIMITATION_label a_SUSPENSION_label) : a_LIMIT_WARNING ≠ a_TERMINATE_WARNING := FF.2.2.2.2.2.2.2.2.2.2.2.2.2.2.2.2.2.2.2.2.2.2.2.2.2.2.2.2.2.2.2.2.2.2.2.2.2.2.2.2.2.2.2.2.2.2.2.2.2.2.2.2.2.2.2.2.2.2.2.2.2.2.2.2.2.2.2.2.2.2.2.2.2.2.2.2.2.2.2.2.2.2.2.2.2.2.2.2.2.2.2.2.2.2.2.1
theorem ff_ne_LIMIT_WARNING_LIMITED {Z : State} {a_TERMINATION : Addr} {a_TERMINATED : Addr} {a_LIMIT_WARNING : Addr} {a_SUSPEND_WARNING : Addr} {a_TERMINATE_WARNING : Addr} {a_TERMINATE_WARNING' : Addr} {a_TERMINATED' : Addr} {a_LIMITATION : Addr} {a_LIMITED : Addr} {a_SUSPENSION : Addr} {a_SUSPENDED : Addr} {a_DUE_REMINDER : Addr} {a_DUE_REMINDER' : Addr} {a_SUSPEND_WARNING' : Addr} {a_SUSPENDED' : Addr} {a_OVERDUE_REMINDER : Addr} {a_OVERDUE_REMINDER' : Addr} {a_LATE_FEE : Addr} {a_LIMIT_WARNING' : Addr} {a_LIMITED' : Addr} {a_TERMINATION_label : Addr} {a_LIMITATION_label : Addr} {a_SUSPENSION_label : Addr} (FF : Facts Z a_TERMINATION a_TERMINATED a_LIMIT_WARNING a_SUSPEND_WARNING a_TERMINATE_WARNING a_TERMINATE_WARNING' a_TERMINATED' a_LIMITATION a_LIMITED a_SUSPENSION a_SUSPENDED a_DUE_REMINDER a_DUE_REMINDER' a_SUSPEND_WARNING' a_SUSPENDED' a_OVERDUE_REMINDER a_OVERDUE_REMINDER' a_LATE_FEE a_LIMIT_WARNING' a_LIMITED' a_TERMINATION_label a_LIMITATION_label a_SUSPENSION_label) : a_LIMIT_WARNING ≠ a_LIMITED := FF.2.2.2.2.2.2.2.2.2.2.2.2.2.2.2.2.2.2.2.2.2.2.2.2.2.2.2.2.2.2.2.2.2.2.2.2.2.2.2.2.2.2.2.2.2.2.2.2.2.2.2.2.2.2.2.2.2.2.2.2.2.2.2.2.2.2.2.2.2.2.2.2.2.2.2.2.2.2.2.2.2.2.2.2.2.2.2.2.2.2.2.2.2.2.2.2.1
theorem ff_ne_LIMIT_WARNING_SUSPENDED {Z : State} {a_TERMINATION : Addr} {a_TERMINATED : Addr} {a_LIMIT_WARNING : Addr} {a_SUSPEND_WARNING : Addr} {a_TERMINATE_WARNING : Addr} {a_TERMINATE_WARNING' : Addr} {a_TERMINATED' : Addr} {a_LIMITATION : Addr} {a_LIMITED : Addr} {a_SUSPENSION : Addr} {a_SUSPENDED : Addr} {a_DUE_REMINDER : Addr} {a_DUE_REMINDER' : Addr} {a_SUSPEND_WARNING' : Addr} {a_SUSPENDED' : Addr} {a_OVERDUE_REMINDER : Addr} {a_OVERDUE_REMINDER' : Addr} {a_LATE_FEE : Addr} {a_LIMIT_WARNING' : Addr} {a_LIMITED' : Addr} {a_TERMINATION_label : Addr} {a_LIMITATION_label : Addr} {a_SUSPENSION_label : Addr} (FF : Facts Z a_TERMINATION a_TERMINATED a_LIMIT_WARNING a_SUSPEND_WARNING a_TERMINATE_WARNING a_TERMINATE_WARNING' a_TERMINATED' a_LIMITATION a_LIMITED a_SUSPENSION a_SUSPENDED a_DUE_REMINDER a_DUE_REMINDER' a_SUSPEND_WARNING' a_SUSPENDED' a_OVERDUE_REMINDER a_OVERDUE_REMINDER' a_LATE_FEE a_LIMIT_WARNING' a_LIMITED' a_TERMINATION_label a_LIMITATION_label a_SUSPENSION_label) : a_LIMIT_WARNING ≠ a_SUSPENDED := FF.2.2.2.2.2.2.2.2.2.2.2.2.2.2.2.2.2.2.2.2.2.2.2.2.2.2.2.2.2.2.2.2.2.2.2.2.2.2.2.2.2.2.2.2.2.2.2.2.2.2.2.2.2.2.2.2.2.2.2.2.2.2.2.2.2.2.2.2.2.2.2.2.2.2.2.2.2.2.2.2.2.2.2.2.2.2.2.2.2.2.2.2.2.2.2.2.2.1
theorem ff_ne_LIMIT_WARNING_DUE_REMINDER' {Z : State} {a_TERMINATION : Addr} {a_TERMINATED : Addr} {a_LIMIT_WARNING : Addr} {a_SUSPEND_WARNING : Addr} {a_TERMINATE_WARNING : Addr} {a_TERMINATE_WARNING' : Addr} {a_TERMINATED' : Addr} {a_LIMITATION : Addr} {a_LIMITED : Addr} {a_SUSPENSION : Addr} {a_SUSPENDED : Addr} {a_DUE_REMINDER : Addr} {a_DUE_REMINDER' : Addr} {a_SUSPEND_WARNING' : Addr} {a_SUSPENDED' : Addr} {a_OVERDUE_REMINDER : Addr} {a_OVERDUE_REMINDER' : Addr} {a_LATE_FEE : Addr} {a_LIMIT_WARNING' : Addr} {a_LIMITED' : Addr} {a_TERMINATION_label : Addr} {a_LIMITATION_label : Addr} {a_SUSPENSION_label : Addr} (FF : Facts Z a_TERMINATION a_TERMINATED a_LIMIT_WARNING a_SUSPEND_WARNING a_TERMINATE_WARNING a_TERMINATE_WARNING' a_TERMINATED' a_LIMITATION a_LIMITED a_SUSPENSION a_SUSPENDED a_DUE_REMINDER a_DUE_REMINDER' a_SUSPEND_WARNING' a_SUSPENDED' a_OVERDUE_REMINDER a_OVERDUE_REMINDER' a_LATE_FEE a_LIMIT_WARNING' a_LIMITED' a_TERMINATION_label a_LIMITATION_label a_SUSPENSION_label) : a_LIMIT_WARNING ≠ a_DUE_REMINDER' := FF.2.2.2.2.2.2.2.2.2.2.2.2.2.2.2.2.2.2.2.2.2.2.2.2.2.2.2.2.2.2.2.2.2.2.2.2.2.2.2.2.2.2.2.2.2.2.2.2.2.2.2.2.2.2.2.2.2.2.2.2.2.2.2.2.2.2.2.2.2.2.2.2.2.2.2.2.2.2.2.2.2.2.2.2.2.2.2.2.2.2.2.2.2.2.2.2.2.2.1
theorem ff_ne_LIMIT_WARNING_OVERDUE_REMINDER' {Z : State} {a_TERMINATION : Addr} {a_TERMINATED : Addr} {a_LIMIT_WARNING : Addr} {a_SUSPEND_WARNING : Addr} {a_TERMINATE_WARNING : Addr} {a_TERMINATE_WARNING' : Addr} {a_TERMINATED' : Addr} {a_LIMITATION : Addr} {a_LIMITED : Addr} {a_SUSPENSION : Addr} {a_SUSPENDED : Addr} {a_DUE_REMINDER : Addr} {a_DUE_REMINDER' : Addr} {a_SUSPEND_WARNING' : Addr} {a_SUSPENDED' : Addr} {a_OVERDUE_REMINDER : Addr} {a_OVERDUE_REMINDER' : Addr} {a_LATE_FEE : Addr} {a_LIMIT_WARNING' : Addr} {a_LIMITED' : Addr} {a_TERMINATION_label : Addr} {a_LIMITATION_label : Addr} {a_SUSPENSION_label : Addr} (FF : Facts Z a_TERMINATION a_TERMINATED a_LIMIT_WARNING a_SUSPEND_WARNING a_TERMINATE_WARNING a_TERMINATE_WARNING' a_TERMINATED' a_LIMITATION a_LIMITED a_SUSPENSION a_SUSPENDED a_DUE_REMINDER a_DUE_REMINDER' a_SUSPEND_WARNING' a_SUSPENDED' a_OVERDUE_REMINDER a_OVERDUE_REMINDER' a_LATE_FEE a_LIMIT_WARNING' a_LIMITED' a_TERMINATION_label a_LIMITATION_label a_SUSPENSION_label) : a_LIMIT_WARNING ≠ a_OVERDUE_REMINDER' := FF.2.2.2.2.2.2.2.2.2.2.2.2.2.2.2.2.2.2.2.2.2.2.2.2.2.2.2.2.2.2.2.2.2.2.2.2.2.2.2.2.2.2.2.2.2.2.2.2.2.2.2.2.2.2.2.2.2.2.2.2.2.2.2.2.2.2.2.2.2.2.2.2.2.2.2.2.2.2.2.2.2.2.2.2.2.2.2.2.2.2.2.2.2.2.2.2.2.2.2.1
theorem ff_ne_SUSPEND_WARNING_TERMINATE_WARNING {Z : State} {a_TERMINATION : Addr} {a_TERMINATED : Addr} {a_LIMIT_WARNING : Addr} {a_SUSPEND_WARNING : Addr} {a_TERMINATE_WARNING : Addr} {a_TERMINATE_WARNING' : Addr} {a_TERMINATED' : Addr} {a_LIMITATION : Addr} {a_LIMITED : Addr} {a_SUSPENSION : Addr} {a_SUSPENDED : Addr} {a_DUE_REMINDER : Addr} {a_DUE_REMINDER' : Addr} {a_SUSPEND_WARNING' : Addr} {a_SUSPENDED' : Addr} {a_OVERDUE_REMINDER : Addr} {a_OVERDUE_REMINDER' : Addr} {a_LATE_FEE : Addr} {a_LIMIT_WARNING' : Addr} {a_LIMITED' : Addr} {a_TERMINATION_label : Addr} {a_LIMITATION_label : Addr} {a_SUSPENSION_label : Addr} (FF : Facts Z a_TERMINATION a_TERMINATED a_LIMIT_WARNING a_SUSPEND_WARNING a_TERMINATE_WARNING a_TERMINATE_WARNING' a_TERMINATED' a_LIMITATION a_LIMITED a_SUSPENSION a_SUSPENDED a_DUE_REMINDER a_DUE_REMINDER' a_SUSPEND_WARNING' a_SUSPENDED' a_OVERDUE_REMINDER a_OVERDUE_REMINDER' a_LATE_FEE a_LIMIT_WARNING' a_LIMITED' a_TERMINATION_label a_LIMITATION_label a_SUSPENSION_label) : a_SUSPEND_WARNING ≠ a_TERMINATE_WARNING := FF.2.2.2.2.2.2.2.2.2.2.2.2.2.2.2.2.2.2.2.2.2.2.2.2.2.2.2.2.2.2.2.2.2.2.2.2.2.2.2.2.2.2.2.2.2.2.2.2.2.2.2.2.2.2.2.2.2.2.2.2.2.2.2.2.2.2.2.2.2.2.2.2.2.2.2.2.2.2.2.2.2.2.2.2.2.2.2.2.2.2.2.2.2.2.2.2.2.2.2.2.1
theorem ff_ne_SUSPEND_WARNING_LIMITED {Z : State} {a_TERMINATION : Addr} {a_TERMINATED : Addr} {a_LIMIT_WARNING : Addr} {a_SUSPEND_WARNING : Addr} {a_TERMINATE_WARNING : Addr} {a_TERMINATE_WARNING' : Addr} {a_TERMINATED' : Addr} {a_LIMITATION : Addr} {a_LIMITED : Addr} {a_SUSPENSION : Addr} {a_SUSPENDED : Addr} {a_DUE_REMINDER : Addr} {a_DUE_REMINDER' : Addr} {a_SUSPEND_WARNING' : Addr} {a_SUSPENDED' : Addr} {a_OVERDUE_REMINDER : Addr} {a_OVERDUE_REMINDER' : Addr} {a_LATE_FEE : Addr} {a_LIMIT_WARNING' : Addr} {a_LIMITED' : Addr} {a_TERMINATION_label : Addr} {a_LIMITATION_label : Addr} {a_SUSPENSION_label : Addr} (FF : Facts Z a_TERMINATION a_TERMINATED a_LIMIT_WARNING a_SUSPEND_WARNING a_TERMINATE_WARNING a_TERMINATE_WARNING' a_TERMINATED' a_LIMITATION a_LIMITED a_SUSPENSION a_SUSPENDED a_DUE_REMINDER a_DUE_REMINDER' a_SUSPEND_WARNING' a_SUSPENDED' a_OVERDUE_REMINDER a_OVERDUE_REMINDER' a_LATE_FEE a_LIMIT_WARNING' a_LIMITED' a_TERMINATION_label a_LIMITATION_label a_SUSPENSION_label) : a_SUSPEND_WARNING ≠ a_LIMITED := FF.2.2.2.2.2.2.2.2.2.2.2.2.2.2.2.2.2.2.2.2.2.2.2.2.2.2.2.2.2.2.2.2.2.2.2.2.2.2.2.2.2.2.2.2.2.2.2.2.2.2.2.2.2.2.2.2.2.2.2.2.2.2.2.2.2.2.2.2.2.2.2.2.2.2.2.2.2.2.2.2.2.2.2.2.2.2.2.2.2.2.2.2.2.2.2.2.2.2.2.2.2.1
theorem ff_ne_SUSPEND_WARNING_SUSPENDED {Z : State} {a_TERMINATION : Addr} {a_TERMINATED : Addr} {a_LIMIT_WARNING : Addr} {a_SUSPEND_WARNING : Addr} {a_TERMINATE_WARNING : Addr} {a_TERMINATE_WARNING' : Addr} {a_TERMINATED' : Addr} {a_LIMITATION : Addr} {a_LIMITED : Addr} {a_SUSPENSION : Addr} {a_SUSPENDED : Addr} {a_DUE_REMINDER : Addr} {a_DUE_REMINDER' : Addr} {a_SUSPEND_WARNING' : Addr} {a_SUSPENDED' : Addr} {a_OVERDUE_REMINDER : Addr} {a_OVERDUE_REMINDER' : Addr} {a_LATE_FEE : Addr} {a_LIMIT_WARNING' : Addr} {a_LIMITED' : Addr} {a_TERMINATION_label : Addr} {a_LIMITATION_label : Addr} {a_SUSPENSION_label : Addr} (FF : Facts Z a_TERMINATION a_TERMINATED a_LIMIT_WARNING a_SUSPEND_WARNING a_TERMINATE_WARNING a_TERMINATE_WARNING' a_TERMINATED' a_LIMITATION a_LIMITED a_SUSPENSION a_SUSPENDED a_DUE_REMINDER a_DUE_REMINDER' a_SUSPEND_WARNING' a_SUSPENDED' a_OVERDUE_REMINDER a_OVERDUE_REMINDER' a_LATE_FEE a_LIMIT_WARNING' a_LIMITED' a_TERMINATION_label a_LIMITATION_label a_SUSPENSION_label) : a_SUSPEND_WARNING ≠ a_SUSPENDED := FF.2.2.2.2.2.2.2.2.2.2.2.2.2.2.2.2.2.2.2.2.2.2.2.2.2.2.2.2.2.2.2.2.2.2.2.2.2.2.2.2.2.2.2.2.2.2.2.2.2.2.2.2.2.2.2.2.2.2.2.2.2.2.2.2.2.2.2.2.2.2.2.2.2.2.2.2.2.2.2.2.2.2.2.2.2.2.2.2.2.2.2.2.2.2.2.2.2.2.2.2.2.2.1
theorem ff_ne_SUSPEND_WARNING_DUE_REMINDER' {Z : State} {a_TERMINATION : Addr} {a_TERMINATED : Addr} {a_LIMIT_WARNING : Addr} {a_SUSPEND_WARNING : Addr} {a_TERMINATE_WARNING : Addr} {a_TERMINATE_WARNING' : Addr} {a_TERMINATED' : Addr} {a_LIMITATION : Addr} {a_LIMITED : Addr} {a_SUSPENSION : Addr} {a_SUSPENDED : Addr} {a_DUE_REMINDER : Addr} {a_DUE_REMINDER' : Addr} {a_SUSPEND_WARNING' : Addr} {a_SUSPENDED' : Addr} {a_OVERDUE_REMINDER : Addr} {a_OVERDUE_REMINDER' : Addr} {a_LATE_FEE : Addr} {a_LIMIT_WARNING' : Addr} {a_LIMITED' : Addr} {a_TERMINATION_label : Addr} {a_LIMITATION_label : Addr} {a_SUSPENSION_label : Addr} (FF : Facts Z a_TERMINATION a_TERMINATED a_LIMIT_WARNING a_SUSPEND_WARNING a_TERMINATE_WARNING a_TERMINATE_WARNING' a_TERMINATED' a_LIMITATION a_LIMITED a_SUSPENSION a_SUSPENDED a_DUE_REMINDER a_DUE_REMINDER' a_SUSPEND_WARNING' a_SUSPENDED' a_OVERDUE_REMINDER a_OVERDUE_REMINDER' a_LATE_FEE a_LIMIT_WARNING' a_LIMITED' a_TERMINATION_label a_LIMITATION_label a_SUSPENSION_label) : a_SUSPEND_WARNING ≠ a_DUE_REMINDER' := FF.2.2.2.2.2.2.2.2.2.2.2.2.2.2.2.2.2.2.2.2.2.2.2.2.2.2.2.2.2.2.2.2.2.2.2.2.2.2.2.2.2.2.2.2.2.2.2.2.2.2.2.2.2.2.2.2.2.2.2.2.2.2.2.2.2.2.2.2.2.2.2.2.2.2.2.2.2.2.2.2.2.2.2.2.2.2.2.2.2.2.2.2.2.2.2.2.2.2.2.2.2.2.2.1
theorem ff_ne_SUSPEND_WARNING_OVERDUE_REMINDER' {Z : State} {a_TERMINATION : Addr} {a_TERMINATED : Addr} {a_LIMIT_WARNING : Addr} {a_SUSPEND_WARNING : Addr} {a_TERMINATE_WARNING : Addr} {a_TERMINATE_WARNING' : Addr} {a_TERMINATED' : Addr} {a_LIMITATION : Addr} {a_LIMITED : Addr} {a_SUSPENSION : Addr} {a_SUSPENDED : Addr} {a_DUE_REMINDER : Addr} {a_DUE_REMINDER' : Addr} {a_SUSPEND_WARNING' : Addr} {a_SUSPENDED' : Addr} {a_OVERDUE_REMINDER : Addr} {a_OVERDUE_REMINDER' : Addr} {a_LATE_FEE : Addr} {a_LIMIT_WARNING' : Addr} {a_LIMITED' : Addr} {a_TERMINATION_label : Addr} {a_LIMITATION_label : Addr} {a_SUSPENSION_label : Addr} (FF : Facts Z a_TERMINATION a_TERMINATED a_LIMIT_WARNING a_SUSPEND_WARNING a_TERMINATE_WARNING a_TERMINATE_WARNING' a_TERMINATED' a_LIMITATION a_LIMITED a_SUSPENSION a_SUSPENDED a_DUE_REMINDER a_DUE_REMINDER' a_SUSPEND_WARNING' a_SUSPENDED' a_OVERDUE_REMINDER a_OVERDUE_REMINDER' a_LATE_FEE a_LIMIT_WARNING' a_LIMITED' a_TERMINATION_label a_LIMITATION_label a_SUSPENSION_label) : a_SUSPEND_WARNING ≠ a_OVERDUE_REMINDER' := FF.2.2.2.2.2.2.2.2.2.2.2.2.2.2.2.2.2.2.2.2.2.2.2.2.2.2.2.2.2.2.2.2.2.2.2.2.2.2.2.2.2.2.2.2.2.2.2.2.2.2.2.2.2.2.2.2.2.2.2.2.2.2.2.2.2.2.2.2.2.2.2.2.2.2.2.2.2.2.2.2.2.2.2.2.2.2.2.2.2.2.2.2.2.2.2.2.2.2.2.2.2.2.2.2.1
theorem ff_ne_TERMINATE_WARNING_LIMITED {Z : State} {a_TERMINATION : Addr} {a_TERMINATED : Addr} {a_LIMIT_WARNING : Addr} {a_SUSPEND_WARNING : Addr} {a_TERMINATE_WARNING : Addr} {a_TERMINATE_WARNING' : Addr} {a_TERMINATED' : Addr} {a_LIMITATION : Addr} {a_LIMITED : Addr} {a_SUSPENSION : Addr} {a_SUSPENDED : Addr} {a_DUE_REMINDER : Addr} {a_DUE_REMINDER' : Addr} {a_SUSPEND_WARNING' : Addr} {a_SUSPENDED' : Addr} {a_OVERDUE_REMINDER : Addr} {a_OVERDUE_REMINDER' : Addr} {a_LATE_FEE : Addr} {a_LIMIT_WARNING' : Addr} {a_LIMITED' : Addr} {a_TERMINATION_label : Addr} {a_LIMITATION_label : Addr} {a_SUSPENSION_label : Addr} (FF : Facts Z a_TERMINATION a_TERMINATED a_LIMIT_WARNING a_SUSPEND_WARNING a_TERMINATE_WARNING a_TERMINATE_WARNING' a_TERMINATED' a_LIMITATION a_LIMITED a_SUSPENSION a_SUSPENDED a_DUE_REMINDER a_DUE_REMINDER' a_SUSPEND_WARNING' a_SUSPENDED' a_OVERDUE_REMINDER a_OVERDUE_REMINDER' a_LATE_FEE a_LIMIT_WARNING' a_LIMITED' a_TERMINATION_label a_LIMITATION_label a_SUSPENSION_label) : a_TERMINATE_WARNING ≠ a_LIMITED := FF.2.2.2.2.2.2.2.2.2.2.2.2.2.2.2.2.2.2.2.2.2.2.2.2.2.2.2.2.2.2.2.2.2.2.2.2.2.2.2.2.2.2.2.2.2.2.2.2.2.2.2.2.2.2.2.2.2.2.2.2.2.2.2.2.2.2.2.2.2.2.2.2.2.2.2.2.2.2.2.2.2.2.2.2.2.2.2.2.2.2.2.2.2.2.2.2.2.2.2.2.2.2.2.2.2.1
theorem ff_ne_TERMINATE_WARNING_SUSPENDED {Z : State} {a_TERMINATION : Addr} {a_TERMINATED : Addr} {a_LIMIT_WARNING : Addr} {a_SUSPEND_WARNING : Addr} {a_TERMINATE_WARNING : Addr} {a_TERMINATE_WARNING' : Addr} {a_TERMINATED' : Addr} {a_LIMITATION : Addr} {a_LIMITED : Addr} {a_SUSPENSION : Addr} {a_SUSPENDED : Addr} {a_DUE_REMINDER : Addr} {a_DUE_REMINDER' : Addr} {a_SUSPEND_WARNING' : Addr} {a_SUSPENDED' : Addr} {a_OVERDUE_REMINDER : Addr} {a_OVERDUE_REMINDER' : Addr} {a_LATE_FEE : Addr} {a_LIMIT_WARNING' : Addr} {a_LIMITED' : Addr} {a_TERMINATION_label : Addr} {a_LIMITATION_label : Addr} {a_SUSPENSION_label : Addr} (FF : Facts Z a_TERMINATION a_TERMINATED a_LIMIT_WARNING a_SUSPEND_WARNING a_TERMINATE_WARNING a_TERMINATE_WARNING' a_TERMINATED' a_LIMITATION a_LIMITED a_SUSPENSION a_SUSPENDED a_DUE_REMINDER a_DUE_REMINDER' a_SUSPEND_WARNING' a_SUSPENDED' a_OVERDUE_REMINDER a_OVERDUE_REMINDER' a_LATE_FEE a_LIMIT_WARNING' a_LIMITED' a_TERMINATION_label a_LIMITATION_label a_SUSPENSION_label) : a_TERMINATE_WARNING ≠ a_SUSPENDED := FF.2.2.2.2.2.2.2.2.2.2.2.2.2.2.2.2.2.2.2.2.2.2.2.2.2.2.2.2.2.2.2.2.2.2.2.2.2.2.2.2.2.2.2.2.2.2.2.2.2.2.2.2.2.2.2.2.2.2.2.2.2.2.2.2.2.2.2.2.2.2.2.2.2.2.2.2.2.2.2.2.2.2.2.2.2.2.2.2.2.2.2.2.2.2.2.2.2.2.2.2.2.2.2.2.2.2.1
theorem ff_ne_TERMINATE_WARNING_DUE_REMINDER' {Z : State} {a_TERMINATION : Addr} {a_TERMINATED : Addr} {a_LIMIT_WARNING : Addr} {a_SUSPEND_WARNING : Addr} {a_TERMINATE_WARNING : Addr} {a_TERMINATE_WARNING' : Addr} {a_TERMINATED' : Addr} {a_LIMITATION : Addr} {a_LIMITED : Addr} {a_SUSPENSION : Addr} {a_SUSPENDED : Addr} {a_DUE_REMINDER : Addr} {a_DUE_REMINDER' : Addr} {a_SUSPEND_WARNING' : Addr} {a_SUSPENDED' : Addr} {a_OVERDUE_REMINDER : Addr} {a_OVERDUE_REMINDER' : Addr} {a_LATE_FEE : Addr} {a_LIMIT_WARNING' : Addr} {a_LIMITED' : Addr} {a_TERMINATION_label : Addr} {a_LIMITATION_label : Addr} {a_SUSPENSION_label : Addr} (FF : Facts Z a_TERMINATION a_TERMINATED a_LIMIT_WARNING a_SUSPEND_WARNING a_TERMINATE_WARNING a_TERMINATE_WARNING' a_TERMINATED' a_LIMITATION a_LIMITED a_SUSPENSION a_SUSPENDED a_DUE_REMINDER a_DUE_REMINDER' a_SUSPEND_WARNING' a_SUSPENDED' a_OVERDUE_REMINDER a_OVERDUE_REMINDER' a_LATE_FEE a_LIMIT_WARNING' a_LIMITED' a_TERMINATION_label a_LIMITATION_label a_SUSPENSION_label) : a_TERMINATE_WARNING ≠ a_DUE_REMINDER' := FF.2.2.2.2.2.2.2.2.2.2.2.2.2.2.2.2.2.2.2.2.2.2.2.2.2.2.2.2.2.2.2.2.2.2.2.2.2.2.2.2.2.2.2.2.2.2.2.2.2.2.2.2.2.2.2.2.2.2.2.2.2.2.2.2.2.2.2.2.2.2.2.2.2.2.2.2.2.2.2.2.2.2.2.2.2.2.2.2.2.2.2.2.2.2.2.2.2.2.2.2.2.2.2.2.2.2.2.1
theorem ff_ne_TERMINATE_WARNING_OVERDUE_REMINDER' {Z : State} {a_TERMINATION : Addr} {a_TERMINATED : Addr} {a_LIMIT_WARNING : Addr} {a_SUSPEND_WARNING : Addr} {a_TERMINATE_WARNING : Addr} {a_TERMINATE_WARNING' : Addr} {a_TERMINATED' : Addr} {a_LIMITATION : Addr} {a_LIMITED : Addr} {a_SUSPENSION : Addr} {a_SUSPENDED : Addr} {a_DUE_REMINDER : Addr} {a_DUE_REMINDER' : Addr} {a_SUSPEND_WARNING' : Addr} {a_SUSPENDED' : Addr} {a_OVERDUE_REMINDER : Addr} {a_OVERDUE_REMINDER' : Addr} {a_LATE_FEE : Addr} {a_LIMIT_WARNING' : Addr} {a_LIMITED' : Addr} {a_TERMINATION_label : Addr} {a_LIMITATION_label : Addr} {a_SUSPENSION_label : Addr} (FF : Facts Z a_TERMINATION a_TERMINATED a_LIMIT_WARNING a_SUSPEND_WARNING a_TERMINATE_WARNING a_TERMINATE_WARNING' a_TERMINATED' a_LIMITATION a_LIMITED a_SUSPENSION a_SUSPENDED a_DUE_REMINDER a_DUE_REMINDER' a_SUSPEND_WARNING' a_SUSPENDED' a_OVERDUE_REMINDER a_OVERDUE_REMINDER' a_LATE_FEE a_LIMIT_WARNING' a_LIMITED' a_TERMINATION_label a_LIMITATION_label a_SUSPENSION_label) : a_TERMINATE_WARNING ≠ a_OVERDUE_REMINDER' := FF.2.2.2.2.2.2.2.2.2.2.2.2.2.2.2.2.2.2.2.2.2.2.2.2.2.2.2.2.2.2.2.2.2.2.2.2.2.2.2.2.2.2.2.2.2.2.2.2.2.2.2.2.2.2.2.2.2.2.2.2.2.2.2.2.2.2.2.2.2.2.2.2.2.2.2.2.2.2.2.2.2.2.2.2.2.2.2.2.2.2.2.2.2.2.2.2.2.2.2.2.2.2.2.2.2.2.2.2.1
theorem ff_ne_LIMITED_SUSPENDED {Z : State} {a_TERMINATION : Addr} {a_TERMINATED : Addr} {a_LIMIT_WARNING : Addr} {a_SUSPEND_WARNING : Addr} {a_TERMINATE_WARNING : Addr} {a_TERMINATE_WARNING' : Addr} {a_TERMINATED' : Addr} {a_LIMITATION : Addr} {a_LIMITED : Addr} {a_SUSPENSION : Addr} {a_SUSPENDED : Addr} {a_DUE_REMINDER : Addr} {a_DUE_REMINDER' : Addr} {a_SUSPEND_WARNING' : Addr} {a_SUSPENDED' : Addr} {a_OVERDUE_REMINDER : Addr} {a_OVERDUE_REMINDER' : Addr} {a_LATE_FEE : Addr} {a_LIMIT_WARNING' : Addr} {a_LIMITED' : Addr} {a_TERMINATION_label : Addr} {a_LIMITATION_label : Addr} {a_SUSPENSION_label : Addr} (FF : Facts Z a_TERMINATION a_TERMINATED a_LIMIT_WARNING a_SUSPEND_WARNING a_TERMINATE_WARNING a_TERMINATE_WARNING' a_TERMINATED' a_LIMITATION a_LIMITED a_SUSPENSION a_SUSPENDED a_DUE_REMINDER a_DUE_REMINDER' a_SUSPEND_WARNING' a_SUSPENDED' a_OVERDUE_REMINDER a_OVERDUE_REMINDER' a_LATE_FEE a_LIMIT_WARNING' a_LIMITED' a_TERMINATION_label a_LIMITATION_label a_SUSPENSION_label) : a_LIMITED ≠ a_SUSPENDED := FF.2.2.2.2.2.2.2.2.2.2.2.2.2.2.2.2.2.2.2.2.2.2.2.2.2.2.2.2.2.2.2.2.2.2.2.2.2.2.2.2.2.2.2.2.2.2.2.2.2.2.2.2.2.2.2.2.2.2.2.2.2.2.2.2.2.2.2.2.2.2.2.2.2.2.2.2.2.2.2.2.2.2.2.2.2.2.2.2.2.2.2.2.2.2.2.2.2.2.2.2.2.2.2.2.2.2.2.2.2.1
theorem ff_ne_LIMITED_DUE_REMINDER' {Z : State} {a_TERMINATION : Addr} {a_TERMINATED : Addr} {a_LIMIT_WARNING : Addr} {a_SUSPEND_WARNING : Addr} {a_TERMINATE_WARNING : Addr} {a_TERMINATE_WARNING' : Addr} {a_TERMINATED' : Addr} {a_LIMITATION : Addr} {a_LIMITED : Addr} {a_SUSPENSION : Addr} {a_SUSPENDED : Addr} {a_DUE_REMINDER : Addr} {a_DUE_REMINDER' : Addr} {a_SUSPEND_WARNING' : Addr} {a_SUSPENDED' : Addr} {a_OVERDUE_REMINDER : Addr} {a_OVERDUE_REMINDER' : Addr} {a_LATE_FEE : Addr} {a_LIMIT_WARNING' : Addr} {a_LIMITED' : Addr} {a_TERMINATION_label : Addr} {a_LIMITATION_label : Addr} {a_SUSPENSION_label : Addr} (FF : Facts Z a_TERMINATION a_TERMINATED a_LIMIT_WARNING a_SUSPEND_WARNING a_TERMINATE_WARNING a_TERMINATE_WARNING' a_TERMINATED' a_LIMITATION a_LIMITED a_SUSPENSION a_SUSPENDED a_DUE_REMINDER a_DUE_REMINDER' a_SUSPEND_WARNING' a_SUSPENDED' a_OVERDUE_REMINDER a_OVERDUE_REMINDER' a_LATE_FEE a_LIMIT_WARNING' a_LIMITED' a_TERMINATION_label a_LIMITATION_label a_SUSPENSION_label) : a_LIMITED ≠ a_DUE_REMINDER' := FF.2.2.2.2.2.2.2.2.2.2.2.2.2.2.2.2.2.2.2.2.2.2.2.2.2.2.2.2.2.2.2.2.2.2.2.2.2.2.2.2.2.2.2.2.2.2.2.2.2.2.2.2.2.2.2.2.2.2.2.2.2.2.2.2.2.2.2.2.2.2.2.2.2.2.2.2.2.2.2.2.2.2.2.2.2.2.2.2.2.2.2.2.2.2.2.2.2.2.2.2.2.2.2.2.2.2.2.2.2.2.1
theorem ff_ne_LIMITED_OVERDUE_REMINDER' {Z : State} {a_TERMINATION : Addr} {a_TERMINATED : Addr} {a_LIMIT_WARNING : Addr} {a_SUSPEND_WARNING : Addr} {a_TERMINATE_WARNING : Addr} {a_TERMINATE_WARNING' : Addr} {a_TERMINATED' : Addr} {a_LIMITATION : Addr} {a_LIMITED : Addr} {a_SUSPENSION : Addr} {a_SUSPENDED : Addr} {a_DUE_REMINDER : Addr} {a_DUE_REMINDER' : Addr} {a_SUSPEND_WARNING' : Addr} {a_SUSPENDED' : Addr} {a_OVERDUE_REMINDER : Addr} {a_OVERDUE_REMINDER' : Addr} {a_LATE_FEE : Addr} {a_LIMIT_WARNING' : Addr} {a_LIMITED' : Addr} {a_TERMINATION_label : Addr} {a_LIMITATION_label : Addr} {a_SUSPENSION_label : Addr} (FF : Facts Z a_TERMINATION a_TERMINATED a_LIMIT_WARNING a_SUSPEND_WARNING a_TERMINATE_WARNING a_TERMINATE_WARNING' a_TERMINATED' a_LIMITATION a_LIMITED a_SUSPENSION a_SUSPENDED a_DUE_REMINDER a_DUE_REMINDER' a_SUSPEND_WARNING' a_SUSPENDED' a_OVERDUE_REMINDER a_OVERDUE_REMINDER' a_LATE_FEE a_LIMIT_WARNING' a_LIMITED' a_TERMINATION_label a_LIMITATION_label a_SUSPENSION_label) : a_LIMITED ≠ a_OVERDUE_REMINDER' := FF.2.2.2.2.2.2.2.2.2.2.2.2.2.2.2.2.2.2.2.2.2.2.2.2.2.2.2.2.2.2.2.2.2.2.2.2.2.2.2.2.2.2.2.2.2.2.2.2.2.2.2.2.2.2.2.2.2.2.2.2.2.2.2.2.2.2.2.2.2.2.2.2.2.2.2.2.2.2.2.2.2.2.2.2.2.2.2.2.2.2.2.2.2.2.2.2.2.2.2.2.2.2.2.2.2.2.2.2.2.2.2.1
theorem ff_ne_SUSPENDED_DUE_REMINDER' {Z : State} {a_TERMINATION : Addr} {a_TERMINATED : Addr} {a_LIMIT_WARNING : Addr} {a_SUSPEND_WARNING : Addr} {a_TERMINATE_WARNING : Addr} {a_TERMINATE_WARNING' : Addr} {a_TERMINATED' : Addr} {a_LIMITATION : Addr} {a_LIMITED : Addr} {a_SUSPENSION : Addr} {a_SUSPENDED : Addr} {a_DUE_REMINDER : Addr} {a_DUE_REMINDER' : Addr} {a_SUSPEND_WARNING' : Addr} {a_SUSPENDED' : Addr} {a_OVERDUE_REMINDER : Addr} {a_OVERDUE_REMINDER' : Addr} {a_LATE_FEE : Addr} {a_LIMIT_WARNING' : Addr} {a_LIMITED' : Addr} {a_TERMINATION_label : Addr} {a_LIMITATION_label : Addr} {a_SUSPENSION_label : Addr} (FF : Facts Z a_TERMINATION a_TERMINATED a_LIMIT_WARNING a_SUSPEND_WARNING a_TERMINATE_WARNING a_TERMINATE_WARNING' a_TERMINATED' a_LIMITATION a_LIMITED a_SUSPENSION a_SUSPENDED a_DUE_REMINDER a_DUE_REMINDER' a_SUSPEND_WARNING' a_SUSPENDED' a_OVERDUE_REMINDER a_OVERDUE_REMINDER' a_LATE_FEE a_LIMIT_WARNING' a_LIMITED' a_TERMINATION_label a_LIMITATION_label a_SUSPENSION_label) : a_SUSPENDED ≠ a_DUE_REMINDER' := FF.2.2.2.2.2.2.2.2.2.2.2.2.2.2.2.2.2.2.2.2.2.2.2.2.2.2.2.2.2.2.2.2.2.2.2.2.2.2.2.2.2.2.2.2.2.2.2.2.2.2.2.2.2.2.2.2.2.2.2.2.2.2.2.2.2.2.2.2.2.2.2.2.2.2.2.2.2.2.2.2.2.2.2.2.2.2.2.2.2.2.2.2.2.2.2.2.2.2.2.2.2.2.2.2.2.2.2.2.2.2.2.2.1
theorem ff_ne_SUSPENDED_OVERDUE_REMINDER' {Z : State} {a_TERMINATION : Addr} {a_TERMINATED : Addr} {a_LIMIT_WARNING : Addr} {a_SUSPEND_WARNING : Addr} {a_TERMINATE_WARNING : Addr} {a_TERMINATE_WARNING' : Addr} {a_TERMINATED' : Addr} {a_LIMITATION : Addr} {a_LIMITED : Addr} {a_SUSPENSION : Addr} {a_SUSPENDED : Addr} {a_DUE_REMINDER : Addr} {a_DUE_REMINDER' : Addr} {a_SUSPEND_WARNING' : Addr} {a_SUSPENDED' : Addr} {a_OVERDUE_REMINDER : Addr} {a_OVERDUE_REMINDER' : Addr} {a_LATE_FEE : Addr} {a_LIMIT_WARNING' : Addr} {a_LIMITED' : Addr} {a_TERMINATION_label : Addr} {a_LIMITATION_label : Addr} {a_SUSPENSION_label : Addr} (FF : Facts Z a_TERMINATION a_TERMINATED a_LIMIT_WARNING a_SUSPEND_WARNING a_TERMINATE_WARNING a_TERMINATE_WARNING' a_TERMINATED' a_LIMITATION a_LIMITED a_SUSPENSION a_SUSPENDED a_DUE_REMINDER a_DUE_REMINDER' a_SUSPEND_WARNING' a_SUSPENDED' a_OVERDUE_REMINDER a_OVERDUE_REMINDER' a_LATE_FEE a_LIMIT_WARNING' a_LIMITED' a_TERMINATION_label a_LIMITATION_label a_SUSPENSION_label) : a_SUSPENDED ≠ a_OVERDUE_REMINDER' := FF.2.2.2.2.2.2.2.2.2.2.2.2.2.2.2.2.2.2.2.2.2.2.2.2.2.2.2.2.2.2.2.2.2.2.2.2.2.2.2.2.2.2.2.2.2.2.2.2.2.2.2.2.2.2.2.2.2.2.2.2.2.2.2.2.2.2.2.2.2.2.2.2.2.2.2.2.2.2.2.2.2.2.2.2.2.2.2.2.2.2.2.2.2.2.2.2.2.2.2.2.2.2.2.2.2.2.2.2.2.2.2.2.2.1
theorem ff_ne_DUE_REMINDER'_OVERDUE_REMINDER' {Z : State} {a_TERMINATION : Addr} {a_TERMINATED : Addr} {a_LIMIT_WARNING : Addr} {a_SUSPEND_WARNING : Addr} {a_TERMINATE_WARNING : Addr} {a_TERMINATE_WARNING' : Addr} {a_TERMINATED' : Addr} {a_LIMITATION : Addr} {a_LIMITED : Addr} {a_SUSPENSION : Addr} {a_SUSPENDED : Addr} {a_DUE_REMINDER : Addr} {a_DUE_REMINDER' : Addr} {a_SUSPEND_WARNING' : Addr} {a_SUSPENDED' : Addr} {a_OVERDUE_REMINDER : Addr} {a_OVERDUE_REMINDER' : Addr} {a_LATE_FEE : Addr} {a_LIMIT_WARNING' : Addr} {a_LIMITED' : Addr} {a_TERMINATION_label : Addr} {a_LIMITATION_label : Addr} {a_SUSPENSION_label : Addr} (FF : Facts Z a_TERMINATION a_TERMINATED a_LIMIT_WARNING a_SUSPEND_WARNING a_TERMINATE_WARNING a_TERMINATE_WARNING' a_TERMINATED' a_LIMITATION a_LIMITED a_SUSPENSION a_SUSPENDED a_DUE_REMINDER a_DUE_REMINDER' a_SUSPEND_WARNING' a_SUSPENDED' a_OVERDUE_REMINDER a_OVERDUE_REMINDER' a_LATE_FEE a_LIMIT_WARNING' a_LIMITED' a_TERMINATION_label a_LIMITATION_label a_SUSPENSION_label) : a_DUE_REMINDER' ≠ a_OVERDUE_REMINDER' := FF.2.2.2.2.2.2.2.2.2.2.2.2.2.2.2.2.2.2.2.2.2.2.2.2.2.2.2.2.2.2.2.2.2.2.2.2.2.2.2.2.2.2.2.2.2.2.2.2.2.2.2.2.2.2.2.2.2.2.2.2.2.2.2.2.2.2.2.2.2.2.2.2.2.2.2.2.2.2.2.2.2.2.2.2.2.2.2.2.2.2.2.2.2.2.2.2.2.2.2.2.2.2.2.2.2.2.2.2.2.2.2.2.2.2
theorem pn_0 : plainName "com/example/careful_invoicing/carefulinvoicing/CollectionStepIsWarningPinLaw" = true := by first | (simp [plainName, overriddenIn]; done) | decide +kernel
theorem ef_0 (m : MethodId) (x0 : Int32) : entryFrame m #[(.int x0)] maxLocals = mkF m 0 #[.val (.int x0), .unset, .unset, .unset, .unset, .unset, .unset, .unset] [] := by first | (simp [entryFrame, mkF, argsToLocals, Value.category, maxLocals]; done) | rfl
theorem d1_0 : decode method_2_code 0 = .ok (.iload_n 0, 1) := by decide +kernel
theorem d1_1 : decode method_2_code 1 = .ok (.ifCond .ne 7, 3) := by decide +kernel
theorem d1_4 : decode method_2_code 4 = .ok (.getstatic 7, 3) := by decide +kernel
theorem d1_7 : decode method_2_code 7 = .ok (.areturn, 1) := by decide +kernel
theorem d1_8 : decode method_2_code 8 = .ok (.iload_n 0, 1) := by decide +kernel
theorem d1_9 : decode method_2_code 9 = .ok (.iconst 1, 1) := by decide +kernel
theorem d1_10 : decode method_2_code 10 = .ok (.if_icmp .ne 7, 3) := by decide +kernel
theorem d1_13 : decode method_2_code 13 = .ok (.getstatic 13, 3) := by decide +kernel
theorem d1_16 : decode method_2_code 16 = .ok (.areturn, 1) := by decide +kernel
theorem d1_17 : decode method_2_code 17 = .ok (.iload_n 0, 1) := by decide +kernel
theorem d1_18 : decode method_2_code 18 = .ok (.iconst 2, 1) := by decide +kernel
theorem d1_19 : decode method_2_code 19 = .ok (.if_icmp .ne 7, 3) := by decide +kernel
theorem d1_22 : decode method_2_code 22 = .ok (.getstatic 16, 3) := by decide +kernel
theorem d1_25 : decode method_2_code 25 = .ok (.areturn, 1) := by decide +kernel
theorem d1_26 : decode method_2_code 26 = .ok (.iload_n 0, 1) := by decide +kernel
theorem d1_27 : decode method_2_code 27 = .ok (.iconst 3, 1) := by decide +kernel
theorem d1_28 : decode method_2_code 28 = .ok (.if_icmp .ne 7, 3) := by decide +kernel
theorem d1_31 : decode method_2_code 31 = .ok (.getstatic 19, 3) := by decide +kernel
theorem d1_34 : decode method_2_code 34 = .ok (.areturn, 1) := by decide +kernel
theorem d1_35 : decode method_2_code 35 = .ok (.iload_n 0, 1) := by decide +kernel
theorem d1_36 : decode method_2_code 36 = .ok (.iconst 4, 1) := by decide +kernel
theorem d1_37 : decode method_2_code 37 = .ok (.if_icmp .ne 7, 3) := by decide +kernel
theorem d1_40 : decode method_2_code 40 = .ok (.getstatic 22, 3) := by decide +kernel
theorem d1_43 : decode method_2_code 43 = .ok (.areturn, 1) := by decide +kernel
theorem d1_44 : decode method_2_code 44 = .ok (.iload_n 0, 1) := by decide +kernel
theorem d1_45 : decode method_2_code 45 = .ok (.iconst 5, 1) := by decide +kernel
theorem d1_46 : decode method_2_code 46 = .ok (.if_icmp .ne 7, 3) := by decide +kernel
theorem d1_49 : decode method_2_code 49 = .ok (.getstatic 25, 3) := by decide +kernel
theorem d1_52 : decode method_2_code 52 = .ok (.areturn, 1) := by decide +kernel
theorem d1_53 : decode method_2_code 53 = .ok (.iload_n 0, 1) := by decide +kernel
theorem d1_54 : decode method_2_code 54 = .ok (.bipush 6, 2) := by decide +kernel
theorem d1_56 : decode method_2_code 56 = .ok (.if_icmp .ne 7, 3) := by decide +kernel
theorem d1_59 : decode method_2_code 59 = .ok (.getstatic 28, 3) := by decide +kernel
theorem d1_62 : decode method_2_code 62 = .ok (.areturn, 1) := by decide +kernel
theorem d1_63 : decode method_2_code 63 = .ok (.iload_n 0, 1) := by decide +kernel
theorem d1_64 : decode method_2_code 64 = .ok (.bipush 7, 2) := by decide +kernel
theorem d1_66 : decode method_2_code 66 = .ok (.if_icmp .ne 7, 3) := by decide +kernel
theorem d1_69 : decode method_2_code 69 = .ok (.getstatic 31, 3) := by decide +kernel
theorem d1_72 : decode method_2_code 72 = .ok (.areturn, 1) := by decide +kernel
theorem d1_73 : decode method_2_code 73 = .ok (.getstatic 34, 3) := by decide +kernel
theorem d1_76 : decode method_2_code 76 = .ok (.areturn, 1) := by decide +kernel
theorem ef_1 (m : MethodId) (x0 : Int32) : entryFrame m #[(.int x0)] 1 = mkF m 0 #[.val (.int x0)] [] := by first | (simp [entryFrame, mkF, argsToLocals, Value.category]; done) | rfl
set_option maxRecDepth 65536 in
set_option maxHeartbeats 40000000 in
theorem sp1_1 (l : Launch) (Z : State) (a0 : Array Value) (hw : ∀ d ∈ tables_1, d.before a0 Z = true) (a_TERMINATION : Addr) (a_TERMINATED : Addr) (a_LIMIT_WARNING : Addr) (a_SUSPEND_WARNING : Addr) (a_TERMINATE_WARNING : Addr) (a_TERMINATE_WARNING' : Addr) (a_TERMINATED' : Addr) (a_LIMITATION : Addr) (a_LIMITED : Addr) (a_SUSPENSION : Addr) (a_SUSPENDED : Addr) (a_DUE_REMINDER : Addr) (a_DUE_REMINDER' : Addr) (a_SUSPEND_WARNING' : Addr) (a_SUSPENDED' : Addr) (a_OVERDUE_REMINDER : Addr) (a_OVERDUE_REMINDER' : Addr) (a_LATE_FEE : Addr) (a_LIMIT_WARNING' : Addr) (a_LIMITED' : Addr) (a_TERMINATION_label : Addr) (a_LIMITATION_label : Addr) (a_SUSPENSION_label : Addr)  (h0 : Heap) (O0 : Old Z Z.heap.size h0) (FF : Facts Z a_TERMINATION a_TERMINATED a_LIMIT_WARNING a_SUSPEND_WARNING a_TERMINATE_WARNING a_TERMINATE_WARNING' a_TERMINATED' a_LIMITATION a_LIMITED a_SUSPENSION a_SUSPENDED a_DUE_REMINDER a_DUE_REMINDER' a_SUSPEND_WARNING' a_SUSPENDED' a_OVERDUE_REMINDER a_OVERDUE_REMINDER' a_LATE_FEE a_LIMIT_WARNING' a_LIMITED' a_TERMINATION_label a_LIMITATION_label a_SUSPENSION_label) : Pur l Z (⟨"com/example/careful_invoicing/carefulinvoicing/CollectionStepIsWarningPinLaw", "pick", "(I)Lcom/example/careful_invoicing/carefulinvoicing/CollectionStep;"⟩ : MethodName) method_2_code 1 (some (.object "com/example/careful_invoicing/carefulinvoicing/CollectionStep")) 0 0 #[(.int (0 : Int32))] h0 (some (.ref a_TERMINATION)) := by
  refine Ctr.of (plainFor_of_name pn_0) ?_
  have wd : ∀ {d : Jvm.Cond} (i : Nat), tables_1[i]? = some d → d.before a0 Z = true := fun i q => hw _ (List.mem_of_getElem? q)
  intro p e s m below meth c s₁ hx hby hml hown hnm hret hlk hZ X0 e0
  refine Go.cast (ef_1 m (0 : Int32)) ?_
  show Go p e below _ s₁ (mkF m 0 #[.val (.int (0 : Int32))] [])
  refine Go.iloadN X0 hx (hb hby d1_0) rfl rfl  ?_
  refine Go.ifNo X0 hx (hb hby d1_1) rfl ((if0 _ _).trans (teq (by decide : (0 : Int32) = (0 : Int32))).2) ?_
  refine Go.getS X0 hx hZ hown (host := "") (Or.inl (wd 5 rfl)) Via.refl e0 ((ff_S_TERMINATION FF).ext O0.2) (hb hby d1_4) rfl ?_
  intro T1 X1 e1
  exact Go.retA X1 hx hret hlk rfl rfl (hb hby d1_7) rfl ⟨rfl, rfl, e1⟩ (Nat.le_of_ble_eq_true rfl) (Nat.le_of_ble_eq_true rfl)
theorem d2_0 : decode prog_3_method_9_code 0 = .ok (.aload_n 0, 1) := by decide +kernel
theorem d2_1 : decode prog_3_method_9_code 1 = .ok (.getfield 69, 3) := by decide +kernel
theorem d2_4 : decode prog_3_method_9_code 4 = .ok (.ifnull 7, 3) := by decide +kernel
theorem d2_7 : decode prog_3_method_9_code 7 = .ok (.iconst 1, 1) := by decide +kernel
theorem d2_8 : decode prog_3_method_9_code 8 = .ok (.goto 4, 3) := by decide +kernel
theorem d2_11 : decode prog_3_method_9_code 11 = .ok (.iconst 0, 1) := by decide +kernel
theorem d2_12 : decode prog_3_method_9_code 12 = .ok (.ireturn, 1) := by decide +kernel
theorem pn_2 : plainName "com/example/careful_invoicing/carefulinvoicing/CollectionStep" = true := by first | (simp [plainName, overriddenIn]; done) | decide +kernel
theorem ef_2 (m : MethodId) (x0 : Addr) : entryFrame m #[(.ref x0)] 1 = mkF m 0 #[.val (.ref x0)] [] := by first | (simp [entryFrame, mkF, argsToLocals, Value.category]; done) | rfl
set_option maxRecDepth 65536 in
set_option maxHeartbeats 40000000 in
theorem sp2_2 (l : Launch) (Z : State) (a0 : Array Value) (hw : ∀ d ∈ tables_1, d.before a0 Z = true) (a_TERMINATION : Addr) (a_TERMINATED : Addr) (a_LIMIT_WARNING : Addr) (a_SUSPEND_WARNING : Addr) (a_TERMINATE_WARNING : Addr) (a_TERMINATE_WARNING' : Addr) (a_TERMINATED' : Addr) (a_LIMITATION : Addr) (a_LIMITED : Addr) (a_SUSPENSION : Addr) (a_SUSPENDED : Addr) (a_DUE_REMINDER : Addr) (a_DUE_REMINDER' : Addr) (a_SUSPEND_WARNING' : Addr) (a_SUSPENDED' : Addr) (a_OVERDUE_REMINDER : Addr) (a_OVERDUE_REMINDER' : Addr) (a_LATE_FEE : Addr) (a_LIMIT_WARNING' : Addr) (a_LIMITED' : Addr) (a_TERMINATION_label : Addr) (a_LIMITATION_label : Addr) (a_SUSPENSION_label : Addr)  (h0 : Heap) (O0 : Old Z Z.heap.size h0) (FF : Facts Z a_TERMINATION a_TERMINATED a_LIMIT_WARNING a_SUSPEND_WARNING a_TERMINATE_WARNING a_TERMINATE_WARNING' a_TERMINATED' a_LIMITATION a_LIMITED a_SUSPENSION a_SUSPENDED a_DUE_REMINDER a_DUE_REMINDER' a_SUSPEND_WARNING' a_SUSPENDED' a_OVERDUE_REMINDER a_OVERDUE_REMINDER' a_LATE_FEE a_LIMIT_WARNING' a_LIMITED' a_TERMINATION_label a_LIMITATION_label a_SUSPENSION_label) : Pur l Z (⟨"com/example/careful_invoicing/carefulinvoicing/CollectionStep", "isWarning", "()Z"⟩ : MethodName) prog_3_method_9_code 1 (some .boolean) 0 0 #[(.ref a_TERMINATION)] h0 (some (.int (0 : Int32))) := by
  refine Ctr.of (plainFor_of_name pn_2) ?_
  have wd : ∀ {d : Jvm.Cond} (i : Nat), tables_1[i]? = some d → d.before a0 Z = true := fun i q => hw _ (List.mem_of_getElem? q)
  intro p e s m below meth c s₁ hx hby hml hown hnm hret hlk hZ X0 e0
  refine Go.cast (ef_2 m a_TERMINATION) ?_
  show Go p e below _ s₁ (mkF m 0 #[.val (.ref a_TERMINATION)] [])
  refine Go.aloadN X0 hx (hb hby d2_0) rfl rfl rfl ?_
  refine Go.getF X0 hx hZ hown (host := "") (Or.inl (wd 13 rfl)) Via.refl e0 ((ff_F_TERMINATION_warned FF).ext O0.2) (hb hby d2_1) rfl ?_
  intro T1 X1 e1
  refine Go.ifnullYes X1 hx (hb hby d2_4) rfl 11 (by decide) (by decide) ?_
  refine Go.iconst X1 hx (hb hby d2_11) rfl (0 : Int32) rfl ?_
  exact Go.retZ X1 hx (z' := (0 : Int32)) hret hlk (hb hby d2_12) rfl (by decide) ⟨rfl, rfl, e1⟩ (Nat.le_of_ble_eq_true rfl) (Nat.le_of_ble_eq_true rfl)
theorem d3_0 : decode prog_3_method_7_code 0 = .ok (.aload_n 0, 1) := by decide +kernel
theorem d3_1 : decode prog_3_method_7_code 1 = .ok (.getfield 50, 3) := by decide +kernel
theorem d3_4 : decode prog_3_method_7_code 4 = .ok (.areturn, 1) := by decide +kernel
theorem ef_3 (m : MethodId) (x0 : Addr) : entryFrame m #[(.ref x0)] 1 = mkF m 0 #[.val (.ref x0)] [] := by first | (simp [entryFrame, mkF, argsToLocals, Value.category]; done) | rfl
set_option maxRecDepth 65536 in
set_option maxHeartbeats 40000000 in
theorem sp3_3 (l : Launch) (Z : State) (a0 : Array Value) (hw : ∀ d ∈ tables_1, d.before a0 Z = true) (a_TERMINATION : Addr) (a_TERMINATED : Addr) (a_LIMIT_WARNING : Addr) (a_SUSPEND_WARNING : Addr) (a_TERMINATE_WARNING : Addr) (a_TERMINATE_WARNING' : Addr) (a_TERMINATED' : Addr) (a_LIMITATION : Addr) (a_LIMITED : Addr) (a_SUSPENSION : Addr) (a_SUSPENDED : Addr) (a_DUE_REMINDER : Addr) (a_DUE_REMINDER' : Addr) (a_SUSPEND_WARNING' : Addr) (a_SUSPENDED' : Addr) (a_OVERDUE_REMINDER : Addr) (a_OVERDUE_REMINDER' : Addr) (a_LATE_FEE : Addr) (a_LIMIT_WARNING' : Addr) (a_LIMITED' : Addr) (a_TERMINATION_label : Addr) (a_LIMITATION_label : Addr) (a_SUSPENSION_label : Addr)  (h0 : Heap) (O0 : Old Z Z.heap.size h0) (FF : Facts Z a_TERMINATION a_TERMINATED a_LIMIT_WARNING a_SUSPEND_WARNING a_TERMINATE_WARNING a_TERMINATE_WARNING' a_TERMINATED' a_LIMITATION a_LIMITED a_SUSPENSION a_SUSPENDED a_DUE_REMINDER a_DUE_REMINDER' a_SUSPEND_WARNING' a_SUSPENDED' a_OVERDUE_REMINDER a_OVERDUE_REMINDER' a_LATE_FEE a_LIMIT_WARNING' a_LIMITED' a_TERMINATION_label a_LIMITATION_label a_SUSPENSION_label) : Pur l Z (⟨"com/example/careful_invoicing/carefulinvoicing/CollectionStep", "notice", "()Lcom/example/careful_invoicing/carefulinvoicing/NoticeKind;"⟩ : MethodName) prog_3_method_7_code 1 (some (.object "com/example/careful_invoicing/carefulinvoicing/NoticeKind")) 0 0 #[(.ref a_TERMINATION)] h0 (some (.ref a_TERMINATED)) := by
  refine Ctr.of (plainFor_of_name pn_2) ?_
  have wd : ∀ {d : Jvm.Cond} (i : Nat), tables_1[i]? = some d → d.before a0 Z = true := fun i q => hw _ (List.mem_of_getElem? q)
  intro p e s m below meth c s₁ hx hby hml hown hnm hret hlk hZ X0 e0
  refine Go.cast (ef_3 m a_TERMINATION) ?_
  show Go p e below _ s₁ (mkF m 0 #[.val (.ref a_TERMINATION)] [])
  refine Go.aloadN X0 hx (hb hby d3_0) rfl rfl rfl ?_
  refine Go.getF X0 hx hZ hown (host := "") (Or.inl (wd 20 rfl)) Via.refl e0 ((ff_F_TERMINATION_notice FF).ext O0.2) (hb hby d3_1) rfl ?_
  intro T1 X1 e1
  exact Go.retA X1 hx hret hlk rfl rfl (hb hby d3_4) rfl ⟨rfl, rfl, e1⟩ (Nat.le_of_ble_eq_true rfl) (Nat.le_of_ble_eq_true rfl)
set_option maxRecDepth 65536 in
set_option maxHeartbeats 40000000 in
theorem sp1_4 (l : Launch) (Z : State) (a0 : Array Value) (hw : ∀ d ∈ tables_1, d.before a0 Z = true) (a_TERMINATION : Addr) (a_TERMINATED : Addr) (a_LIMIT_WARNING : Addr) (a_SUSPEND_WARNING : Addr) (a_TERMINATE_WARNING : Addr) (a_TERMINATE_WARNING' : Addr) (a_TERMINATED' : Addr) (a_LIMITATION : Addr) (a_LIMITED : Addr) (a_SUSPENSION : Addr) (a_SUSPENDED : Addr) (a_DUE_REMINDER : Addr) (a_DUE_REMINDER' : Addr) (a_SUSPEND_WARNING' : Addr) (a_SUSPENDED' : Addr) (a_OVERDUE_REMINDER : Addr) (a_OVERDUE_REMINDER' : Addr) (a_LATE_FEE : Addr) (a_LIMIT_WARNING' : Addr) (a_LIMITED' : Addr) (a_TERMINATION_label : Addr) (a_LIMITATION_label : Addr) (a_SUSPENSION_label : Addr)  (h0 : Heap) (O0 : Old Z Z.heap.size h0) (FF : Facts Z a_TERMINATION a_TERMINATED a_LIMIT_WARNING a_SUSPEND_WARNING a_TERMINATE_WARNING a_TERMINATE_WARNING' a_TERMINATED' a_LIMITATION a_LIMITED a_SUSPENSION a_SUSPENDED a_DUE_REMINDER a_DUE_REMINDER' a_SUSPEND_WARNING' a_SUSPENDED' a_OVERDUE_REMINDER a_OVERDUE_REMINDER' a_LATE_FEE a_LIMIT_WARNING' a_LIMITED' a_TERMINATION_label a_LIMITATION_label a_SUSPENSION_label) : Pur l Z (⟨"com/example/careful_invoicing/carefulinvoicing/CollectionStepIsWarningPinLaw", "pick", "(I)Lcom/example/careful_invoicing/carefulinvoicing/CollectionStep;"⟩ : MethodName) method_2_code 1 (some (.object "com/example/careful_invoicing/carefulinvoicing/CollectionStep")) 0 0 #[(.int (1 : Int32))] h0 (some (.ref a_SUSPENSION)) := by
  refine Ctr.of (plainFor_of_name pn_0) ?_
  have wd : ∀ {d : Jvm.Cond} (i : Nat), tables_1[i]? = some d → d.before a0 Z = true := fun i q => hw _ (List.mem_of_getElem? q)
  intro p e s m below meth c s₁ hx hby hml hown hnm hret hlk hZ X0 e0
  refine Go.cast (ef_1 m (1 : Int32)) ?_
  show Go p e below _ s₁ (mkF m 0 #[.val (.int (1 : Int32))] [])
  refine Go.iloadN X0 hx (hb hby d1_0) rfl rfl  ?_
  refine Go.ifYes X0 hx (hb hby d1_1) rfl 8 ((if0 _ _).trans (feq (by decide : ¬ ((1 : Int32) = (0 : Int32)))).2) (by decide) (by decide) ?_
  refine Go.iloadN X0 hx (hb hby d1_8) rfl rfl  ?_
  refine Go.iconst X0 hx (hb hby d1_9) rfl (1 : Int32) rfl ?_
  refine Go.icmpNo X0 hx (hb hby d1_10) rfl (teq (by decide : (1 : Int32) = (1 : Int32))).2 ?_
  refine Go.getS X0 hx hZ hown (host := "") (Or.inl (wd 51 rfl)) Via.refl e0 ((ff_S_SUSPENSION FF).ext O0.2) (hb hby d1_13) rfl ?_
  intro T1 X1 e1
  exact Go.retA X1 hx hret hlk rfl rfl (hb hby d1_16) rfl ⟨rfl, rfl, e1⟩ (Nat.le_of_ble_eq_true rfl) (Nat.le_of_ble_eq_true rfl)
set_option maxRecDepth 65536 in
set_option maxHeartbeats 40000000 in
theorem sp2_5 (l : Launch) (Z : State) (a0 : Array Value) (hw : ∀ d ∈ tables_1, d.before a0 Z = true) (a_TERMINATION : Addr) (a_TERMINATED : Addr) (a_LIMIT_WARNING : Addr) (a_SUSPEND_WARNING : Addr) (a_TERMINATE_WARNING : Addr) (a_TERMINATE_WARNING' : Addr) (a_TERMINATED' : Addr) (a_LIMITATION : Addr) (a_LIMITED : Addr) (a_SUSPENSION : Addr) (a_SUSPENDED : Addr) (a_DUE_REMINDER : Addr) (a_DUE_REMINDER' : Addr) (a_SUSPEND_WARNING' : Addr) (a_SUSPENDED' : Addr) (a_OVERDUE_REMINDER : Addr) (a_OVERDUE_REMINDER' : Addr) (a_LATE_FEE : Addr) (a_LIMIT_WARNING' : Addr) (a_LIMITED' : Addr) (a_TERMINATION_label : Addr) (a_LIMITATION_label : Addr) (a_SUSPENSION_label : Addr)  (h0 : Heap) (O0 : Old Z Z.heap.size h0) (FF : Facts Z a_TERMINATION a_TERMINATED a_LIMIT_WARNING a_SUSPEND_WARNING a_TERMINATE_WARNING a_TERMINATE_WARNING' a_TERMINATED' a_LIMITATION a_LIMITED a_SUSPENSION a_SUSPENDED a_DUE_REMINDER a_DUE_REMINDER' a_SUSPEND_WARNING' a_SUSPENDED' a_OVERDUE_REMINDER a_OVERDUE_REMINDER' a_LATE_FEE a_LIMIT_WARNING' a_LIMITED' a_TERMINATION_label a_LIMITATION_label a_SUSPENSION_label) : Pur l Z (⟨"com/example/careful_invoicing/carefulinvoicing/CollectionStep", "isWarning", "()Z"⟩ : MethodName) prog_3_method_9_code 1 (some .boolean) 0 0 #[(.ref a_SUSPENSION)] h0 (some (.int (0 : Int32))) := by
  refine Ctr.of (plainFor_of_name pn_2) ?_
  have wd : ∀ {d : Jvm.Cond} (i : Nat), tables_1[i]? = some d → d.before a0 Z = true := fun i q => hw _ (List.mem_of_getElem? q)
  intro p e s m below meth c s₁ hx hby hml hown hnm hret hlk hZ X0 e0
  refine Go.cast (ef_2 m a_SUSPENSION) ?_
  show Go p e below _ s₁ (mkF m 0 #[.val (.ref a_SUSPENSION)] [])
  refine Go.aloadN X0 hx (hb hby d2_0) rfl rfl rfl ?_
  refine Go.getF X0 hx hZ hown (host := "") (Or.inl (wd 13 rfl)) Via.refl e0 ((ff_F_SUSPENSION_warned FF).ext O0.2) (hb hby d2_1) rfl ?_
  intro T1 X1 e1
  refine Go.ifnullYes X1 hx (hb hby d2_4) rfl 11 (by decide) (by decide) ?_
  refine Go.iconst X1 hx (hb hby d2_11) rfl (0 : Int32) rfl ?_
  exact Go.retZ X1 hx (z' := (0 : Int32)) hret hlk (hb hby d2_12) rfl (by decide) ⟨rfl, rfl, e1⟩ (Nat.le_of_ble_eq_true rfl) (Nat.le_of_ble_eq_true rfl)
set_option maxRecDepth 65536 in
set_option maxHeartbeats 40000000 in
theorem sp3_6 (l : Launch) (Z : State) (a0 : Array Value) (hw : ∀ d ∈ tables_1, d.before a0 Z = true) (a_TERMINATION : Addr) (a_TERMINATED : Addr) (a_LIMIT_WARNING : Addr) (a_SUSPEND_WARNING : Addr) (a_TERMINATE_WARNING : Addr) (a_TERMINATE_WARNING' : Addr) (a_TERMINATED' : Addr) (a_LIMITATION : Addr) (a_LIMITED : Addr) (a_SUSPENSION : Addr) (a_SUSPENDED : Addr) (a_DUE_REMINDER : Addr) (a_DUE_REMINDER' : Addr) (a_SUSPEND_WARNING' : Addr) (a_SUSPENDED' : Addr) (a_OVERDUE_REMINDER : Addr) (a_OVERDUE_REMINDER' : Addr) (a_LATE_FEE : Addr) (a_LIMIT_WARNING' : Addr) (a_LIMITED' : Addr) (a_TERMINATION_label : Addr) (a_LIMITATION_label : Addr) (a_SUSPENSION_label : Addr)  (h0 : Heap) (O0 : Old Z Z.heap.size h0) (FF : Facts Z a_TERMINATION a_TERMINATED a_LIMIT_WARNING a_SUSPEND_WARNING a_TERMINATE_WARNING a_TERMINATE_WARNING' a_TERMINATED' a_LIMITATION a_LIMITED a_SUSPENSION a_SUSPENDED a_DUE_REMINDER a_DUE_REMINDER' a_SUSPEND_WARNING' a_SUSPENDED' a_OVERDUE_REMINDER a_OVERDUE_REMINDER' a_LATE_FEE a_LIMIT_WARNING' a_LIMITED' a_TERMINATION_label a_LIMITATION_label a_SUSPENSION_label) : Pur l Z (⟨"com/example/careful_invoicing/carefulinvoicing/CollectionStep", "notice", "()Lcom/example/careful_invoicing/carefulinvoicing/NoticeKind;"⟩ : MethodName) prog_3_method_7_code 1 (some (.object "com/example/careful_invoicing/carefulinvoicing/NoticeKind")) 0 0 #[(.ref a_SUSPENSION)] h0 (some (.ref a_SUSPENDED)) := by
  refine Ctr.of (plainFor_of_name pn_2) ?_
  have wd : ∀ {d : Jvm.Cond} (i : Nat), tables_1[i]? = some d → d.before a0 Z = true := fun i q => hw _ (List.mem_of_getElem? q)
  intro p e s m below meth c s₁ hx hby hml hown hnm hret hlk hZ X0 e0
  refine Go.cast (ef_3 m a_SUSPENSION) ?_
  show Go p e below _ s₁ (mkF m 0 #[.val (.ref a_SUSPENSION)] [])
  refine Go.aloadN X0 hx (hb hby d3_0) rfl rfl rfl ?_
  refine Go.getF X0 hx hZ hown (host := "") (Or.inl (wd 20 rfl)) Via.refl e0 ((ff_F_SUSPENSION_notice FF).ext O0.2) (hb hby d3_1) rfl ?_
  intro T1 X1 e1
  exact Go.retA X1 hx hret hlk rfl rfl (hb hby d3_4) rfl ⟨rfl, rfl, e1⟩ (Nat.le_of_ble_eq_true rfl) (Nat.le_of_ble_eq_true rfl)
set_option maxRecDepth 65536 in
set_option maxHeartbeats 40000000 in
theorem sp1_7 (l : Launch) (Z : State) (a0 : Array Value) (hw : ∀ d ∈ tables_1, d.before a0 Z = true) (a_TERMINATION : Addr) (a_TERMINATED : Addr) (a_LIMIT_WARNING : Addr) (a_SUSPEND_WARNING : Addr) (a_TERMINATE_WARNING : Addr) (a_TERMINATE_WARNING' : Addr) (a_TERMINATED' : Addr) (a_LIMITATION : Addr) (a_LIMITED : Addr) (a_SUSPENSION : Addr) (a_SUSPENDED : Addr) (a_DUE_REMINDER : Addr) (a_DUE_REMINDER' : Addr) (a_SUSPEND_WARNING' : Addr) (a_SUSPENDED' : Addr) (a_OVERDUE_REMINDER : Addr) (a_OVERDUE_REMINDER' : Addr) (a_LATE_FEE : Addr) (a_LIMIT_WARNING' : Addr) (a_LIMITED' : Addr) (a_TERMINATION_label : Addr) (a_LIMITATION_label : Addr) (a_SUSPENSION_label : Addr)  (h0 : Heap) (O0 : Old Z Z.heap.size h0) (FF : Facts Z a_TERMINATION a_TERMINATED a_LIMIT_WARNING a_SUSPEND_WARNING a_TERMINATE_WARNING a_TERMINATE_WARNING' a_TERMINATED' a_LIMITATION a_LIMITED a_SUSPENSION a_SUSPENDED a_DUE_REMINDER a_DUE_REMINDER' a_SUSPEND_WARNING' a_SUSPENDED' a_OVERDUE_REMINDER a_OVERDUE_REMINDER' a_LATE_FEE a_LIMIT_WARNING' a_LIMITED' a_TERMINATION_label a_LIMITATION_label a_SUSPENSION_label) : Pur l Z (⟨"com/example/careful_invoicing/carefulinvoicing/CollectionStepIsWarningPinLaw", "pick", "(I)Lcom/example/careful_invoicing/carefulinvoicing/CollectionStep;"⟩ : MethodName) method_2_code 1 (some (.object "com/example/careful_invoicing/carefulinvoicing/CollectionStep")) 0 0 #[(.int (2 : Int32))] h0 (some (.ref a_LIMITATION)) := by
  refine Ctr.of (plainFor_of_name pn_0) ?_
  have wd : ∀ {d : Jvm.Cond} (i : Nat), tables_1[i]? = some d → d.before a0 Z = true := fun i q => hw _ (List.mem_of_getElem? q)
  intro p e s m below meth c s₁ hx hby hml hown hnm hret hlk hZ X0 e0
  refine Go.cast (ef_1 m (2 : Int32)) ?_
  show Go p e below _ s₁ (mkF m 0 #[.val (.int (2 : Int32))] [])
  refine Go.iloadN X0 hx (hb hby d1_0) rfl rfl  ?_
  refine Go.ifYes X0 hx (hb hby d1_1) rfl 8 ((if0 _ _).trans (feq (by decide : ¬ ((2 : Int32) = (0 : Int32)))).2) (by decide) (by decide) ?_
  refine Go.iloadN X0 hx (hb hby d1_8) rfl rfl  ?_
  refine Go.iconst X0 hx (hb hby d1_9) rfl (1 : Int32) rfl ?_
  refine Go.icmpYes X0 hx (hb hby d1_10) rfl 17 (feq (by decide : ¬ ((2 : Int32) = (1 : Int32)))).2 (by decide) (by decide) ?_
  refine Go.iloadN X0 hx (hb hby d1_17) rfl rfl  ?_
  refine Go.iconst X0 hx (hb hby d1_18) rfl (2 : Int32) rfl ?_
  refine Go.icmpNo X0 hx (hb hby d1_19) rfl (teq (by decide : (2 : Int32) = (2 : Int32))).2 ?_
  refine Go.getS X0 hx hZ hown (host := "") (Or.inl (wd 48 rfl)) Via.refl e0 ((ff_S_LIMITATION FF).ext O0.2) (hb hby d1_22) rfl ?_
  intro T1 X1 e1
  exact Go.retA X1 hx hret hlk rfl rfl (hb hby d1_25) rfl ⟨rfl, rfl, e1⟩ (Nat.le_of_ble_eq_true rfl) (Nat.le_of_ble_eq_true rfl)
set_option maxRecDepth 65536 in
set_option maxHeartbeats 40000000 in
theorem sp2_8 (l : Launch) (Z : State) (a0 : Array Value) (hw : ∀ d ∈ tables_1, d.before a0 Z = true) (a_TERMINATION : Addr) (a_TERMINATED : Addr) (a_LIMIT_WARNING : Addr) (a_SUSPEND_WARNING : Addr) (a_TERMINATE_WARNING : Addr) (a_TERMINATE_WARNING' : Addr) (a_TERMINATED' : Addr) (a_LIMITATION : Addr) (a_LIMITED : Addr) (a_SUSPENSION : Addr) (a_SUSPENDED : Addr) (a_DUE_REMINDER : Addr) (a_DUE_REMINDER' : Addr) (a_SUSPEND_WARNING' : Addr) (a_SUSPENDED' : Addr) (a_OVERDUE_REMINDER : Addr) (a_OVERDUE_REMINDER' : Addr) (a_LATE_FEE : Addr) (a_LIMIT_WARNING' : Addr) (a_LIMITED' : Addr) (a_TERMINATION_label : Addr) (a_LIMITATION_label : Addr) (a_SUSPENSION_label : Addr)  (h0 : Heap) (O0 : Old Z Z.heap.size h0) (FF : Facts Z a_TERMINATION a_TERMINATED a_LIMIT_WARNING a_SUSPEND_WARNING a_TERMINATE_WARNING a_TERMINATE_WARNING' a_TERMINATED' a_LIMITATION a_LIMITED a_SUSPENSION a_SUSPENDED a_DUE_REMINDER a_DUE_REMINDER' a_SUSPEND_WARNING' a_SUSPENDED' a_OVERDUE_REMINDER a_OVERDUE_REMINDER' a_LATE_FEE a_LIMIT_WARNING' a_LIMITED' a_TERMINATION_label a_LIMITATION_label a_SUSPENSION_label) : Pur l Z (⟨"com/example/careful_invoicing/carefulinvoicing/CollectionStep", "isWarning", "()Z"⟩ : MethodName) prog_3_method_9_code 1 (some .boolean) 0 0 #[(.ref a_LIMITATION)] h0 (some (.int (0 : Int32))) := by
  refine Ctr.of (plainFor_of_name pn_2) ?_
  have wd : ∀ {d : Jvm.Cond} (i : Nat), tables_1[i]? = some d → d.before a0 Z = true := fun i q => hw _ (List.mem_of_getElem? q)
  intro p e s m below meth c s₁ hx hby hml hown hnm hret hlk hZ X0 e0
  refine Go.cast (ef_2 m a_LIMITATION) ?_
  show Go p e below _ s₁ (mkF m 0 #[.val (.ref a_LIMITATION)] [])
  refine Go.aloadN X0 hx (hb hby d2_0) rfl rfl rfl ?_
  refine Go.getF X0 hx hZ hown (host := "") (Or.inl (wd 13 rfl)) Via.refl e0 ((ff_F_LIMITATION_warned FF).ext O0.2) (hb hby d2_1) rfl ?_
  intro T1 X1 e1
  refine Go.ifnullYes X1 hx (hb hby d2_4) rfl 11 (by decide) (by decide) ?_
  refine Go.iconst X1 hx (hb hby d2_11) rfl (0 : Int32) rfl ?_
  exact Go.retZ X1 hx (z' := (0 : Int32)) hret hlk (hb hby d2_12) rfl (by decide) ⟨rfl, rfl, e1⟩ (Nat.le_of_ble_eq_true rfl) (Nat.le_of_ble_eq_true rfl)
set_option maxRecDepth 65536 in
set_option maxHeartbeats 40000000 in
theorem sp3_9 (l : Launch) (Z : State) (a0 : Array Value) (hw : ∀ d ∈ tables_1, d.before a0 Z = true) (a_TERMINATION : Addr) (a_TERMINATED : Addr) (a_LIMIT_WARNING : Addr) (a_SUSPEND_WARNING : Addr) (a_TERMINATE_WARNING : Addr) (a_TERMINATE_WARNING' : Addr) (a_TERMINATED' : Addr) (a_LIMITATION : Addr) (a_LIMITED : Addr) (a_SUSPENSION : Addr) (a_SUSPENDED : Addr) (a_DUE_REMINDER : Addr) (a_DUE_REMINDER' : Addr) (a_SUSPEND_WARNING' : Addr) (a_SUSPENDED' : Addr) (a_OVERDUE_REMINDER : Addr) (a_OVERDUE_REMINDER' : Addr) (a_LATE_FEE : Addr) (a_LIMIT_WARNING' : Addr) (a_LIMITED' : Addr) (a_TERMINATION_label : Addr) (a_LIMITATION_label : Addr) (a_SUSPENSION_label : Addr)  (h0 : Heap) (O0 : Old Z Z.heap.size h0) (FF : Facts Z a_TERMINATION a_TERMINATED a_LIMIT_WARNING a_SUSPEND_WARNING a_TERMINATE_WARNING a_TERMINATE_WARNING' a_TERMINATED' a_LIMITATION a_LIMITED a_SUSPENSION a_SUSPENDED a_DUE_REMINDER a_DUE_REMINDER' a_SUSPEND_WARNING' a_SUSPENDED' a_OVERDUE_REMINDER a_OVERDUE_REMINDER' a_LATE_FEE a_LIMIT_WARNING' a_LIMITED' a_TERMINATION_label a_LIMITATION_label a_SUSPENSION_label) : Pur l Z (⟨"com/example/careful_invoicing/carefulinvoicing/CollectionStep", "notice", "()Lcom/example/careful_invoicing/carefulinvoicing/NoticeKind;"⟩ : MethodName) prog_3_method_7_code 1 (some (.object "com/example/careful_invoicing/carefulinvoicing/NoticeKind")) 0 0 #[(.ref a_LIMITATION)] h0 (some (.ref a_LIMITED)) := by
  refine Ctr.of (plainFor_of_name pn_2) ?_
  have wd : ∀ {d : Jvm.Cond} (i : Nat), tables_1[i]? = some d → d.before a0 Z = true := fun i q => hw _ (List.mem_of_getElem? q)
  intro p e s m below meth c s₁ hx hby hml hown hnm hret hlk hZ X0 e0
  refine Go.cast (ef_3 m a_LIMITATION) ?_
  show Go p e below _ s₁ (mkF m 0 #[.val (.ref a_LIMITATION)] [])
  refine Go.aloadN X0 hx (hb hby d3_0) rfl rfl rfl ?_
  refine Go.getF X0 hx hZ hown (host := "") (Or.inl (wd 20 rfl)) Via.refl e0 ((ff_F_LIMITATION_notice FF).ext O0.2) (hb hby d3_1) rfl ?_
  intro T1 X1 e1
  exact Go.retA X1 hx hret hlk rfl rfl (hb hby d3_4) rfl ⟨rfl, rfl, e1⟩ (Nat.le_of_ble_eq_true rfl) (Nat.le_of_ble_eq_true rfl)
set_option maxRecDepth 65536 in
set_option maxHeartbeats 40000000 in
theorem sp1_10 (l : Launch) (Z : State) (a0 : Array Value) (hw : ∀ d ∈ tables_1, d.before a0 Z = true) (a_TERMINATION : Addr) (a_TERMINATED : Addr) (a_LIMIT_WARNING : Addr) (a_SUSPEND_WARNING : Addr) (a_TERMINATE_WARNING : Addr) (a_TERMINATE_WARNING' : Addr) (a_TERMINATED' : Addr) (a_LIMITATION : Addr) (a_LIMITED : Addr) (a_SUSPENSION : Addr) (a_SUSPENDED : Addr) (a_DUE_REMINDER : Addr) (a_DUE_REMINDER' : Addr) (a_SUSPEND_WARNING' : Addr) (a_SUSPENDED' : Addr) (a_OVERDUE_REMINDER : Addr) (a_OVERDUE_REMINDER' : Addr) (a_LATE_FEE : Addr) (a_LIMIT_WARNING' : Addr) (a_LIMITED' : Addr) (a_TERMINATION_label : Addr) (a_LIMITATION_label : Addr) (a_SUSPENSION_label : Addr)  (h0 : Heap) (O0 : Old Z Z.heap.size h0) (FF : Facts Z a_TERMINATION a_TERMINATED a_LIMIT_WARNING a_SUSPEND_WARNING a_TERMINATE_WARNING a_TERMINATE_WARNING' a_TERMINATED' a_LIMITATION a_LIMITED a_SUSPENSION a_SUSPENDED a_DUE_REMINDER a_DUE_REMINDER' a_SUSPEND_WARNING' a_SUSPENDED' a_OVERDUE_REMINDER a_OVERDUE_REMINDER' a_LATE_FEE a_LIMIT_WARNING' a_LIMITED' a_TERMINATION_label a_LIMITATION_label a_SUSPENSION_label) : Pur l Z (⟨"com/example/careful_invoicing/carefulinvoicing/CollectionStepIsWarningPinLaw", "pick", "(I)Lcom/example/careful_invoicing/carefulinvoicing/CollectionStep;"⟩ : MethodName) method_2_code 1 (some (.object "com/example/careful_invoicing/carefulinvoicing/CollectionStep")) 0 0 #[(.int (3 : Int32))] h0 (some (.ref a_TERMINATE_WARNING')) := by
  refine Ctr.of (plainFor_of_name pn_0) ?_
  have wd : ∀ {d : Jvm.Cond} (i : Nat), tables_1[i]? = some d → d.before a0 Z = true := fun i q => hw _ (List.mem_of_getElem? q)
  intro p e s m below meth c s₁ hx hby hml hown hnm hret hlk hZ X0 e0
  refine Go.cast (ef_1 m (3 : Int32)) ?_
  show Go p e below _ s₁ (mkF m 0 #[.val (.int (3 : Int32))] [])
  refine Go.iloadN X0 hx (hb hby d1_0) rfl rfl  ?_
  refine Go.ifYes X0 hx (hb hby d1_1) rfl 8 ((if0 _ _).trans (feq (by decide : ¬ ((3 : Int32) = (0 : Int32)))).2) (by decide) (by decide) ?_
  refine Go.iloadN X0 hx (hb hby d1_8) rfl rfl  ?_
  refine Go.iconst X0 hx (hb hby d1_9) rfl (1 : Int32) rfl ?_
  refine Go.icmpYes X0 hx (hb hby d1_10) rfl 17 (feq (by decide : ¬ ((3 : Int32) = (1 : Int32)))).2 (by decide) (by decide) ?_
  refine Go.iloadN X0 hx (hb hby d1_17) rfl rfl  ?_
  refine Go.iconst X0 hx (hb hby d1_18) rfl (2 : Int32) rfl ?_
  refine Go.icmpYes X0 hx (hb hby d1_19) rfl 26 (feq (by decide : ¬ ((3 : Int32) = (2 : Int32)))).2 (by decide) (by decide) ?_
  refine Go.iloadN X0 hx (hb hby d1_26) rfl rfl  ?_
  refine Go.iconst X0 hx (hb hby d1_27) rfl (3 : Int32) rfl ?_
  refine Go.icmpNo X0 hx (hb hby d1_28) rfl (teq (by decide : (3 : Int32) = (3 : Int32))).2 ?_
  refine Go.getS X0 hx hZ hown (host := "") (Or.inl (wd 30 rfl)) Via.refl e0 ((ff_S_TERMINATE_WARNING' FF).ext O0.2) (hb hby d1_31) rfl ?_
  intro T1 X1 e1
  exact Go.retA X1 hx hret hlk rfl rfl (hb hby d1_34) rfl ⟨rfl, rfl, e1⟩ (Nat.le_of_ble_eq_true rfl) (Nat.le_of_ble_eq_true rfl)
set_option maxRecDepth 65536 in
set_option maxHeartbeats 40000000 in
theorem sp2_11 (l : Launch) (Z : State) (a0 : Array Value) (hw : ∀ d ∈ tables_1, d.before a0 Z = true) (a_TERMINATION : Addr) (a_TERMINATED : Addr) (a_LIMIT_WARNING : Addr) (a_SUSPEND_WARNING : Addr) (a_TERMINATE_WARNING : Addr) (a_TERMINATE_WARNING' : Addr) (a_TERMINATED' : Addr) (a_LIMITATION : Addr) (a_LIMITED : Addr) (a_SUSPENSION : Addr) (a_SUSPENDED : Addr) (a_DUE_REMINDER : Addr) (a_DUE_REMINDER' : Addr) (a_SUSPEND_WARNING' : Addr) (a_SUSPENDED' : Addr) (a_OVERDUE_REMINDER : Addr) (a_OVERDUE_REMINDER' : Addr) (a_LATE_FEE : Addr) (a_LIMIT_WARNING' : Addr) (a_LIMITED' : Addr) (a_TERMINATION_label : Addr) (a_LIMITATION_label : Addr) (a_SUSPENSION_label : Addr)  (h0 : Heap) (O0 : Old Z Z.heap.size h0) (FF : Facts Z a_TERMINATION a_TERMINATED a_LIMIT_WARNING a_SUSPEND_WARNING a_TERMINATE_WARNING a_TERMINATE_WARNING' a_TERMINATED' a_LIMITATION a_LIMITED a_SUSPENSION a_SUSPENDED a_DUE_REMINDER a_DUE_REMINDER' a_SUSPEND_WARNING' a_SUSPENDED' a_OVERDUE_REMINDER a_OVERDUE_REMINDER' a_LATE_FEE a_LIMIT_WARNING' a_LIMITED' a_TERMINATION_label a_LIMITATION_label a_SUSPENSION_label) : Pur l Z (⟨"com/example/careful_invoicing/carefulinvoicing/CollectionStep", "isWarning", "()Z"⟩ : MethodName) prog_3_method_9_code 1 (some .boolean) 0 0 #[(.ref a_TERMINATE_WARNING')] h0 (some (.int (1 : Int32))) := by
  refine Ctr.of (plainFor_of_name pn_2) ?_
  have wd : ∀ {d : Jvm.Cond} (i : Nat), tables_1[i]? = some d → d.before a0 Z = true := fun i q => hw _ (List.mem_of_getElem? q)
  intro p e s m below meth c s₁ hx hby hml hown hnm hret hlk hZ X0 e0
  refine Go.cast (ef_2 m a_TERMINATE_WARNING') ?_
  show Go p e below _ s₁ (mkF m 0 #[.val (.ref a_TERMINATE_WARNING')] [])
  refine Go.aloadN X0 hx (hb hby d2_0) rfl rfl rfl ?_
  refine Go.getF X0 hx hZ hown (host := "") (Or.inl (wd 13 rfl)) Via.refl e0 ((ff_F_TERMINATE_WARNING'_warned FF).ext O0.2) (hb hby d2_1) rfl ?_
  intro T1 X1 e1
  refine Go.ifnullNo X1 hx (hb hby d2_4) rfl ?_
  refine Go.iconst X1 hx (hb hby d2_7) rfl (1 : Int32) rfl ?_
  refine Go.goto X1 hx (hb hby d2_8) rfl 12 (by decide) (by decide) ?_
  exact Go.retZ X1 hx (z' := (1 : Int32)) hret hlk (hb hby d2_12) rfl (by decide) ⟨rfl, rfl, e1⟩ (Nat.le_of_ble_eq_true rfl) (Nat.le_of_ble_eq_true rfl)
set_option maxRecDepth 65536 in
set_option maxHeartbeats 40000000 in
theorem sp3_12 (l : Launch) (Z : State) (a0 : Array Value) (hw : ∀ d ∈ tables_1, d.before a0 Z = true) (a_TERMINATION : Addr) (a_TERMINATED : Addr) (a_LIMIT_WARNING : Addr) (a_SUSPEND_WARNING : Addr) (a_TERMINATE_WARNING : Addr) (a_TERMINATE_WARNING' : Addr) (a_TERMINATED' : Addr) (a_LIMITATION : Addr) (a_LIMITED : Addr) (a_SUSPENSION : Addr) (a_SUSPENDED : Addr) (a_DUE_REMINDER : Addr) (a_DUE_REMINDER' : Addr) (a_SUSPEND_WARNING' : Addr) (a_SUSPENDED' : Addr) (a_OVERDUE_REMINDER : Addr) (a_OVERDUE_REMINDER' : Addr) (a_LATE_FEE : Addr) (a_LIMIT_WARNING' : Addr) (a_LIMITED' : Addr) (a_TERMINATION_label : Addr) (a_LIMITATION_label : Addr) (a_SUSPENSION_label : Addr)  (h0 : Heap) (O0 : Old Z Z.heap.size h0) (FF : Facts Z a_TERMINATION a_TERMINATED a_LIMIT_WARNING a_SUSPEND_WARNING a_TERMINATE_WARNING a_TERMINATE_WARNING' a_TERMINATED' a_LIMITATION a_LIMITED a_SUSPENSION a_SUSPENDED a_DUE_REMINDER a_DUE_REMINDER' a_SUSPEND_WARNING' a_SUSPENDED' a_OVERDUE_REMINDER a_OVERDUE_REMINDER' a_LATE_FEE a_LIMIT_WARNING' a_LIMITED' a_TERMINATION_label a_LIMITATION_label a_SUSPENSION_label) : Pur l Z (⟨"com/example/careful_invoicing/carefulinvoicing/CollectionStep", "notice", "()Lcom/example/careful_invoicing/carefulinvoicing/NoticeKind;"⟩ : MethodName) prog_3_method_7_code 1 (some (.object "com/example/careful_invoicing/carefulinvoicing/NoticeKind")) 0 0 #[(.ref a_TERMINATE_WARNING')] h0 (some (.ref a_TERMINATE_WARNING)) := by
  refine Ctr.of (plainFor_of_name pn_2) ?_
  have wd : ∀ {d : Jvm.Cond} (i : Nat), tables_1[i]? = some d → d.before a0 Z = true := fun i q => hw _ (List.mem_of_getElem? q)
  intro p e s m below meth c s₁ hx hby hml hown hnm hret hlk hZ X0 e0
  refine Go.cast (ef_3 m a_TERMINATE_WARNING') ?_
  show Go p e below _ s₁ (mkF m 0 #[.val (.ref a_TERMINATE_WARNING')] [])
  refine Go.aloadN X0 hx (hb hby d3_0) rfl rfl rfl ?_
  refine Go.getF X0 hx hZ hown (host := "") (Or.inl (wd 20 rfl)) Via.refl e0 ((ff_F_TERMINATE_WARNING'_notice FF).ext O0.2) (hb hby d3_1) rfl ?_
  intro T1 X1 e1
  exact Go.retA X1 hx hret hlk rfl rfl (hb hby d3_4) rfl ⟨rfl, rfl, e1⟩ (Nat.le_of_ble_eq_true rfl) (Nat.le_of_ble_eq_true rfl)
theorem d4_0 : decode prog_3_method_8_code 0 = .ok (.aload_n 0, 1) := by decide +kernel
theorem d4_1 : decode prog_3_method_8_code 1 = .ok (.getfield 58, 3) := by decide +kernel
theorem d4_4 : decode prog_3_method_8_code 4 = .ok (.ifnull 7, 3) := by decide +kernel
theorem d4_7 : decode prog_3_method_8_code 7 = .ok (.iconst 1, 1) := by decide +kernel
theorem d4_8 : decode prog_3_method_8_code 8 = .ok (.goto 4, 3) := by decide +kernel
theorem d4_11 : decode prog_3_method_8_code 11 = .ok (.iconst 0, 1) := by decide +kernel
theorem d4_12 : decode prog_3_method_8_code 12 = .ok (.ireturn, 1) := by decide +kernel
theorem ef_4 (m : MethodId) (x0 : Addr) : entryFrame m #[(.ref x0)] 1 = mkF m 0 #[.val (.ref x0)] [] := by first | (simp [entryFrame, mkF, argsToLocals, Value.category]; done) | rfl
set_option maxRecDepth 65536 in
set_option maxHeartbeats 40000000 in
theorem sp4_13 (l : Launch) (Z : State) (a0 : Array Value) (hw : ∀ d ∈ tables_1, d.before a0 Z = true) (a_TERMINATION : Addr) (a_TERMINATED : Addr) (a_LIMIT_WARNING : Addr) (a_SUSPEND_WARNING : Addr) (a_TERMINATE_WARNING : Addr) (a_TERMINATE_WARNING' : Addr) (a_TERMINATED' : Addr) (a_LIMITATION : Addr) (a_LIMITED : Addr) (a_SUSPENSION : Addr) (a_SUSPENDED : Addr) (a_DUE_REMINDER : Addr) (a_DUE_REMINDER' : Addr) (a_SUSPEND_WARNING' : Addr) (a_SUSPENDED' : Addr) (a_OVERDUE_REMINDER : Addr) (a_OVERDUE_REMINDER' : Addr) (a_LATE_FEE : Addr) (a_LIMIT_WARNING' : Addr) (a_LIMITED' : Addr) (a_TERMINATION_label : Addr) (a_LIMITATION_label : Addr) (a_SUSPENSION_label : Addr)  (h0 : Heap) (O0 : Old Z Z.heap.size h0) (FF : Facts Z a_TERMINATION a_TERMINATED a_LIMIT_WARNING a_SUSPEND_WARNING a_TERMINATE_WARNING a_TERMINATE_WARNING' a_TERMINATED' a_LIMITATION a_LIMITED a_SUSPENSION a_SUSPENDED a_DUE_REMINDER a_DUE_REMINDER' a_SUSPEND_WARNING' a_SUSPENDED' a_OVERDUE_REMINDER a_OVERDUE_REMINDER' a_LATE_FEE a_LIMIT_WARNING' a_LIMITED' a_TERMINATION_label a_LIMITATION_label a_SUSPENSION_label) : Pur l Z (⟨"com/example/careful_invoicing/carefulinvoicing/CollectionStep", "isAction", "()Z"⟩ : MethodName) prog_3_method_8_code 1 (some .boolean) 0 0 #[(.ref a_TERMINATE_WARNING')] h0 (some (.int (0 : Int32))) := by
  refine Ctr.of (plainFor_of_name pn_2) ?_
  have wd : ∀ {d : Jvm.Cond} (i : Nat), tables_1[i]? = some d → d.before a0 Z = true := fun i q => hw _ (List.mem_of_getElem? q)
  intro p e s m below meth c s₁ hx hby hml hown hnm hret hlk hZ X0 e0
  refine Go.cast (ef_4 m a_TERMINATE_WARNING') ?_
  show Go p e below _ s₁ (mkF m 0 #[.val (.ref a_TERMINATE_WARNING')] [])
  refine Go.aloadN X0 hx (hb hby d4_0) rfl rfl rfl ?_
  refine Go.getF X0 hx hZ hown (host := "") (Or.inl (wd 37 rfl)) Via.refl e0 ((ff_F_TERMINATE_WARNING'_label FF).ext O0.2) (hb hby d4_1) rfl ?_
  intro T1 X1 e1
  refine Go.ifnullYes X1 hx (hb hby d4_4) rfl 11 (by decide) (by decide) ?_
  refine Go.iconst X1 hx (hb hby d4_11) rfl (0 : Int32) rfl ?_
  exact Go.retZ X1 hx (z' := (0 : Int32)) hret hlk (hb hby d4_12) rfl (by decide) ⟨rfl, rfl, e1⟩ (Nat.le_of_ble_eq_true rfl) (Nat.le_of_ble_eq_true rfl)
theorem d5_0 : decode prog_3_method_10_code 0 = .ok (.aload_n 0, 1) := by decide +kernel
theorem d5_1 : decode prog_3_method_10_code 1 = .ok (.getfield 54, 3) := by decide +kernel
theorem d5_4 : decode prog_3_method_10_code 4 = .ok (.areturn, 1) := by decide +kernel
theorem ef_5 (m : MethodId) (x0 : Addr) : entryFrame m #[(.ref x0)] 1 = mkF m 0 #[.val (.ref x0)] [] := by first | (simp [entryFrame, mkF, argsToLocals, Value.category]; done) | rfl
set_option maxRecDepth 65536 in
set_option maxHeartbeats 40000000 in
theorem sp5_14 (l : Launch) (Z : State) (a0 : Array Value) (hw : ∀ d ∈ tables_1, d.before a0 Z = true) (a_TERMINATION : Addr) (a_TERMINATED : Addr) (a_LIMIT_WARNING : Addr) (a_SUSPEND_WARNING : Addr) (a_TERMINATE_WARNING : Addr) (a_TERMINATE_WARNING' : Addr) (a_TERMINATED' : Addr) (a_LIMITATION : Addr) (a_LIMITED : Addr) (a_SUSPENSION : Addr) (a_SUSPENDED : Addr) (a_DUE_REMINDER : Addr) (a_DUE_REMINDER' : Addr) (a_SUSPEND_WARNING' : Addr) (a_SUSPENDED' : Addr) (a_OVERDUE_REMINDER : Addr) (a_OVERDUE_REMINDER' : Addr) (a_LATE_FEE : Addr) (a_LIMIT_WARNING' : Addr) (a_LIMITED' : Addr) (a_TERMINATION_label : Addr) (a_LIMITATION_label : Addr) (a_SUSPENSION_label : Addr)  (h0 : Heap) (O0 : Old Z Z.heap.size h0) (FF : Facts Z a_TERMINATION a_TERMINATED a_LIMIT_WARNING a_SUSPEND_WARNING a_TERMINATE_WARNING a_TERMINATE_WARNING' a_TERMINATED' a_LIMITATION a_LIMITED a_SUSPENSION a_SUSPENDED a_DUE_REMINDER a_DUE_REMINDER' a_SUSPEND_WARNING' a_SUSPENDED' a_OVERDUE_REMINDER a_OVERDUE_REMINDER' a_LATE_FEE a_LIMIT_WARNING' a_LIMITED' a_TERMINATION_label a_LIMITATION_label a_SUSPENSION_label) : Pur l Z (⟨"com/example/careful_invoicing/carefulinvoicing/CollectionStep", "status", "()Lcom/example/careful_invoicing/carefulinvoicing/CustomerStatus;"⟩ : MethodName) prog_3_method_10_code 1 (some (.object "com/example/careful_invoicing/carefulinvoicing/CustomerStatus")) 0 0 #[(.ref a_TERMINATE_WARNING')] h0 (some (.ref a_TERMINATED')) := by
  refine Ctr.of (plainFor_of_name pn_2) ?_
  have wd : ∀ {d : Jvm.Cond} (i : Nat), tables_1[i]? = some d → d.before a0 Z = true := fun i q => hw _ (List.mem_of_getElem? q)
  intro p e s m below meth c s₁ hx hby hml hown hnm hret hlk hZ X0 e0
  refine Go.cast (ef_5 m a_TERMINATE_WARNING') ?_
  show Go p e below _ s₁ (mkF m 0 #[.val (.ref a_TERMINATE_WARNING')] [])
  refine Go.aloadN X0 hx (hb hby d5_0) rfl rfl rfl ?_
  refine Go.getF X0 hx hZ hown (host := "") (Or.inl (wd 44 rfl)) Via.refl e0 ((ff_F_TERMINATE_WARNING'_status FF).ext O0.2) (hb hby d5_1) rfl ?_
  intro T1 X1 e1
  exact Go.retA X1 hx hret hlk rfl rfl (hb hby d5_4) rfl ⟨rfl, rfl, e1⟩ (Nat.le_of_ble_eq_true rfl) (Nat.le_of_ble_eq_true rfl)
set_option maxRecDepth 65536 in
set_option maxHeartbeats 40000000 in
theorem sp1_15 (l : Launch) (Z : State) (a0 : Array Value) (hw : ∀ d ∈ tables_1, d.before a0 Z = true) (a_TERMINATION : Addr) (a_TERMINATED : Addr) (a_LIMIT_WARNING : Addr) (a_SUSPEND_WARNING : Addr) (a_TERMINATE_WARNING : Addr) (a_TERMINATE_WARNING' : Addr) (a_TERMINATED' : Addr) (a_LIMITATION : Addr) (a_LIMITED : Addr) (a_SUSPENSION : Addr) (a_SUSPENDED : Addr) (a_DUE_REMINDER : Addr) (a_DUE_REMINDER' : Addr) (a_SUSPEND_WARNING' : Addr) (a_SUSPENDED' : Addr) (a_OVERDUE_REMINDER : Addr) (a_OVERDUE_REMINDER' : Addr) (a_LATE_FEE : Addr) (a_LIMIT_WARNING' : Addr) (a_LIMITED' : Addr) (a_TERMINATION_label : Addr) (a_LIMITATION_label : Addr) (a_SUSPENSION_label : Addr)  (h0 : Heap) (O0 : Old Z Z.heap.size h0) (FF : Facts Z a_TERMINATION a_TERMINATED a_LIMIT_WARNING a_SUSPEND_WARNING a_TERMINATE_WARNING a_TERMINATE_WARNING' a_TERMINATED' a_LIMITATION a_LIMITED a_SUSPENSION a_SUSPENDED a_DUE_REMINDER a_DUE_REMINDER' a_SUSPEND_WARNING' a_SUSPENDED' a_OVERDUE_REMINDER a_OVERDUE_REMINDER' a_LATE_FEE a_LIMIT_WARNING' a_LIMITED' a_TERMINATION_label a_LIMITATION_label a_SUSPENSION_label) : Pur l Z (⟨"com/example/careful_invoicing/carefulinvoicing/CollectionStepIsWarningPinLaw", "pick", "(I)Lcom/example/careful_invoicing/carefulinvoicing/CollectionStep;"⟩ : MethodName) method_2_code 1 (some (.object "com/example/careful_invoicing/carefulinvoicing/CollectionStep")) 0 0 #[(.int (4 : Int32))] h0 (some (.ref a_SUSPEND_WARNING')) := by
  refine Ctr.of (plainFor_of_name pn_0) ?_
  have wd : ∀ {d : Jvm.Cond} (i : Nat), tables_1[i]? = some d → d.before a0 Z = true := fun i q => hw _ (List.mem_of_getElem? q)
  intro p e s m below meth c s₁ hx hby hml hown hnm hret hlk hZ X0 e0
  refine Go.cast (ef_1 m (4 : Int32)) ?_
  show Go p e below _ s₁ (mkF m 0 #[.val (.int (4 : Int32))] [])
  refine Go.iloadN X0 hx (hb hby d1_0) rfl rfl  ?_
  refine Go.ifYes X0 hx (hb hby d1_1) rfl 8 ((if0 _ _).trans (feq (by decide : ¬ ((4 : Int32) = (0 : Int32)))).2) (by decide) (by decide) ?_
  refine Go.iloadN X0 hx (hb hby d1_8) rfl rfl  ?_
  refine Go.iconst X0 hx (hb hby d1_9) rfl (1 : Int32) rfl ?_
  refine Go.icmpYes X0 hx (hb hby d1_10) rfl 17 (feq (by decide : ¬ ((4 : Int32) = (1 : Int32)))).2 (by decide) (by decide) ?_
  refine Go.iloadN X0 hx (hb hby d1_17) rfl rfl  ?_
  refine Go.iconst X0 hx (hb hby d1_18) rfl (2 : Int32) rfl ?_
  refine Go.icmpYes X0 hx (hb hby d1_19) rfl 26 (feq (by decide : ¬ ((4 : Int32) = (2 : Int32)))).2 (by decide) (by decide) ?_
  refine Go.iloadN X0 hx (hb hby d1_26) rfl rfl  ?_
  refine Go.iconst X0 hx (hb hby d1_27) rfl (3 : Int32) rfl ?_
  refine Go.icmpYes X0 hx (hb hby d1_28) rfl 35 (feq (by decide : ¬ ((4 : Int32) = (3 : Int32)))).2 (by decide) (by decide) ?_
  refine Go.iloadN X0 hx (hb hby d1_35) rfl rfl  ?_
  refine Go.iconst X0 hx (hb hby d1_36) rfl (4 : Int32) rfl ?_
  refine Go.icmpNo X0 hx (hb hby d1_37) rfl (teq (by decide : (4 : Int32) = (4 : Int32))).2 ?_
  refine Go.getS X0 hx hZ hown (host := "") (Or.inl (wd 57 rfl)) Via.refl e0 ((ff_S_SUSPEND_WARNING' FF).ext O0.2) (hb hby d1_40) rfl ?_
  intro T1 X1 e1
  exact Go.retA X1 hx hret hlk rfl rfl (hb hby d1_43) rfl ⟨rfl, rfl, e1⟩ (Nat.le_of_ble_eq_true rfl) (Nat.le_of_ble_eq_true rfl)
set_option maxRecDepth 65536 in
set_option maxHeartbeats 40000000 in
theorem sp2_16 (l : Launch) (Z : State) (a0 : Array Value) (hw : ∀ d ∈ tables_1, d.before a0 Z = true) (a_TERMINATION : Addr) (a_TERMINATED : Addr) (a_LIMIT_WARNING : Addr) (a_SUSPEND_WARNING : Addr) (a_TERMINATE_WARNING : Addr) (a_TERMINATE_WARNING' : Addr) (a_TERMINATED' : Addr) (a_LIMITATION : Addr) (a_LIMITED : Addr) (a_SUSPENSION : Addr) (a_SUSPENDED : Addr) (a_DUE_REMINDER : Addr) (a_DUE_REMINDER' : Addr) (a_SUSPEND_WARNING' : Addr) (a_SUSPENDED' : Addr) (a_OVERDUE_REMINDER : Addr) (a_OVERDUE_REMINDER' : Addr) (a_LATE_FEE : Addr) (a_LIMIT_WARNING' : Addr) (a_LIMITED' : Addr) (a_TERMINATION_label : Addr) (a_LIMITATION_label : Addr) (a_SUSPENSION_label : Addr)  (h0 : Heap) (O0 : Old Z Z.heap.size h0) (FF : Facts Z a_TERMINATION a_TERMINATED a_LIMIT_WARNING a_SUSPEND_WARNING a_TERMINATE_WARNING a_TERMINATE_WARNING' a_TERMINATED' a_LIMITATION a_LIMITED a_SUSPENSION a_SUSPENDED a_DUE_REMINDER a_DUE_REMINDER' a_SUSPEND_WARNING' a_SUSPENDED' a_OVERDUE_REMINDER a_OVERDUE_REMINDER' a_LATE_FEE a_LIMIT_WARNING' a_LIMITED' a_TERMINATION_label a_LIMITATION_label a_SUSPENSION_label) : Pur l Z (⟨"com/example/careful_invoicing/carefulinvoicing/CollectionStep", "isWarning", "()Z"⟩ : MethodName) prog_3_method_9_code 1 (some .boolean) 0 0 #[(.ref a_SUSPEND_WARNING')] h0 (some (.int (1 : Int32))) := by
  refine Ctr.of (plainFor_of_name pn_2) ?_
  have wd : ∀ {d : Jvm.Cond} (i : Nat), tables_1[i]? = some d → d.before a0 Z = true := fun i q => hw _ (List.mem_of_getElem? q)
  intro p e s m below meth c s₁ hx hby hml hown hnm hret hlk hZ X0 e0
  refine Go.cast (ef_2 m a_SUSPEND_WARNING') ?_
  show Go p e below _ s₁ (mkF m 0 #[.val (.ref a_SUSPEND_WARNING')] [])
  refine Go.aloadN X0 hx (hb hby d2_0) rfl rfl rfl ?_
  refine Go.getF X0 hx hZ hown (host := "") (Or.inl (wd 13 rfl)) Via.refl e0 ((ff_F_SUSPEND_WARNING'_warned FF).ext O0.2) (hb hby d2_1) rfl ?_
  intro T1 X1 e1
  refine Go.ifnullNo X1 hx (hb hby d2_4) rfl ?_
  refine Go.iconst X1 hx (hb hby d2_7) rfl (1 : Int32) rfl ?_
  refine Go.goto X1 hx (hb hby d2_8) rfl 12 (by decide) (by decide) ?_
  exact Go.retZ X1 hx (z' := (1 : Int32)) hret hlk (hb hby d2_12) rfl (by decide) ⟨rfl, rfl, e1⟩ (Nat.le_of_ble_eq_true rfl) (Nat.le_of_ble_eq_true rfl)
set_option maxRecDepth 65536 in
set_option maxHeartbeats 40000000 in
theorem sp3_17 (l : Launch) (Z : State) (a0 : Array Value) (hw : ∀ d ∈ tables_1, d.before a0 Z = true) (a_TERMINATION : Addr) (a_TERMINATED : Addr) (a_LIMIT_WARNING : Addr) (a_SUSPEND_WARNING : Addr) (a_TERMINATE_WARNING : Addr) (a_TERMINATE_WARNING' : Addr) (a_TERMINATED' : Addr) (a_LIMITATION : Addr) (a_LIMITED : Addr) (a_SUSPENSION : Addr) (a_SUSPENDED : Addr) (a_DUE_REMINDER : Addr) (a_DUE_REMINDER' : Addr) (a_SUSPEND_WARNING' : Addr) (a_SUSPENDED' : Addr) (a_OVERDUE_REMINDER : Addr) (a_OVERDUE_REMINDER' : Addr) (a_LATE_FEE : Addr) (a_LIMIT_WARNING' : Addr) (a_LIMITED' : Addr) (a_TERMINATION_label : Addr) (a_LIMITATION_label : Addr) (a_SUSPENSION_label : Addr)  (h0 : Heap) (O0 : Old Z Z.heap.size h0) (FF : Facts Z a_TERMINATION a_TERMINATED a_LIMIT_WARNING a_SUSPEND_WARNING a_TERMINATE_WARNING a_TERMINATE_WARNING' a_TERMINATED' a_LIMITATION a_LIMITED a_SUSPENSION a_SUSPENDED a_DUE_REMINDER a_DUE_REMINDER' a_SUSPEND_WARNING' a_SUSPENDED' a_OVERDUE_REMINDER a_OVERDUE_REMINDER' a_LATE_FEE a_LIMIT_WARNING' a_LIMITED' a_TERMINATION_label a_LIMITATION_label a_SUSPENSION_label) : Pur l Z (⟨"com/example/careful_invoicing/carefulinvoicing/CollectionStep", "notice", "()Lcom/example/careful_invoicing/carefulinvoicing/NoticeKind;"⟩ : MethodName) prog_3_method_7_code 1 (some (.object "com/example/careful_invoicing/carefulinvoicing/NoticeKind")) 0 0 #[(.ref a_SUSPEND_WARNING')] h0 (some (.ref a_SUSPEND_WARNING)) := by
  refine Ctr.of (plainFor_of_name pn_2) ?_
  have wd : ∀ {d : Jvm.Cond} (i : Nat), tables_1[i]? = some d → d.before a0 Z = true := fun i q => hw _ (List.mem_of_getElem? q)
  intro p e s m below meth c s₁ hx hby hml hown hnm hret hlk hZ X0 e0
  refine Go.cast (ef_3 m a_SUSPEND_WARNING') ?_
  show Go p e below _ s₁ (mkF m 0 #[.val (.ref a_SUSPEND_WARNING')] [])
  refine Go.aloadN X0 hx (hb hby d3_0) rfl rfl rfl ?_
  refine Go.getF X0 hx hZ hown (host := "") (Or.inl (wd 20 rfl)) Via.refl e0 ((ff_F_SUSPEND_WARNING'_notice FF).ext O0.2) (hb hby d3_1) rfl ?_
  intro T1 X1 e1
  exact Go.retA X1 hx hret hlk rfl rfl (hb hby d3_4) rfl ⟨rfl, rfl, e1⟩ (Nat.le_of_ble_eq_true rfl) (Nat.le_of_ble_eq_true rfl)
set_option maxRecDepth 65536 in
set_option maxHeartbeats 40000000 in
theorem sp4_18 (l : Launch) (Z : State) (a0 : Array Value) (hw : ∀ d ∈ tables_1, d.before a0 Z = true) (a_TERMINATION : Addr) (a_TERMINATED : Addr) (a_LIMIT_WARNING : Addr) (a_SUSPEND_WARNING : Addr) (a_TERMINATE_WARNING : Addr) (a_TERMINATE_WARNING' : Addr) (a_TERMINATED' : Addr) (a_LIMITATION : Addr) (a_LIMITED : Addr) (a_SUSPENSION : Addr) (a_SUSPENDED : Addr) (a_DUE_REMINDER : Addr) (a_DUE_REMINDER' : Addr) (a_SUSPEND_WARNING' : Addr) (a_SUSPENDED' : Addr) (a_OVERDUE_REMINDER : Addr) (a_OVERDUE_REMINDER' : Addr) (a_LATE_FEE : Addr) (a_LIMIT_WARNING' : Addr) (a_LIMITED' : Addr) (a_TERMINATION_label : Addr) (a_LIMITATION_label : Addr) (a_SUSPENSION_label : Addr)  (h0 : Heap) (O0 : Old Z Z.heap.size h0) (FF : Facts Z a_TERMINATION a_TERMINATED a_LIMIT_WARNING a_SUSPEND_WARNING a_TERMINATE_WARNING a_TERMINATE_WARNING' a_TERMINATED' a_LIMITATION a_LIMITED a_SUSPENSION a_SUSPENDED a_DUE_REMINDER a_DUE_REMINDER' a_SUSPEND_WARNING' a_SUSPENDED' a_OVERDUE_REMINDER a_OVERDUE_REMINDER' a_LATE_FEE a_LIMIT_WARNING' a_LIMITED' a_TERMINATION_label a_LIMITATION_label a_SUSPENSION_label) : Pur l Z (⟨"com/example/careful_invoicing/carefulinvoicing/CollectionStep", "isAction", "()Z"⟩ : MethodName) prog_3_method_8_code 1 (some .boolean) 0 0 #[(.ref a_SUSPEND_WARNING')] h0 (some (.int (0 : Int32))) := by
  refine Ctr.of (plainFor_of_name pn_2) ?_
  have wd : ∀ {d : Jvm.Cond} (i : Nat), tables_1[i]? = some d → d.before a0 Z = true := fun i q => hw _ (List.mem_of_getElem? q)
  intro p e s m below meth c s₁ hx hby hml hown hnm hret hlk hZ X0 e0
  refine Go.cast (ef_4 m a_SUSPEND_WARNING') ?_
  show Go p e below _ s₁ (mkF m 0 #[.val (.ref a_SUSPEND_WARNING')] [])
  refine Go.aloadN X0 hx (hb hby d4_0) rfl rfl rfl ?_
  refine Go.getF X0 hx hZ hown (host := "") (Or.inl (wd 37 rfl)) Via.refl e0 ((ff_F_SUSPEND_WARNING'_label FF).ext O0.2) (hb hby d4_1) rfl ?_
  intro T1 X1 e1
  refine Go.ifnullYes X1 hx (hb hby d4_4) rfl 11 (by decide) (by decide) ?_
  refine Go.iconst X1 hx (hb hby d4_11) rfl (0 : Int32) rfl ?_
  exact Go.retZ X1 hx (z' := (0 : Int32)) hret hlk (hb hby d4_12) rfl (by decide) ⟨rfl, rfl, e1⟩ (Nat.le_of_ble_eq_true rfl) (Nat.le_of_ble_eq_true rfl)
set_option maxRecDepth 65536 in
set_option maxHeartbeats 40000000 in
theorem sp5_19 (l : Launch) (Z : State) (a0 : Array Value) (hw : ∀ d ∈ tables_1, d.before a0 Z = true) (a_TERMINATION : Addr) (a_TERMINATED : Addr) (a_LIMIT_WARNING : Addr) (a_SUSPEND_WARNING : Addr) (a_TERMINATE_WARNING : Addr) (a_TERMINATE_WARNING' : Addr) (a_TERMINATED' : Addr) (a_LIMITATION : Addr) (a_LIMITED : Addr) (a_SUSPENSION : Addr) (a_SUSPENDED : Addr) (a_DUE_REMINDER : Addr) (a_DUE_REMINDER' : Addr) (a_SUSPEND_WARNING' : Addr) (a_SUSPENDED' : Addr) (a_OVERDUE_REMINDER : Addr) (a_OVERDUE_REMINDER' : Addr) (a_LATE_FEE : Addr) (a_LIMIT_WARNING' : Addr) (a_LIMITED' : Addr) (a_TERMINATION_label : Addr) (a_LIMITATION_label : Addr) (a_SUSPENSION_label : Addr)  (h0 : Heap) (O0 : Old Z Z.heap.size h0) (FF : Facts Z a_TERMINATION a_TERMINATED a_LIMIT_WARNING a_SUSPEND_WARNING a_TERMINATE_WARNING a_TERMINATE_WARNING' a_TERMINATED' a_LIMITATION a_LIMITED a_SUSPENSION a_SUSPENDED a_DUE_REMINDER a_DUE_REMINDER' a_SUSPEND_WARNING' a_SUSPENDED' a_OVERDUE_REMINDER a_OVERDUE_REMINDER' a_LATE_FEE a_LIMIT_WARNING' a_LIMITED' a_TERMINATION_label a_LIMITATION_label a_SUSPENSION_label) : Pur l Z (⟨"com/example/careful_invoicing/carefulinvoicing/CollectionStep", "status", "()Lcom/example/careful_invoicing/carefulinvoicing/CustomerStatus;"⟩ : MethodName) prog_3_method_10_code 1 (some (.object "com/example/careful_invoicing/carefulinvoicing/CustomerStatus")) 0 0 #[(.ref a_SUSPEND_WARNING')] h0 (some (.ref a_SUSPENDED')) := by
  refine Ctr.of (plainFor_of_name pn_2) ?_
  have wd : ∀ {d : Jvm.Cond} (i : Nat), tables_1[i]? = some d → d.before a0 Z = true := fun i q => hw _ (List.mem_of_getElem? q)
  intro p e s m below meth c s₁ hx hby hml hown hnm hret hlk hZ X0 e0
  refine Go.cast (ef_5 m a_SUSPEND_WARNING') ?_
  show Go p e below _ s₁ (mkF m 0 #[.val (.ref a_SUSPEND_WARNING')] [])
  refine Go.aloadN X0 hx (hb hby d5_0) rfl rfl rfl ?_
  refine Go.getF X0 hx hZ hown (host := "") (Or.inl (wd 44 rfl)) Via.refl e0 ((ff_F_SUSPEND_WARNING'_status FF).ext O0.2) (hb hby d5_1) rfl ?_
  intro T1 X1 e1
  exact Go.retA X1 hx hret hlk rfl rfl (hb hby d5_4) rfl ⟨rfl, rfl, e1⟩ (Nat.le_of_ble_eq_true rfl) (Nat.le_of_ble_eq_true rfl)
set_option maxRecDepth 65536 in
set_option maxHeartbeats 40000000 in
theorem sp1_20 (l : Launch) (Z : State) (a0 : Array Value) (hw : ∀ d ∈ tables_1, d.before a0 Z = true) (a_TERMINATION : Addr) (a_TERMINATED : Addr) (a_LIMIT_WARNING : Addr) (a_SUSPEND_WARNING : Addr) (a_TERMINATE_WARNING : Addr) (a_TERMINATE_WARNING' : Addr) (a_TERMINATED' : Addr) (a_LIMITATION : Addr) (a_LIMITED : Addr) (a_SUSPENSION : Addr) (a_SUSPENDED : Addr) (a_DUE_REMINDER : Addr) (a_DUE_REMINDER' : Addr) (a_SUSPEND_WARNING' : Addr) (a_SUSPENDED' : Addr) (a_OVERDUE_REMINDER : Addr) (a_OVERDUE_REMINDER' : Addr) (a_LATE_FEE : Addr) (a_LIMIT_WARNING' : Addr) (a_LIMITED' : Addr) (a_TERMINATION_label : Addr) (a_LIMITATION_label : Addr) (a_SUSPENSION_label : Addr)  (h0 : Heap) (O0 : Old Z Z.heap.size h0) (FF : Facts Z a_TERMINATION a_TERMINATED a_LIMIT_WARNING a_SUSPEND_WARNING a_TERMINATE_WARNING a_TERMINATE_WARNING' a_TERMINATED' a_LIMITATION a_LIMITED a_SUSPENSION a_SUSPENDED a_DUE_REMINDER a_DUE_REMINDER' a_SUSPEND_WARNING' a_SUSPENDED' a_OVERDUE_REMINDER a_OVERDUE_REMINDER' a_LATE_FEE a_LIMIT_WARNING' a_LIMITED' a_TERMINATION_label a_LIMITATION_label a_SUSPENSION_label) : Pur l Z (⟨"com/example/careful_invoicing/carefulinvoicing/CollectionStepIsWarningPinLaw", "pick", "(I)Lcom/example/careful_invoicing/carefulinvoicing/CollectionStep;"⟩ : MethodName) method_2_code 1 (some (.object "com/example/careful_invoicing/carefulinvoicing/CollectionStep")) 0 0 #[(.int (5 : Int32))] h0 (some (.ref a_LIMIT_WARNING')) := by
  refine Ctr.of (plainFor_of_name pn_0) ?_
  have wd : ∀ {d : Jvm.Cond} (i : Nat), tables_1[i]? = some d → d.before a0 Z = true := fun i q => hw _ (List.mem_of_getElem? q)
  intro p e s m below meth c s₁ hx hby hml hown hnm hret hlk hZ X0 e0
  refine Go.cast (ef_1 m (5 : Int32)) ?_
  show Go p e below _ s₁ (mkF m 0 #[.val (.int (5 : Int32))] [])
  refine Go.iloadN X0 hx (hb hby d1_0) rfl rfl  ?_
  refine Go.ifYes X0 hx (hb hby d1_1) rfl 8 ((if0 _ _).trans (feq (by decide : ¬ ((5 : Int32) = (0 : Int32)))).2) (by decide) (by decide) ?_
  refine Go.iloadN X0 hx (hb hby d1_8) rfl rfl  ?_
  refine Go.iconst X0 hx (hb hby d1_9) rfl (1 : Int32) rfl ?_
  refine Go.icmpYes X0 hx (hb hby d1_10) rfl 17 (feq (by decide : ¬ ((5 : Int32) = (1 : Int32)))).2 (by decide) (by decide) ?_
  refine Go.iloadN X0 hx (hb hby d1_17) rfl rfl  ?_
  refine Go.iconst X0 hx (hb hby d1_18) rfl (2 : Int32) rfl ?_
  refine Go.icmpYes X0 hx (hb hby d1_19) rfl 26 (feq (by decide : ¬ ((5 : Int32) = (2 : Int32)))).2 (by decide) (by decide) ?_
  refine Go.iloadN X0 hx (hb hby d1_26) rfl rfl  ?_
  refine Go.iconst X0 hx (hb hby d1_27) rfl (3 : Int32) rfl ?_
  refine Go.icmpYes X0 hx (hb hby d1_28) rfl 35 (feq (by decide : ¬ ((5 : Int32) = (3 : Int32)))).2 (by decide) (by decide) ?_
  refine Go.iloadN X0 hx (hb hby d1_35) rfl rfl  ?_
  refine Go.iconst X0 hx (hb hby d1_36) rfl (4 : Int32) rfl ?_
  refine Go.icmpYes X0 hx (hb hby d1_37) rfl 44 (feq (by decide : ¬ ((5 : Int32) = (4 : Int32)))).2 (by decide) (by decide) ?_
  refine Go.iloadN X0 hx (hb hby d1_44) rfl rfl  ?_
  refine Go.iconst X0 hx (hb hby d1_45) rfl (5 : Int32) rfl ?_
  refine Go.icmpNo X0 hx (hb hby d1_46) rfl (teq (by decide : (5 : Int32) = (5 : Int32))).2 ?_
  refine Go.getS X0 hx hZ hown (host := "") (Or.inl (wd 65 rfl)) Via.refl e0 ((ff_S_LIMIT_WARNING' FF).ext O0.2) (hb hby d1_49) rfl ?_
  intro T1 X1 e1
  exact Go.retA X1 hx hret hlk rfl rfl (hb hby d1_52) rfl ⟨rfl, rfl, e1⟩ (Nat.le_of_ble_eq_true rfl) (Nat.le_of_ble_eq_true rfl)
set_option maxRecDepth 65536 in
set_option maxHeartbeats 40000000 in
theorem sp2_21 (l : Launch) (Z : State) (a0 : Array Value) (hw : ∀ d ∈ tables_1, d.before a0 Z = true) (a_TERMINATION : Addr) (a_TERMINATED : Addr) (a_LIMIT_WARNING : Addr) (a_SUSPEND_WARNING : Addr) (a_TERMINATE_WARNING : Addr) (a_TERMINATE_WARNING' : Addr) (a_TERMINATED' : Addr) (a_LIMITATION : Addr) (a_LIMITED : Addr) (a_SUSPENSION : Addr) (a_SUSPENDED : Addr) (a_DUE_REMINDER : Addr) (a_DUE_REMINDER' : Addr) (a_SUSPEND_WARNING' : Addr) (a_SUSPENDED' : Addr) (a_OVERDUE_REMINDER : Addr) (a_OVERDUE_REMINDER' : Addr) (a_LATE_FEE : Addr) (a_LIMIT_WARNING' : Addr) (a_LIMITED' : Addr) (a_TERMINATION_label : Addr) (a_LIMITATION_label : Addr) (a_SUSPENSION_label : Addr)  (h0 : Heap) (O0 : Old Z Z.heap.size h0) (FF : Facts Z a_TERMINATION a_TERMINATED a_LIMIT_WARNING a_SUSPEND_WARNING a_TERMINATE_WARNING a_TERMINATE_WARNING' a_TERMINATED' a_LIMITATION a_LIMITED a_SUSPENSION a_SUSPENDED a_DUE_REMINDER a_DUE_REMINDER' a_SUSPEND_WARNING' a_SUSPENDED' a_OVERDUE_REMINDER a_OVERDUE_REMINDER' a_LATE_FEE a_LIMIT_WARNING' a_LIMITED' a_TERMINATION_label a_LIMITATION_label a_SUSPENSION_label) : Pur l Z (⟨"com/example/careful_invoicing/carefulinvoicing/CollectionStep", "isWarning", "()Z"⟩ : MethodName) prog_3_method_9_code 1 (some .boolean) 0 0 #[(.ref a_LIMIT_WARNING')] h0 (some (.int (1 : Int32))) := by
  refine Ctr.of (plainFor_of_name pn_2) ?_
  have wd : ∀ {d : Jvm.Cond} (i : Nat), tables_1[i]? = some d → d.before a0 Z = true := fun i q => hw _ (List.mem_of_getElem? q)
  intro p e s m below meth c s₁ hx hby hml hown hnm hret hlk hZ X0 e0
  refine Go.cast (ef_2 m a_LIMIT_WARNING') ?_
  show Go p e below _ s₁ (mkF m 0 #[.val (.ref a_LIMIT_WARNING')] [])
  refine Go.aloadN X0 hx (hb hby d2_0) rfl rfl rfl ?_
  refine Go.getF X0 hx hZ hown (host := "") (Or.inl (wd 13 rfl)) Via.refl e0 ((ff_F_LIMIT_WARNING'_warned FF).ext O0.2) (hb hby d2_1) rfl ?_
  intro T1 X1 e1
  refine Go.ifnullNo X1 hx (hb hby d2_4) rfl ?_
  refine Go.iconst X1 hx (hb hby d2_7) rfl (1 : Int32) rfl ?_
  refine Go.goto X1 hx (hb hby d2_8) rfl 12 (by decide) (by decide) ?_
  exact Go.retZ X1 hx (z' := (1 : Int32)) hret hlk (hb hby d2_12) rfl (by decide) ⟨rfl, rfl, e1⟩ (Nat.le_of_ble_eq_true rfl) (Nat.le_of_ble_eq_true rfl)
set_option maxRecDepth 65536 in
set_option maxHeartbeats 40000000 in
theorem sp3_22 (l : Launch) (Z : State) (a0 : Array Value) (hw : ∀ d ∈ tables_1, d.before a0 Z = true) (a_TERMINATION : Addr) (a_TERMINATED : Addr) (a_LIMIT_WARNING : Addr) (a_SUSPEND_WARNING : Addr) (a_TERMINATE_WARNING : Addr) (a_TERMINATE_WARNING' : Addr) (a_TERMINATED' : Addr) (a_LIMITATION : Addr) (a_LIMITED : Addr) (a_SUSPENSION : Addr) (a_SUSPENDED : Addr) (a_DUE_REMINDER : Addr) (a_DUE_REMINDER' : Addr) (a_SUSPEND_WARNING' : Addr) (a_SUSPENDED' : Addr) (a_OVERDUE_REMINDER : Addr) (a_OVERDUE_REMINDER' : Addr) (a_LATE_FEE : Addr) (a_LIMIT_WARNING' : Addr) (a_LIMITED' : Addr) (a_TERMINATION_label : Addr) (a_LIMITATION_label : Addr) (a_SUSPENSION_label : Addr)  (h0 : Heap) (O0 : Old Z Z.heap.size h0) (FF : Facts Z a_TERMINATION a_TERMINATED a_LIMIT_WARNING a_SUSPEND_WARNING a_TERMINATE_WARNING a_TERMINATE_WARNING' a_TERMINATED' a_LIMITATION a_LIMITED a_SUSPENSION a_SUSPENDED a_DUE_REMINDER a_DUE_REMINDER' a_SUSPEND_WARNING' a_SUSPENDED' a_OVERDUE_REMINDER a_OVERDUE_REMINDER' a_LATE_FEE a_LIMIT_WARNING' a_LIMITED' a_TERMINATION_label a_LIMITATION_label a_SUSPENSION_label) : Pur l Z (⟨"com/example/careful_invoicing/carefulinvoicing/CollectionStep", "notice", "()Lcom/example/careful_invoicing/carefulinvoicing/NoticeKind;"⟩ : MethodName) prog_3_method_7_code 1 (some (.object "com/example/careful_invoicing/carefulinvoicing/NoticeKind")) 0 0 #[(.ref a_LIMIT_WARNING')] h0 (some (.ref a_LIMIT_WARNING)) := by
  refine Ctr.of (plainFor_of_name pn_2) ?_
  have wd : ∀ {d : Jvm.Cond} (i : Nat), tables_1[i]? = some d → d.before a0 Z = true := fun i q => hw _ (List.mem_of_getElem? q)
  intro p e s m below meth c s₁ hx hby hml hown hnm hret hlk hZ X0 e0
  refine Go.cast (ef_3 m a_LIMIT_WARNING') ?_
  show Go p e below _ s₁ (mkF m 0 #[.val (.ref a_LIMIT_WARNING')] [])
  refine Go.aloadN X0 hx (hb hby d3_0) rfl rfl rfl ?_
  refine Go.getF X0 hx hZ hown (host := "") (Or.inl (wd 20 rfl)) Via.refl e0 ((ff_F_LIMIT_WARNING'_notice FF).ext O0.2) (hb hby d3_1) rfl ?_
  intro T1 X1 e1
  exact Go.retA X1 hx hret hlk rfl rfl (hb hby d3_4) rfl ⟨rfl, rfl, e1⟩ (Nat.le_of_ble_eq_true rfl) (Nat.le_of_ble_eq_true rfl)
set_option maxRecDepth 65536 in
set_option maxHeartbeats 40000000 in
theorem sp4_23 (l : Launch) (Z : State) (a0 : Array Value) (hw : ∀ d ∈ tables_1, d.before a0 Z = true) (a_TERMINATION : Addr) (a_TERMINATED : Addr) (a_LIMIT_WARNING : Addr) (a_SUSPEND_WARNING : Addr) (a_TERMINATE_WARNING : Addr) (a_TERMINATE_WARNING' : Addr) (a_TERMINATED' : Addr) (a_LIMITATION : Addr) (a_LIMITED : Addr) (a_SUSPENSION : Addr) (a_SUSPENDED : Addr) (a_DUE_REMINDER : Addr) (a_DUE_REMINDER' : Addr) (a_SUSPEND_WARNING' : Addr) (a_SUSPENDED' : Addr) (a_OVERDUE_REMINDER : Addr) (a_OVERDUE_REMINDER' : Addr) (a_LATE_FEE : Addr) (a_LIMIT_WARNING' : Addr) (a_LIMITED' : Addr) (a_TERMINATION_label : Addr) (a_LIMITATION_label : Addr) (a_SUSPENSION_label : Addr)  (h0 : Heap) (O0 : Old Z Z.heap.size h0) (FF : Facts Z a_TERMINATION a_TERMINATED a_LIMIT_WARNING a_SUSPEND_WARNING a_TERMINATE_WARNING a_TERMINATE_WARNING' a_TERMINATED' a_LIMITATION a_LIMITED a_SUSPENSION a_SUSPENDED a_DUE_REMINDER a_DUE_REMINDER' a_SUSPEND_WARNING' a_SUSPENDED' a_OVERDUE_REMINDER a_OVERDUE_REMINDER' a_LATE_FEE a_LIMIT_WARNING' a_LIMITED' a_TERMINATION_label a_LIMITATION_label a_SUSPENSION_label) : Pur l Z (⟨"com/example/careful_invoicing/carefulinvoicing/CollectionStep", "isAction", "()Z"⟩ : MethodName) prog_3_method_8_code 1 (some .boolean) 0 0 #[(.ref a_LIMIT_WARNING')] h0 (some (.int (0 : Int32))) := by
  refine Ctr.of (plainFor_of_name pn_2) ?_
  have wd : ∀ {d : Jvm.Cond} (i : Nat), tables_1[i]? = some d → d.before a0 Z = true := fun i q => hw _ (List.mem_of_getElem? q)
  intro p e s m below meth c s₁ hx hby hml hown hnm hret hlk hZ X0 e0
  refine Go.cast (ef_4 m a_LIMIT_WARNING') ?_
  show Go p e below _ s₁ (mkF m 0 #[.val (.ref a_LIMIT_WARNING')] [])
  refine Go.aloadN X0 hx (hb hby d4_0) rfl rfl rfl ?_
  refine Go.getF X0 hx hZ hown (host := "") (Or.inl (wd 37 rfl)) Via.refl e0 ((ff_F_LIMIT_WARNING'_label FF).ext O0.2) (hb hby d4_1) rfl ?_
  intro T1 X1 e1
  refine Go.ifnullYes X1 hx (hb hby d4_4) rfl 11 (by decide) (by decide) ?_
  refine Go.iconst X1 hx (hb hby d4_11) rfl (0 : Int32) rfl ?_
  exact Go.retZ X1 hx (z' := (0 : Int32)) hret hlk (hb hby d4_12) rfl (by decide) ⟨rfl, rfl, e1⟩ (Nat.le_of_ble_eq_true rfl) (Nat.le_of_ble_eq_true rfl)
set_option maxRecDepth 65536 in
set_option maxHeartbeats 40000000 in
theorem sp5_24 (l : Launch) (Z : State) (a0 : Array Value) (hw : ∀ d ∈ tables_1, d.before a0 Z = true) (a_TERMINATION : Addr) (a_TERMINATED : Addr) (a_LIMIT_WARNING : Addr) (a_SUSPEND_WARNING : Addr) (a_TERMINATE_WARNING : Addr) (a_TERMINATE_WARNING' : Addr) (a_TERMINATED' : Addr) (a_LIMITATION : Addr) (a_LIMITED : Addr) (a_SUSPENSION : Addr) (a_SUSPENDED : Addr) (a_DUE_REMINDER : Addr) (a_DUE_REMINDER' : Addr) (a_SUSPEND_WARNING' : Addr) (a_SUSPENDED' : Addr) (a_OVERDUE_REMINDER : Addr) (a_OVERDUE_REMINDER' : Addr) (a_LATE_FEE : Addr) (a_LIMIT_WARNING' : Addr) (a_LIMITED' : Addr) (a_TERMINATION_label : Addr) (a_LIMITATION_label : Addr) (a_SUSPENSION_label : Addr)  (h0 : Heap) (O0 : Old Z Z.heap.size h0) (FF : Facts Z a_TERMINATION a_TERMINATED a_LIMIT_WARNING a_SUSPEND_WARNING a_TERMINATE_WARNING a_TERMINATE_WARNING' a_TERMINATED' a_LIMITATION a_LIMITED a_SUSPENSION a_SUSPENDED a_DUE_REMINDER a_DUE_REMINDER' a_SUSPEND_WARNING' a_SUSPENDED' a_OVERDUE_REMINDER a_OVERDUE_REMINDER' a_LATE_FEE a_LIMIT_WARNING' a_LIMITED' a_TERMINATION_label a_LIMITATION_label a_SUSPENSION_label) : Pur l Z (⟨"com/example/careful_invoicing/carefulinvoicing/CollectionStep", "status", "()Lcom/example/careful_invoicing/carefulinvoicing/CustomerStatus;"⟩ : MethodName) prog_3_method_10_code 1 (some (.object "com/example/careful_invoicing/carefulinvoicing/CustomerStatus")) 0 0 #[(.ref a_LIMIT_WARNING')] h0 (some (.ref a_LIMITED')) := by
  refine Ctr.of (plainFor_of_name pn_2) ?_
  have wd : ∀ {d : Jvm.Cond} (i : Nat), tables_1[i]? = some d → d.before a0 Z = true := fun i q => hw _ (List.mem_of_getElem? q)
  intro p e s m below meth c s₁ hx hby hml hown hnm hret hlk hZ X0 e0
  refine Go.cast (ef_5 m a_LIMIT_WARNING') ?_
  show Go p e below _ s₁ (mkF m 0 #[.val (.ref a_LIMIT_WARNING')] [])
  refine Go.aloadN X0 hx (hb hby d5_0) rfl rfl rfl ?_
  refine Go.getF X0 hx hZ hown (host := "") (Or.inl (wd 44 rfl)) Via.refl e0 ((ff_F_LIMIT_WARNING'_status FF).ext O0.2) (hb hby d5_1) rfl ?_
  intro T1 X1 e1
  exact Go.retA X1 hx hret hlk rfl rfl (hb hby d5_4) rfl ⟨rfl, rfl, e1⟩ (Nat.le_of_ble_eq_true rfl) (Nat.le_of_ble_eq_true rfl)
set_option maxRecDepth 65536 in
set_option maxHeartbeats 40000000 in
theorem sp1_25 (l : Launch) (Z : State) (a0 : Array Value) (hw : ∀ d ∈ tables_1, d.before a0 Z = true) (a_TERMINATION : Addr) (a_TERMINATED : Addr) (a_LIMIT_WARNING : Addr) (a_SUSPEND_WARNING : Addr) (a_TERMINATE_WARNING : Addr) (a_TERMINATE_WARNING' : Addr) (a_TERMINATED' : Addr) (a_LIMITATION : Addr) (a_LIMITED : Addr) (a_SUSPENSION : Addr) (a_SUSPENDED : Addr) (a_DUE_REMINDER : Addr) (a_DUE_REMINDER' : Addr) (a_SUSPEND_WARNING' : Addr) (a_SUSPENDED' : Addr) (a_OVERDUE_REMINDER : Addr) (a_OVERDUE_REMINDER' : Addr) (a_LATE_FEE : Addr) (a_LIMIT_WARNING' : Addr) (a_LIMITED' : Addr) (a_TERMINATION_label : Addr) (a_LIMITATION_label : Addr) (a_SUSPENSION_label : Addr)  (h0 : Heap) (O0 : Old Z Z.heap.size h0) (FF : Facts Z a_TERMINATION a_TERMINATED a_LIMIT_WARNING a_SUSPEND_WARNING a_TERMINATE_WARNING a_TERMINATE_WARNING' a_TERMINATED' a_LIMITATION a_LIMITED a_SUSPENSION a_SUSPENDED a_DUE_REMINDER a_DUE_REMINDER' a_SUSPEND_WARNING' a_SUSPENDED' a_OVERDUE_REMINDER a_OVERDUE_REMINDER' a_LATE_FEE a_LIMIT_WARNING' a_LIMITED' a_TERMINATION_label a_LIMITATION_label a_SUSPENSION_label) : Pur l Z (⟨"com/example/careful_invoicing/carefulinvoicing/CollectionStepIsWarningPinLaw", "pick", "(I)Lcom/example/careful_invoicing/carefulinvoicing/CollectionStep;"⟩ : MethodName) method_2_code 1 (some (.object "com/example/careful_invoicing/carefulinvoicing/CollectionStep")) 0 0 #[(.int (6 : Int32))] h0 (some (.ref a_LATE_FEE)) := by
  refine Ctr.of (plainFor_of_name pn_0) ?_
  have wd : ∀ {d : Jvm.Cond} (i : Nat), tables_1[i]? = some d → d.before a0 Z = true := fun i q => hw _ (List.mem_of_getElem? q)
  intro p e s m below meth c s₁ hx hby hml hown hnm hret hlk hZ X0 e0
  refine Go.cast (ef_1 m (6 : Int32)) ?_
  show Go p e below _ s₁ (mkF m 0 #[.val (.int (6 : Int32))] [])
  refine Go.iloadN X0 hx (hb hby d1_0) rfl rfl  ?_
  refine Go.ifYes X0 hx (hb hby d1_1) rfl 8 ((if0 _ _).trans (feq (by decide : ¬ ((6 : Int32) = (0 : Int32)))).2) (by decide) (by decide) ?_
  refine Go.iloadN X0 hx (hb hby d1_8) rfl rfl  ?_
  refine Go.iconst X0 hx (hb hby d1_9) rfl (1 : Int32) rfl ?_
  refine Go.icmpYes X0 hx (hb hby d1_10) rfl 17 (feq (by decide : ¬ ((6 : Int32) = (1 : Int32)))).2 (by decide) (by decide) ?_
  refine Go.iloadN X0 hx (hb hby d1_17) rfl rfl  ?_
  refine Go.iconst X0 hx (hb hby d1_18) rfl (2 : Int32) rfl ?_
  refine Go.icmpYes X0 hx (hb hby d1_19) rfl 26 (feq (by decide : ¬ ((6 : Int32) = (2 : Int32)))).2 (by decide) (by decide) ?_
  refine Go.iloadN X0 hx (hb hby d1_26) rfl rfl  ?_
  refine Go.iconst X0 hx (hb hby d1_27) rfl (3 : Int32) rfl ?_
  refine Go.icmpYes X0 hx (hb hby d1_28) rfl 35 (feq (by decide : ¬ ((6 : Int32) = (3 : Int32)))).2 (by decide) (by decide) ?_
  refine Go.iloadN X0 hx (hb hby d1_35) rfl rfl  ?_
  refine Go.iconst X0 hx (hb hby d1_36) rfl (4 : Int32) rfl ?_
  refine Go.icmpYes X0 hx (hb hby d1_37) rfl 44 (feq (by decide : ¬ ((6 : Int32) = (4 : Int32)))).2 (by decide) (by decide) ?_
  refine Go.iloadN X0 hx (hb hby d1_44) rfl rfl  ?_
  refine Go.iconst X0 hx (hb hby d1_45) rfl (5 : Int32) rfl ?_
  refine Go.icmpYes X0 hx (hb hby d1_46) rfl 53 (feq (by decide : ¬ ((6 : Int32) = (5 : Int32)))).2 (by decide) (by decide) ?_
  refine Go.iloadN X0 hx (hb hby d1_53) rfl rfl  ?_
  refine Go.bipush X0 hx (hb hby d1_54) rfl (6 : Int32) rfl ?_
  refine Go.icmpNo X0 hx (hb hby d1_56) rfl (teq (by decide : (6 : Int32) = (6 : Int32))).2 ?_
  refine Go.getS X0 hx hZ hown (host := "") (Or.inl (wd 63 rfl)) Via.refl e0 ((ff_S_LATE_FEE FF).ext O0.2) (hb hby d1_59) rfl ?_
  intro T1 X1 e1
  exact Go.retA X1 hx hret hlk rfl rfl (hb hby d1_62) rfl ⟨rfl, rfl, e1⟩ (Nat.le_of_ble_eq_true rfl) (Nat.le_of_ble_eq_true rfl)
set_option maxRecDepth 65536 in
set_option maxHeartbeats 40000000 in
theorem sp2_26 (l : Launch) (Z : State) (a0 : Array Value) (hw : ∀ d ∈ tables_1, d.before a0 Z = true) (a_TERMINATION : Addr) (a_TERMINATED : Addr) (a_LIMIT_WARNING : Addr) (a_SUSPEND_WARNING : Addr) (a_TERMINATE_WARNING : Addr) (a_TERMINATE_WARNING' : Addr) (a_TERMINATED' : Addr) (a_LIMITATION : Addr) (a_LIMITED : Addr) (a_SUSPENSION : Addr) (a_SUSPENDED : Addr) (a_DUE_REMINDER : Addr) (a_DUE_REMINDER' : Addr) (a_SUSPEND_WARNING' : Addr) (a_SUSPENDED' : Addr) (a_OVERDUE_REMINDER : Addr) (a_OVERDUE_REMINDER' : Addr) (a_LATE_FEE : Addr) (a_LIMIT_WARNING' : Addr) (a_LIMITED' : Addr) (a_TERMINATION_label : Addr) (a_LIMITATION_label : Addr) (a_SUSPENSION_label : Addr)  (h0 : Heap) (O0 : Old Z Z.heap.size h0) (FF : Facts Z a_TERMINATION a_TERMINATED a_LIMIT_WARNING a_SUSPEND_WARNING a_TERMINATE_WARNING a_TERMINATE_WARNING' a_TERMINATED' a_LIMITATION a_LIMITED a_SUSPENSION a_SUSPENDED a_DUE_REMINDER a_DUE_REMINDER' a_SUSPEND_WARNING' a_SUSPENDED' a_OVERDUE_REMINDER a_OVERDUE_REMINDER' a_LATE_FEE a_LIMIT_WARNING' a_LIMITED' a_TERMINATION_label a_LIMITATION_label a_SUSPENSION_label) : Pur l Z (⟨"com/example/careful_invoicing/carefulinvoicing/CollectionStep", "isWarning", "()Z"⟩ : MethodName) prog_3_method_9_code 1 (some .boolean) 0 0 #[(.ref a_LATE_FEE)] h0 (some (.int (0 : Int32))) := by
  refine Ctr.of (plainFor_of_name pn_2) ?_
  have wd : ∀ {d : Jvm.Cond} (i : Nat), tables_1[i]? = some d → d.before a0 Z = true := fun i q => hw _ (List.mem_of_getElem? q)
  intro p e s m below meth c s₁ hx hby hml hown hnm hret hlk hZ X0 e0
  refine Go.cast (ef_2 m a_LATE_FEE) ?_
  show Go p e below _ s₁ (mkF m 0 #[.val (.ref a_LATE_FEE)] [])
  refine Go.aloadN X0 hx (hb hby d2_0) rfl rfl rfl ?_
  refine Go.getF X0 hx hZ hown (host := "") (Or.inl (wd 13 rfl)) Via.refl e0 ((ff_F_LATE_FEE_warned FF).ext O0.2) (hb hby d2_1) rfl ?_
  intro T1 X1 e1
  refine Go.ifnullYes X1 hx (hb hby d2_4) rfl 11 (by decide) (by decide) ?_
  refine Go.iconst X1 hx (hb hby d2_11) rfl (0 : Int32) rfl ?_
  exact Go.retZ X1 hx (z' := (0 : Int32)) hret hlk (hb hby d2_12) rfl (by decide) ⟨rfl, rfl, e1⟩ (Nat.le_of_ble_eq_true rfl) (Nat.le_of_ble_eq_true rfl)
set_option maxRecDepth 65536 in
set_option maxHeartbeats 40000000 in
theorem sp3_27 (l : Launch) (Z : State) (a0 : Array Value) (hw : ∀ d ∈ tables_1, d.before a0 Z = true) (a_TERMINATION : Addr) (a_TERMINATED : Addr) (a_LIMIT_WARNING : Addr) (a_SUSPEND_WARNING : Addr) (a_TERMINATE_WARNING : Addr) (a_TERMINATE_WARNING' : Addr) (a_TERMINATED' : Addr) (a_LIMITATION : Addr) (a_LIMITED : Addr) (a_SUSPENSION : Addr) (a_SUSPENDED : Addr) (a_DUE_REMINDER : Addr) (a_DUE_REMINDER' : Addr) (a_SUSPEND_WARNING' : Addr) (a_SUSPENDED' : Addr) (a_OVERDUE_REMINDER : Addr) (a_OVERDUE_REMINDER' : Addr) (a_LATE_FEE : Addr) (a_LIMIT_WARNING' : Addr) (a_LIMITED' : Addr) (a_TERMINATION_label : Addr) (a_LIMITATION_label : Addr) (a_SUSPENSION_label : Addr)  (h0 : Heap) (O0 : Old Z Z.heap.size h0) (FF : Facts Z a_TERMINATION a_TERMINATED a_LIMIT_WARNING a_SUSPEND_WARNING a_TERMINATE_WARNING a_TERMINATE_WARNING' a_TERMINATED' a_LIMITATION a_LIMITED a_SUSPENSION a_SUSPENDED a_DUE_REMINDER a_DUE_REMINDER' a_SUSPEND_WARNING' a_SUSPENDED' a_OVERDUE_REMINDER a_OVERDUE_REMINDER' a_LATE_FEE a_LIMIT_WARNING' a_LIMITED' a_TERMINATION_label a_LIMITATION_label a_SUSPENSION_label) : Pur l Z (⟨"com/example/careful_invoicing/carefulinvoicing/CollectionStep", "notice", "()Lcom/example/careful_invoicing/carefulinvoicing/NoticeKind;"⟩ : MethodName) prog_3_method_7_code 1 (some (.object "com/example/careful_invoicing/carefulinvoicing/NoticeKind")) 0 0 #[(.ref a_LATE_FEE)] h0 (some .null) := by
  refine Ctr.of (plainFor_of_name pn_2) ?_
  have wd : ∀ {d : Jvm.Cond} (i : Nat), tables_1[i]? = some d → d.before a0 Z = true := fun i q => hw _ (List.mem_of_getElem? q)
  intro p e s m below meth c s₁ hx hby hml hown hnm hret hlk hZ X0 e0
  refine Go.cast (ef_3 m a_LATE_FEE) ?_
  show Go p e below _ s₁ (mkF m 0 #[.val (.ref a_LATE_FEE)] [])
  refine Go.aloadN X0 hx (hb hby d3_0) rfl rfl rfl ?_
  refine Go.getF X0 hx hZ hown (host := "") (Or.inl (wd 20 rfl)) Via.refl e0 ((ff_F_LATE_FEE_notice FF).ext O0.2) (hb hby d3_1) rfl ?_
  intro T1 X1 e1
  exact Go.retA X1 hx hret hlk rfl rfl (hb hby d3_4) rfl ⟨rfl, rfl, e1⟩ (Nat.le_of_ble_eq_true rfl) (Nat.le_of_ble_eq_true rfl)
set_option maxRecDepth 65536 in
set_option maxHeartbeats 40000000 in
theorem sp1_28 (l : Launch) (Z : State) (a0 : Array Value) (hw : ∀ d ∈ tables_1, d.before a0 Z = true) (a_TERMINATION : Addr) (a_TERMINATED : Addr) (a_LIMIT_WARNING : Addr) (a_SUSPEND_WARNING : Addr) (a_TERMINATE_WARNING : Addr) (a_TERMINATE_WARNING' : Addr) (a_TERMINATED' : Addr) (a_LIMITATION : Addr) (a_LIMITED : Addr) (a_SUSPENSION : Addr) (a_SUSPENDED : Addr) (a_DUE_REMINDER : Addr) (a_DUE_REMINDER' : Addr) (a_SUSPEND_WARNING' : Addr) (a_SUSPENDED' : Addr) (a_OVERDUE_REMINDER : Addr) (a_OVERDUE_REMINDER' : Addr) (a_LATE_FEE : Addr) (a_LIMIT_WARNING' : Addr) (a_LIMITED' : Addr) (a_TERMINATION_label : Addr) (a_LIMITATION_label : Addr) (a_SUSPENSION_label : Addr)  (h0 : Heap) (O0 : Old Z Z.heap.size h0) (FF : Facts Z a_TERMINATION a_TERMINATED a_LIMIT_WARNING a_SUSPEND_WARNING a_TERMINATE_WARNING a_TERMINATE_WARNING' a_TERMINATED' a_LIMITATION a_LIMITED a_SUSPENSION a_SUSPENDED a_DUE_REMINDER a_DUE_REMINDER' a_SUSPEND_WARNING' a_SUSPENDED' a_OVERDUE_REMINDER a_OVERDUE_REMINDER' a_LATE_FEE a_LIMIT_WARNING' a_LIMITED' a_TERMINATION_label a_LIMITATION_label a_SUSPENSION_label) : Pur l Z (⟨"com/example/careful_invoicing/carefulinvoicing/CollectionStepIsWarningPinLaw", "pick", "(I)Lcom/example/careful_invoicing/carefulinvoicing/CollectionStep;"⟩ : MethodName) method_2_code 1 (some (.object "com/example/careful_invoicing/carefulinvoicing/CollectionStep")) 0 0 #[(.int (7 : Int32))] h0 (some (.ref a_DUE_REMINDER)) := by
  refine Ctr.of (plainFor_of_name pn_0) ?_
  have wd : ∀ {d : Jvm.Cond} (i : Nat), tables_1[i]? = some d → d.before a0 Z = true := fun i q => hw _ (List.mem_of_getElem? q)
  intro p e s m below meth c s₁ hx hby hml hown hnm hret hlk hZ X0 e0
  refine Go.cast (ef_1 m (7 : Int32)) ?_
  show Go p e below _ s₁ (mkF m 0 #[.val (.int (7 : Int32))] [])
  refine Go.iloadN X0 hx (hb hby d1_0) rfl rfl  ?_
  refine Go.ifYes X0 hx (hb hby d1_1) rfl 8 ((if0 _ _).trans (feq (by decide : ¬ ((7 : Int32) = (0 : Int32)))).2) (by decide) (by decide) ?_
  refine Go.iloadN X0 hx (hb hby d1_8) rfl rfl  ?_
  refine Go.iconst X0 hx (hb hby d1_9) rfl (1 : Int32) rfl ?_
  refine Go.icmpYes X0 hx (hb hby d1_10) rfl 17 (feq (by decide : ¬ ((7 : Int32) = (1 : Int32)))).2 (by decide) (by decide) ?_
  refine Go.iloadN X0 hx (hb hby d1_17) rfl rfl  ?_
  refine Go.iconst X0 hx (hb hby d1_18) rfl (2 : Int32) rfl ?_
  refine Go.icmpYes X0 hx (hb hby d1_19) rfl 26 (feq (by decide : ¬ ((7 : Int32) = (2 : Int32)))).2 (by decide) (by decide) ?_
  refine Go.iloadN X0 hx (hb hby d1_26) rfl rfl  ?_
  refine Go.iconst X0 hx (hb hby d1_27) rfl (3 : Int32) rfl ?_
  refine Go.icmpYes X0 hx (hb hby d1_28) rfl 35 (feq (by decide : ¬ ((7 : Int32) = (3 : Int32)))).2 (by decide) (by decide) ?_
  refine Go.iloadN X0 hx (hb hby d1_35) rfl rfl  ?_
  refine Go.iconst X0 hx (hb hby d1_36) rfl (4 : Int32) rfl ?_
  refine Go.icmpYes X0 hx (hb hby d1_37) rfl 44 (feq (by decide : ¬ ((7 : Int32) = (4 : Int32)))).2 (by decide) (by decide) ?_
  refine Go.iloadN X0 hx (hb hby d1_44) rfl rfl  ?_
  refine Go.iconst X0 hx (hb hby d1_45) rfl (5 : Int32) rfl ?_
  refine Go.icmpYes X0 hx (hb hby d1_46) rfl 53 (feq (by decide : ¬ ((7 : Int32) = (5 : Int32)))).2 (by decide) (by decide) ?_
  refine Go.iloadN X0 hx (hb hby d1_53) rfl rfl  ?_
  refine Go.bipush X0 hx (hb hby d1_54) rfl (6 : Int32) rfl ?_
  refine Go.icmpYes X0 hx (hb hby d1_56) rfl 63 (feq (by decide : ¬ ((7 : Int32) = (6 : Int32)))).2 (by decide) (by decide) ?_
  refine Go.iloadN X0 hx (hb hby d1_63) rfl rfl  ?_
  refine Go.bipush X0 hx (hb hby d1_64) rfl (7 : Int32) rfl ?_
  refine Go.icmpNo X0 hx (hb hby d1_66) rfl (teq (by decide : (7 : Int32) = (7 : Int32))).2 ?_
  refine Go.getS X0 hx hZ hown (host := "") (Or.inl (wd 54 rfl)) Via.refl e0 ((ff_S_DUE_REMINDER FF).ext O0.2) (hb hby d1_69) rfl ?_
  intro T1 X1 e1
  exact Go.retA X1 hx hret hlk rfl rfl (hb hby d1_72) rfl ⟨rfl, rfl, e1⟩ (Nat.le_of_ble_eq_true rfl) (Nat.le_of_ble_eq_true rfl)
set_option maxRecDepth 65536 in
set_option maxHeartbeats 40000000 in
theorem sp2_29 (l : Launch) (Z : State) (a0 : Array Value) (hw : ∀ d ∈ tables_1, d.before a0 Z = true) (a_TERMINATION : Addr) (a_TERMINATED : Addr) (a_LIMIT_WARNING : Addr) (a_SUSPEND_WARNING : Addr) (a_TERMINATE_WARNING : Addr) (a_TERMINATE_WARNING' : Addr) (a_TERMINATED' : Addr) (a_LIMITATION : Addr) (a_LIMITED : Addr) (a_SUSPENSION : Addr) (a_SUSPENDED : Addr) (a_DUE_REMINDER : Addr) (a_DUE_REMINDER' : Addr) (a_SUSPEND_WARNING' : Addr) (a_SUSPENDED' : Addr) (a_OVERDUE_REMINDER : Addr) (a_OVERDUE_REMINDER' : Addr) (a_LATE_FEE : Addr) (a_LIMIT_WARNING' : Addr) (a_LIMITED' : Addr) (a_TERMINATION_label : Addr) (a_LIMITATION_label : Addr) (a_SUSPENSION_label : Addr)  (h0 : Heap) (O0 : Old Z Z.heap.size h0) (FF : Facts Z a_TERMINATION a_TERMINATED a_LIMIT_WARNING a_SUSPEND_WARNING a_TERMINATE_WARNING a_TERMINATE_WARNING' a_TERMINATED' a_LIMITATION a_LIMITED a_SUSPENSION a_SUSPENDED a_DUE_REMINDER a_DUE_REMINDER' a_SUSPEND_WARNING' a_SUSPENDED' a_OVERDUE_REMINDER a_OVERDUE_REMINDER' a_LATE_FEE a_LIMIT_WARNING' a_LIMITED' a_TERMINATION_label a_LIMITATION_label a_SUSPENSION_label) : Pur l Z (⟨"com/example/careful_invoicing/carefulinvoicing/CollectionStep", "isWarning", "()Z"⟩ : MethodName) prog_3_method_9_code 1 (some .boolean) 0 0 #[(.ref a_DUE_REMINDER)] h0 (some (.int (0 : Int32))) := by
  refine Ctr.of (plainFor_of_name pn_2) ?_
  have wd : ∀ {d : Jvm.Cond} (i : Nat), tables_1[i]? = some d → d.before a0 Z = true := fun i q => hw _ (List.mem_of_getElem? q)
  intro p e s m below meth c s₁ hx hby hml hown hnm hret hlk hZ X0 e0
  refine Go.cast (ef_2 m a_DUE_REMINDER) ?_
  show Go p e below _ s₁ (mkF m 0 #[.val (.ref a_DUE_REMINDER)] [])
  refine Go.aloadN X0 hx (hb hby d2_0) rfl rfl rfl ?_
  refine Go.getF X0 hx hZ hown (host := "") (Or.inl (wd 13 rfl)) Via.refl e0 ((ff_F_DUE_REMINDER_warned FF).ext O0.2) (hb hby d2_1) rfl ?_
  intro T1 X1 e1
  refine Go.ifnullYes X1 hx (hb hby d2_4) rfl 11 (by decide) (by decide) ?_
  refine Go.iconst X1 hx (hb hby d2_11) rfl (0 : Int32) rfl ?_
  exact Go.retZ X1 hx (z' := (0 : Int32)) hret hlk (hb hby d2_12) rfl (by decide) ⟨rfl, rfl, e1⟩ (Nat.le_of_ble_eq_true rfl) (Nat.le_of_ble_eq_true rfl)
set_option maxRecDepth 65536 in
set_option maxHeartbeats 40000000 in
theorem sp3_30 (l : Launch) (Z : State) (a0 : Array Value) (hw : ∀ d ∈ tables_1, d.before a0 Z = true) (a_TERMINATION : Addr) (a_TERMINATED : Addr) (a_LIMIT_WARNING : Addr) (a_SUSPEND_WARNING : Addr) (a_TERMINATE_WARNING : Addr) (a_TERMINATE_WARNING' : Addr) (a_TERMINATED' : Addr) (a_LIMITATION : Addr) (a_LIMITED : Addr) (a_SUSPENSION : Addr) (a_SUSPENDED : Addr) (a_DUE_REMINDER : Addr) (a_DUE_REMINDER' : Addr) (a_SUSPEND_WARNING' : Addr) (a_SUSPENDED' : Addr) (a_OVERDUE_REMINDER : Addr) (a_OVERDUE_REMINDER' : Addr) (a_LATE_FEE : Addr) (a_LIMIT_WARNING' : Addr) (a_LIMITED' : Addr) (a_TERMINATION_label : Addr) (a_LIMITATION_label : Addr) (a_SUSPENSION_label : Addr)  (h0 : Heap) (O0 : Old Z Z.heap.size h0) (FF : Facts Z a_TERMINATION a_TERMINATED a_LIMIT_WARNING a_SUSPEND_WARNING a_TERMINATE_WARNING a_TERMINATE_WARNING' a_TERMINATED' a_LIMITATION a_LIMITED a_SUSPENSION a_SUSPENDED a_DUE_REMINDER a_DUE_REMINDER' a_SUSPEND_WARNING' a_SUSPENDED' a_OVERDUE_REMINDER a_OVERDUE_REMINDER' a_LATE_FEE a_LIMIT_WARNING' a_LIMITED' a_TERMINATION_label a_LIMITATION_label a_SUSPENSION_label) : Pur l Z (⟨"com/example/careful_invoicing/carefulinvoicing/CollectionStep", "notice", "()Lcom/example/careful_invoicing/carefulinvoicing/NoticeKind;"⟩ : MethodName) prog_3_method_7_code 1 (some (.object "com/example/careful_invoicing/carefulinvoicing/NoticeKind")) 0 0 #[(.ref a_DUE_REMINDER)] h0 (some (.ref a_DUE_REMINDER')) := by
  refine Ctr.of (plainFor_of_name pn_2) ?_
  have wd : ∀ {d : Jvm.Cond} (i : Nat), tables_1[i]? = some d → d.before a0 Z = true := fun i q => hw _ (List.mem_of_getElem? q)
  intro p e s m below meth c s₁ hx hby hml hown hnm hret hlk hZ X0 e0
  refine Go.cast (ef_3 m a_DUE_REMINDER) ?_
  show Go p e below _ s₁ (mkF m 0 #[.val (.ref a_DUE_REMINDER)] [])
  refine Go.aloadN X0 hx (hb hby d3_0) rfl rfl rfl ?_
  refine Go.getF X0 hx hZ hown (host := "") (Or.inl (wd 20 rfl)) Via.refl e0 ((ff_F_DUE_REMINDER_notice FF).ext O0.2) (hb hby d3_1) rfl ?_
  intro T1 X1 e1
  exact Go.retA X1 hx hret hlk rfl rfl (hb hby d3_4) rfl ⟨rfl, rfl, e1⟩ (Nat.le_of_ble_eq_true rfl) (Nat.le_of_ble_eq_true rfl)
set_option maxRecDepth 65536 in
set_option maxHeartbeats 40000000 in
theorem sp1_31 (l : Launch) (Z : State) (a0 : Array Value) (hw : ∀ d ∈ tables_1, d.before a0 Z = true) (a_TERMINATION : Addr) (a_TERMINATED : Addr) (a_LIMIT_WARNING : Addr) (a_SUSPEND_WARNING : Addr) (a_TERMINATE_WARNING : Addr) (a_TERMINATE_WARNING' : Addr) (a_TERMINATED' : Addr) (a_LIMITATION : Addr) (a_LIMITED : Addr) (a_SUSPENSION : Addr) (a_SUSPENDED : Addr) (a_DUE_REMINDER : Addr) (a_DUE_REMINDER' : Addr) (a_SUSPEND_WARNING' : Addr) (a_SUSPENDED' : Addr) (a_OVERDUE_REMINDER : Addr) (a_OVERDUE_REMINDER' : Addr) (a_LATE_FEE : Addr) (a_LIMIT_WARNING' : Addr) (a_LIMITED' : Addr) (a_TERMINATION_label : Addr) (a_LIMITATION_label : Addr) (a_SUSPENSION_label : Addr)  (h0 : Heap) (O0 : Old Z Z.heap.size h0) (FF : Facts Z a_TERMINATION a_TERMINATED a_LIMIT_WARNING a_SUSPEND_WARNING a_TERMINATE_WARNING a_TERMINATE_WARNING' a_TERMINATED' a_LIMITATION a_LIMITED a_SUSPENSION a_SUSPENDED a_DUE_REMINDER a_DUE_REMINDER' a_SUSPEND_WARNING' a_SUSPENDED' a_OVERDUE_REMINDER a_OVERDUE_REMINDER' a_LATE_FEE a_LIMIT_WARNING' a_LIMITED' a_TERMINATION_label a_LIMITATION_label a_SUSPENSION_label) : Pur l Z (⟨"com/example/careful_invoicing/carefulinvoicing/CollectionStepIsWarningPinLaw", "pick", "(I)Lcom/example/careful_invoicing/carefulinvoicing/CollectionStep;"⟩ : MethodName) method_2_code 1 (some (.object "com/example/careful_invoicing/carefulinvoicing/CollectionStep")) 0 0 #[(.int (8 : Int32))] h0 (some (.ref a_OVERDUE_REMINDER)) := by
  refine Ctr.of (plainFor_of_name pn_0) ?_
  have wd : ∀ {d : Jvm.Cond} (i : Nat), tables_1[i]? = some d → d.before a0 Z = true := fun i q => hw _ (List.mem_of_getElem? q)
  intro p e s m below meth c s₁ hx hby hml hown hnm hret hlk hZ X0 e0
  refine Go.cast (ef_1 m (8 : Int32)) ?_
  show Go p e below _ s₁ (mkF m 0 #[.val (.int (8 : Int32))] [])
  refine Go.iloadN X0 hx (hb hby d1_0) rfl rfl  ?_
  refine Go.ifYes X0 hx (hb hby d1_1) rfl 8 ((if0 _ _).trans (feq (by decide : ¬ ((8 : Int32) = (0 : Int32)))).2) (by decide) (by decide) ?_
  refine Go.iloadN X0 hx (hb hby d1_8) rfl rfl  ?_
  refine Go.iconst X0 hx (hb hby d1_9) rfl (1 : Int32) rfl ?_
  refine Go.icmpYes X0 hx (hb hby d1_10) rfl 17 (feq (by decide : ¬ ((8 : Int32) = (1 : Int32)))).2 (by decide) (by decide) ?_
  refine Go.iloadN X0 hx (hb hby d1_17) rfl rfl  ?_
  refine Go.iconst X0 hx (hb hby d1_18) rfl (2 : Int32) rfl ?_
  refine Go.icmpYes X0 hx (hb hby d1_19) rfl 26 (feq (by decide : ¬ ((8 : Int32) = (2 : Int32)))).2 (by decide) (by decide) ?_
  refine Go.iloadN X0 hx (hb hby d1_26) rfl rfl  ?_
  refine Go.iconst X0 hx (hb hby d1_27) rfl (3 : Int32) rfl ?_
  refine Go.icmpYes X0 hx (hb hby d1_28) rfl 35 (feq (by decide : ¬ ((8 : Int32) = (3 : Int32)))).2 (by decide) (by decide) ?_
  refine Go.iloadN X0 hx (hb hby d1_35) rfl rfl  ?_
  refine Go.iconst X0 hx (hb hby d1_36) rfl (4 : Int32) rfl ?_
  refine Go.icmpYes X0 hx (hb hby d1_37) rfl 44 (feq (by decide : ¬ ((8 : Int32) = (4 : Int32)))).2 (by decide) (by decide) ?_
  refine Go.iloadN X0 hx (hb hby d1_44) rfl rfl  ?_
  refine Go.iconst X0 hx (hb hby d1_45) rfl (5 : Int32) rfl ?_
  refine Go.icmpYes X0 hx (hb hby d1_46) rfl 53 (feq (by decide : ¬ ((8 : Int32) = (5 : Int32)))).2 (by decide) (by decide) ?_
  refine Go.iloadN X0 hx (hb hby d1_53) rfl rfl  ?_
  refine Go.bipush X0 hx (hb hby d1_54) rfl (6 : Int32) rfl ?_
  refine Go.icmpYes X0 hx (hb hby d1_56) rfl 63 (feq (by decide : ¬ ((8 : Int32) = (6 : Int32)))).2 (by decide) (by decide) ?_
  refine Go.iloadN X0 hx (hb hby d1_63) rfl rfl  ?_
  refine Go.bipush X0 hx (hb hby d1_64) rfl (7 : Int32) rfl ?_
  refine Go.icmpYes X0 hx (hb hby d1_66) rfl 73 (feq (by decide : ¬ ((8 : Int32) = (7 : Int32)))).2 (by decide) (by decide) ?_
  refine Go.getS X0 hx hZ hown (host := "") (Or.inl (wd 60 rfl)) Via.refl e0 ((ff_S_OVERDUE_REMINDER FF).ext O0.2) (hb hby d1_73) rfl ?_
  intro T1 X1 e1
  exact Go.retA X1 hx hret hlk rfl rfl (hb hby d1_76) rfl ⟨rfl, rfl, e1⟩ (Nat.le_of_ble_eq_true rfl) (Nat.le_of_ble_eq_true rfl)
set_option maxRecDepth 65536 in
set_option maxHeartbeats 40000000 in
theorem sp2_32 (l : Launch) (Z : State) (a0 : Array Value) (hw : ∀ d ∈ tables_1, d.before a0 Z = true) (a_TERMINATION : Addr) (a_TERMINATED : Addr) (a_LIMIT_WARNING : Addr) (a_SUSPEND_WARNING : Addr) (a_TERMINATE_WARNING : Addr) (a_TERMINATE_WARNING' : Addr) (a_TERMINATED' : Addr) (a_LIMITATION : Addr) (a_LIMITED : Addr) (a_SUSPENSION : Addr) (a_SUSPENDED : Addr) (a_DUE_REMINDER : Addr) (a_DUE_REMINDER' : Addr) (a_SUSPEND_WARNING' : Addr) (a_SUSPENDED' : Addr) (a_OVERDUE_REMINDER : Addr) (a_OVERDUE_REMINDER' : Addr) (a_LATE_FEE : Addr) (a_LIMIT_WARNING' : Addr) (a_LIMITED' : Addr) (a_TERMINATION_label : Addr) (a_LIMITATION_label : Addr) (a_SUSPENSION_label : Addr)  (h0 : Heap) (O0 : Old Z Z.heap.size h0) (FF : Facts Z a_TERMINATION a_TERMINATED a_LIMIT_WARNING a_SUSPEND_WARNING a_TERMINATE_WARNING a_TERMINATE_WARNING' a_TERMINATED' a_LIMITATION a_LIMITED a_SUSPENSION a_SUSPENDED a_DUE_REMINDER a_DUE_REMINDER' a_SUSPEND_WARNING' a_SUSPENDED' a_OVERDUE_REMINDER a_OVERDUE_REMINDER' a_LATE_FEE a_LIMIT_WARNING' a_LIMITED' a_TERMINATION_label a_LIMITATION_label a_SUSPENSION_label) : Pur l Z (⟨"com/example/careful_invoicing/carefulinvoicing/CollectionStep", "isWarning", "()Z"⟩ : MethodName) prog_3_method_9_code 1 (some .boolean) 0 0 #[(.ref a_OVERDUE_REMINDER)] h0 (some (.int (0 : Int32))) := by
  refine Ctr.of (plainFor_of_name pn_2) ?_
  have wd : ∀ {d : Jvm.Cond} (i : Nat), tables_1[i]? = some d → d.before a0 Z = true := fun i q => hw _ (List.mem_of_getElem? q)
  intro p e s m below meth c s₁ hx hby hml hown hnm hret hlk hZ X0 e0
  refine Go.cast (ef_2 m a_OVERDUE_REMINDER) ?_
  show Go p e below _ s₁ (mkF m 0 #[.val (.ref a_OVERDUE_REMINDER)] [])
  refine Go.aloadN X0 hx (hb hby d2_0) rfl rfl rfl ?_
  refine Go.getF X0 hx hZ hown (host := "") (Or.inl (wd 13 rfl)) Via.refl e0 ((ff_F_OVERDUE_REMINDER_warned FF).ext O0.2) (hb hby d2_1) rfl ?_
  intro T1 X1 e1
  refine Go.ifnullYes X1 hx (hb hby d2_4) rfl 11 (by decide) (by decide) ?_
  refine Go.iconst X1 hx (hb hby d2_11) rfl (0 : Int32) rfl ?_
  exact Go.retZ X1 hx (z' := (0 : Int32)) hret hlk (hb hby d2_12) rfl (by decide) ⟨rfl, rfl, e1⟩ (Nat.le_of_ble_eq_true rfl) (Nat.le_of_ble_eq_true rfl)
set_option maxRecDepth 65536 in
set_option maxHeartbeats 40000000 in
theorem sp3_33 (l : Launch) (Z : State) (a0 : Array Value) (hw : ∀ d ∈ tables_1, d.before a0 Z = true) (a_TERMINATION : Addr) (a_TERMINATED : Addr) (a_LIMIT_WARNING : Addr) (a_SUSPEND_WARNING : Addr) (a_TERMINATE_WARNING : Addr) (a_TERMINATE_WARNING' : Addr) (a_TERMINATED' : Addr) (a_LIMITATION : Addr) (a_LIMITED : Addr) (a_SUSPENSION : Addr) (a_SUSPENDED : Addr) (a_DUE_REMINDER : Addr) (a_DUE_REMINDER' : Addr) (a_SUSPEND_WARNING' : Addr) (a_SUSPENDED' : Addr) (a_OVERDUE_REMINDER : Addr) (a_OVERDUE_REMINDER' : Addr) (a_LATE_FEE : Addr) (a_LIMIT_WARNING' : Addr) (a_LIMITED' : Addr) (a_TERMINATION_label : Addr) (a_LIMITATION_label : Addr) (a_SUSPENSION_label : Addr)  (h0 : Heap) (O0 : Old Z Z.heap.size h0) (FF : Facts Z a_TERMINATION a_TERMINATED a_LIMIT_WARNING a_SUSPEND_WARNING a_TERMINATE_WARNING a_TERMINATE_WARNING' a_TERMINATED' a_LIMITATION a_LIMITED a_SUSPENSION a_SUSPENDED a_DUE_REMINDER a_DUE_REMINDER' a_SUSPEND_WARNING' a_SUSPENDED' a_OVERDUE_REMINDER a_OVERDUE_REMINDER' a_LATE_FEE a_LIMIT_WARNING' a_LIMITED' a_TERMINATION_label a_LIMITATION_label a_SUSPENSION_label) : Pur l Z (⟨"com/example/careful_invoicing/carefulinvoicing/CollectionStep", "notice", "()Lcom/example/careful_invoicing/carefulinvoicing/NoticeKind;"⟩ : MethodName) prog_3_method_7_code 1 (some (.object "com/example/careful_invoicing/carefulinvoicing/NoticeKind")) 0 0 #[(.ref a_OVERDUE_REMINDER)] h0 (some (.ref a_OVERDUE_REMINDER')) := by
  refine Ctr.of (plainFor_of_name pn_2) ?_
  have wd : ∀ {d : Jvm.Cond} (i : Nat), tables_1[i]? = some d → d.before a0 Z = true := fun i q => hw _ (List.mem_of_getElem? q)
  intro p e s m below meth c s₁ hx hby hml hown hnm hret hlk hZ X0 e0
  refine Go.cast (ef_3 m a_OVERDUE_REMINDER) ?_
  show Go p e below _ s₁ (mkF m 0 #[.val (.ref a_OVERDUE_REMINDER)] [])
  refine Go.aloadN X0 hx (hb hby d3_0) rfl rfl rfl ?_
  refine Go.getF X0 hx hZ hown (host := "") (Or.inl (wd 20 rfl)) Via.refl e0 ((ff_F_OVERDUE_REMINDER_notice FF).ext O0.2) (hb hby d3_1) rfl ?_
  intro T1 X1 e1
  exact Go.retA X1 hx hret hlk rfl rfl (hb hby d3_4) rfl ⟨rfl, rfl, e1⟩ (Nat.le_of_ble_eq_true rfl) (Nat.le_of_ble_eq_true rfl)
set_option maxRecDepth 65536 in
set_option maxHeartbeats 40000000 in
theorem rm0 (l : Launch) (Z : State) (a0 : Array Value) (hw : ∀ d ∈ tables_1, d.before a0 Z = true) (x0 : Int32) (a_TERMINATION : Addr) (a_TERMINATED : Addr) (a_LIMIT_WARNING : Addr) (a_SUSPEND_WARNING : Addr) (a_TERMINATE_WARNING : Addr) (a_TERMINATE_WARNING' : Addr) (a_TERMINATED' : Addr) (a_LIMITATION : Addr) (a_LIMITED : Addr) (a_SUSPENSION : Addr) (a_SUSPENDED : Addr) (a_DUE_REMINDER : Addr) (a_DUE_REMINDER' : Addr) (a_SUSPEND_WARNING' : Addr) (a_SUSPENDED' : Addr) (a_OVERDUE_REMINDER : Addr) (a_OVERDUE_REMINDER' : Addr) (a_LATE_FEE : Addr) (a_LIMIT_WARNING' : Addr) (a_LIMITED' : Addr) (a_TERMINATION_label : Addr) (a_LIMITATION_label : Addr) (a_SUSPENSION_label : Addr) (FF : Facts Z a_TERMINATION a_TERMINATED a_LIMIT_WARNING a_SUSPEND_WARNING a_TERMINATE_WARNING a_TERMINATE_WARNING' a_TERMINATED' a_LIMITATION a_LIMITED a_SUSPENSION a_SUSPENDED a_DUE_REMINDER a_DUE_REMINDER' a_SUSPEND_WARNING' a_SUSPENDED' a_OVERDUE_REMINDER a_OVERDUE_REMINDER' a_LATE_FEE a_LIMIT_WARNING' a_LIMITED' a_TERMINATION_label a_LIMITATION_label a_SUSPENSION_label) : Ctr l Z x code maxLocals ret room_1 #[(.int x0)] Z.heap (fun v h L => v = some (.int 1) ∧ Fr Z.heap.size L) := by
  refine Ctr.of (plainFor_of_name pn_0) ?_
  have wd : ∀ {d : Jvm.Cond} (i : Nat), tables_1[i]? = some d → d.before a0 Z = true := fun i q => hw _ (List.mem_of_getElem? q)
  intro p e s m below meth c s₁ hx hby hml hown hnm hret hlk hZ X0 e0
  have hown : s.vm.findClass "com/example/careful_invoicing/carefulinvoicing/CollectionStepIsWarningPinLaw" = some m.cls := hown
  have O0 := Old.start Z
  refine Go.cast (ef_0 m x0) ?_
  show Go p e below _ s₁ (mkF m 0 #[.val (.int x0), .unset, .unset, .unset, .unset, .unset, .unset, .unset] [])
  refine Go.iloadN X0 hx (hb hby at_0) rfl rfl  ?_
  refine Go.ldc X0 hx hZ hown (wd 0 rfl) (hb hby at_1) rfl ?_
  refine Go.iand X0 hx (hb hby at_3) rfl ?_
  refine Go.bipush X0 hx (hb hby at_4) rfl (9 : Int32) rfl ?_
  refine Go.irem X0 hx (hb hby at_6) rfl (by decide) ?_
  refine Go.istoreN X0 hx (hb hby at_7) rfl  #[.val (.int x0), .val (.int ((x0 &&& (2147483647 : Int32)) % (9 : Int32))), .unset, .unset, .unset, .unset, .unset, .unset] rfl ?_
  rcases own_rem9 x0 with hk | hk | hk | hk | hk | hk | hk | hk | hk
  · rw [hk]
    refine Go.iloadN X0 hx (hb hby at_8) rfl rfl  ?_
    refine Go.pureS X0 hx hZ hown (wd 1 rfl) (wd 2 rfl) (wd 3 rfl) (wd 4 rfl) (by decide) [(.int (0 : Int32))] [] (sp1_1 l Z a0 hw a_TERMINATION a_TERMINATED a_LIMIT_WARNING a_SUSPEND_WARNING a_TERMINATE_WARNING a_TERMINATE_WARNING' a_TERMINATED' a_LIMITATION a_LIMITED a_SUSPENSION a_SUSPENDED a_DUE_REMINDER a_DUE_REMINDER' a_SUSPEND_WARNING' a_SUSPENDED' a_OVERDUE_REMINDER a_OVERDUE_REMINDER' a_LATE_FEE a_LIMIT_WARNING' a_LIMITED' a_TERMINATION_label a_LIMITATION_label a_SUSPENSION_label  Z.heap O0 FF) e0 rfl (by rw [hml]; rfl) pd_0 rfl (hb hby at_9) (Nat.le_of_ble_eq_true rfl) (Nat.le_of_ble_eq_true rfl) (Nat.le_of_ble_eq_true rfl) (Nat.le_of_ble_eq_true rfl) ?_
    intro T1 X1 e1
    refine Go.astoreN X1 hx (hb hby at_12) rfl rfl #[.val (.int x0), .val (.int (0 : Int32)), .val (.ref a_TERMINATION), .unset, .unset, .unset, .unset, .unset] rfl ?_
    refine Go.aloadN X1 hx (hb hby at_13) rfl rfl rfl ?_
    refine Go.pureV X1 hx hZ hown (wd 8 rfl) (wd 9 rfl) (notFace_of_selects (args := #[]) (mvT hZ (wd 11 rfl))) (wd 11 rfl) (wd 10 rfl) (wd 6 rfl) (wd 12 rfl) (by decide) [] [] ((ff_E_TERMINATION FF).ext O0.2) (sp2_2 l Z a0 hw a_TERMINATION a_TERMINATED a_LIMIT_WARNING a_SUSPEND_WARNING a_TERMINATE_WARNING a_TERMINATE_WARNING' a_TERMINATED' a_LIMITATION a_LIMITED a_SUSPENSION a_SUSPENDED a_DUE_REMINDER a_DUE_REMINDER' a_SUSPEND_WARNING' a_SUSPENDED' a_OVERDUE_REMINDER a_OVERDUE_REMINDER' a_LATE_FEE a_LIMIT_WARNING' a_LIMITED' a_TERMINATION_label a_LIMITATION_label a_SUSPENSION_label  Z.heap O0 FF) e1 rfl (by rw [hml]; rfl) pd_1 rfl (hb hby at_14) (Nat.le_of_ble_eq_true rfl) (Nat.le_of_ble_eq_true rfl) (Nat.le_of_ble_eq_true rfl) (Nat.le_of_ble_eq_true rfl) ?_
    intro T2 X2 e2
    refine Go.istoreN X2 hx (hb hby at_17) rfl  #[.val (.int x0), .val (.int (0 : Int32)), .val (.ref a_TERMINATION), .val (.int (0 : Int32)), .unset, .unset, .unset, .unset] rfl ?_
    refine Go.iloadN X2 hx (hb hby at_18) rfl rfl  ?_
    refine Go.iconst X2 hx (hb hby at_19) rfl (3 : Int32) rfl ?_
    refine Go.icmpYes X2 hx (hb hby at_20) rfl 32 (tlt (by decide : (0 : Int32) < (3 : Int32))).1 (by decide) (by decide) ?_
    refine Go.iconst X2 hx (hb hby at_32) rfl (0 : Int32) rfl ?_
    refine Go.istore X2 hx (hb hby at_33) rfl  #[.val (.int x0), .val (.int (0 : Int32)), .val (.ref a_TERMINATION), .val (.int (0 : Int32)), .val (.int (0 : Int32)), .unset, .unset, .unset] rfl ?_
    refine Go.aloadN X2 hx (hb hby at_35) rfl rfl rfl ?_
    refine Go.pureV X2 hx hZ hown (wd 15 rfl) (wd 16 rfl) (notFace_of_selects (args := #[]) (mvT hZ (wd 18 rfl))) (wd 18 rfl) (wd 17 rfl) (wd 6 rfl) (wd 19 rfl) (by decide) [] [] ((ff_E_TERMINATION FF).ext O0.2) (sp3_3 l Z a0 hw a_TERMINATION a_TERMINATED a_LIMIT_WARNING a_SUSPEND_WARNING a_TERMINATE_WARNING a_TERMINATE_WARNING' a_TERMINATED' a_LIMITATION a_LIMITED a_SUSPENSION a_SUSPENDED a_DUE_REMINDER a_DUE_REMINDER' a_SUSPEND_WARNING' a_SUSPENDED' a_OVERDUE_REMINDER a_OVERDUE_REMINDER' a_LATE_FEE a_LIMIT_WARNING' a_LIMITED' a_TERMINATION_label a_LIMITATION_label a_SUSPENSION_label  Z.heap O0 FF) e2 rfl (by rw [hml]; rfl) pd_2 rfl (hb hby at_36) (Nat.le_of_ble_eq_true rfl) (Nat.le_of_ble_eq_true rfl) (Nat.le_of_ble_eq_true rfl) (Nat.le_of_ble_eq_true rfl) ?_
    intro T3 X3 e3
    refine Go.astore X3 hx (hb hby at_39) rfl rfl #[.val (.int x0), .val (.int (0 : Int32)), .val (.ref a_TERMINATION), .val (.int (0 : Int32)), .val (.int (0 : Int32)), .val (.ref a_TERMINATED), .unset, .unset] rfl ?_
    refine Go.aload X3 hx (hb hby at_41) rfl rfl rfl ?_
    refine Go.getS X3 hx hZ hown (host := "") (Or.inl (wd 24 rfl)) Via.refl e3 ((ff_S_LIMIT_WARNING FF).ext O0.2) (hb hby at_43) rfl ?_
    intro T4 X4 e4
    refine Go.acmp X4 hx (hb hby at_46) rfl rfl rfl false (decide_eq_false fun q => (ff_ne_TERMINATED_LIMIT_WARNING FF) (Value.ref.inj q)) 49 (by decide) (by decide) ?_
    refine Go.aload X4 hx (hb hby at_49) rfl rfl rfl ?_
    refine Go.getS X4 hx hZ hown (host := "") (Or.inl (wd 26 rfl)) Via.refl e4 ((ff_S_SUSPEND_WARNING FF).ext O0.2) (hb hby at_51) rfl ?_
    intro T5 X5 e5
    refine Go.acmp X5 hx (hb hby at_54) rfl rfl rfl false (decide_eq_false fun q => (ff_ne_TERMINATED_SUSPEND_WARNING FF) (Value.ref.inj q)) 57 (by decide) (by decide) ?_
    refine Go.aload X5 hx (hb hby at_57) rfl rfl rfl ?_
    refine Go.getS X5 hx hZ hown (host := "") (Or.inl (wd 28 rfl)) Via.refl e5 ((ff_S_TERMINATE_WARNING FF).ext O0.2) (hb hby at_59) rfl ?_
    intro T6 X6 e6
    refine Go.acmp X6 hx (hb hby at_62) rfl rfl rfl false (decide_eq_false fun q => (ff_ne_TERMINATED_TERMINATE_WARNING FF) (Value.ref.inj q)) 69 (by decide) (by decide) ?_
    refine Go.iconst X6 hx (hb hby at_69) rfl (0 : Int32) rfl ?_
    refine Go.istore X6 hx (hb hby at_70) rfl  #[.val (.int x0), .val (.int (0 : Int32)), .val (.ref a_TERMINATION), .val (.int (0 : Int32)), .val (.int (0 : Int32)), .val (.ref a_TERMINATED), .val (.int (0 : Int32)), .unset] rfl ?_
    refine Go.iloadN X6 hx (hb hby at_72) rfl rfl  ?_
    refine Go.ifYes X6 hx (hb hby at_73) rfl 90 ((if0 _ _).trans (teq (by decide : (0 : Int32) = (0 : Int32))).1) (by decide) (by decide) ?_
    refine Go.iconst X6 hx (hb hby at_90) rfl (1 : Int32) rfl ?_
    refine Go.goto X6 hx (hb hby at_91) rfl 95 (by decide) (by decide) ?_
    refine Go.istore X6 hx (hb hby at_95) rfl  #[.val (.int x0), .val (.int (0 : Int32)), .val (.ref a_TERMINATION), .val (.int (0 : Int32)), .val (.int (0 : Int32)), .val (.ref a_TERMINATED), .val (.int (0 : Int32)), .val (.int (1 : Int32))] rfl ?_
    refine Go.iloadN X6 hx (hb hby at_97) rfl rfl  ?_
    refine Go.iload X6 hx (hb hby at_98) rfl rfl  ?_
    refine Go.icmpNo X6 hx (hb hby at_100) rfl (teq (by decide : (0 : Int32) = (0 : Int32))).2 ?_
    refine Go.iloadN X6 hx (hb hby at_103) rfl rfl  ?_
    refine Go.iload X6 hx (hb hby at_104) rfl rfl  ?_
    refine Go.icmpNo X6 hx (hb hby at_106) rfl (teq (by decide : (0 : Int32) = (0 : Int32))).2 ?_
    refine Go.iload X6 hx (hb hby at_109) rfl rfl  ?_
    refine Go.ifNo X6 hx (hb hby at_111) rfl ((if0 _ _).trans (feq (by decide : ¬ ((1 : Int32) = (0 : Int32)))).1) ?_
    refine Go.iconst X6 hx (hb hby at_114) rfl (1 : Int32) rfl ?_
    refine Go.goto X6 hx (hb hby at_115) rfl 119 (by decide) (by decide) ?_
    exact Go.retZ X6 hx (z' := (1 : Int32)) hret hlk (hb hby at_119) rfl (by decide) ⟨by first | rfl | simp [], (Fr.nil _)⟩ (Nat.le_of_ble_eq_true rfl) (Nat.le_of_ble_eq_true rfl)
  · rw [hk]
    refine Go.iloadN X0 hx (hb hby at_8) rfl rfl  ?_
    refine Go.pureS X0 hx hZ hown (wd 1 rfl) (wd 2 rfl) (wd 3 rfl) (wd 4 rfl) (by decide) [(.int (1 : Int32))] [] (sp1_4 l Z a0 hw a_TERMINATION a_TERMINATED a_LIMIT_WARNING a_SUSPEND_WARNING a_TERMINATE_WARNING a_TERMINATE_WARNING' a_TERMINATED' a_LIMITATION a_LIMITED a_SUSPENSION a_SUSPENDED a_DUE_REMINDER a_DUE_REMINDER' a_SUSPEND_WARNING' a_SUSPENDED' a_OVERDUE_REMINDER a_OVERDUE_REMINDER' a_LATE_FEE a_LIMIT_WARNING' a_LIMITED' a_TERMINATION_label a_LIMITATION_label a_SUSPENSION_label  Z.heap O0 FF) e0 rfl (by rw [hml]; rfl) pd_0 rfl (hb hby at_9) (Nat.le_of_ble_eq_true rfl) (Nat.le_of_ble_eq_true rfl) (Nat.le_of_ble_eq_true rfl) (Nat.le_of_ble_eq_true rfl) ?_
    intro T7 X7 e7
    refine Go.astoreN X7 hx (hb hby at_12) rfl rfl #[.val (.int x0), .val (.int (1 : Int32)), .val (.ref a_SUSPENSION), .unset, .unset, .unset, .unset, .unset] rfl ?_
    refine Go.aloadN X7 hx (hb hby at_13) rfl rfl rfl ?_
    refine Go.pureV X7 hx hZ hown (wd 8 rfl) (wd 9 rfl) (notFace_of_selects (args := #[]) (mvT hZ (wd 11 rfl))) (wd 11 rfl) (wd 10 rfl) (wd 6 rfl) (wd 12 rfl) (by decide) [] [] ((ff_E_SUSPENSION FF).ext O0.2) (sp2_5 l Z a0 hw a_TERMINATION a_TERMINATED a_LIMIT_WARNING a_SUSPEND_WARNING a_TERMINATE_WARNING a_TERMINATE_WARNING' a_TERMINATED' a_LIMITATION a_LIMITED a_SUSPENSION a_SUSPENDED a_DUE_REMINDER a_DUE_REMINDER' a_SUSPEND_WARNING' a_SUSPENDED' a_OVERDUE_REMINDER a_OVERDUE_REMINDER' a_LATE_FEE a_LIMIT_WARNING' a_LIMITED' a_TERMINATION_label a_LIMITATION_label a_SUSPENSION_label  Z.heap O0 FF) e7 rfl (by rw [hml]; rfl) pd_1 rfl (hb hby at_14) (Nat.le_of_ble_eq_true rfl) (Nat.le_of_ble_eq_true rfl) (Nat.le_of_ble_eq_true rfl) (Nat.le_of_ble_eq_true rfl) ?_
    intro T8 X8 e8
    refine Go.istoreN X8 hx (hb hby at_17) rfl  #[.val (.int x0), .val (.int (1 : Int32)), .val (.ref a_SUSPENSION), .val (.int (0 : Int32)), .unset, .unset, .unset, .unset] rfl ?_
    refine Go.iloadN X8 hx (hb hby at_18) rfl rfl  ?_
    refine Go.iconst X8 hx (hb hby at_19) rfl (3 : Int32) rfl ?_
    refine Go.icmpYes X8 hx (hb hby at_20) rfl 32 (tlt (by decide : (1 : Int32) < (3 : Int32))).1 (by decide) (by decide) ?_
    refine Go.iconst X8 hx (hb hby at_32) rfl (0 : Int32) rfl ?_
    refine Go.istore X8 hx (hb hby at_33) rfl  #[.val (.int x0), .val (.int (1 : Int32)), .val (.ref a_SUSPENSION), .val (.int (0 : Int32)), .val (.int (0 : Int32)), .unset, .unset, .unset] rfl ?_
    refine Go.aloadN X8 hx (hb hby at_35) rfl rfl rfl ?_
    refine Go.pureV X8 hx hZ hown (wd 15 rfl) (wd 16 rfl) (notFace_of_selects (args := #[]) (mvT hZ (wd 18 rfl))) (wd 18 rfl) (wd 17 rfl) (wd 6 rfl) (wd 19 rfl) (by decide) [] [] ((ff_E_SUSPENSION FF).ext O0.2) (sp3_6 l Z a0 hw a_TERMINATION a_TERMINATED a_LIMIT_WARNING a_SUSPEND_WARNING a_TERMINATE_WARNING a_TERMINATE_WARNING' a_TERMINATED' a_LIMITATION a_LIMITED a_SUSPENSION a_SUSPENDED a_DUE_REMINDER a_DUE_REMINDER' a_SUSPEND_WARNING' a_SUSPENDED' a_OVERDUE_REMINDER a_OVERDUE_REMINDER' a_LATE_FEE a_LIMIT_WARNING' a_LIMITED' a_TERMINATION_label a_LIMITATION_label a_SUSPENSION_label  Z.heap O0 FF) e8 rfl (by rw [hml]; rfl) pd_2 rfl (hb hby at_36) (Nat.le_of_ble_eq_true rfl) (Nat.le_of_ble_eq_true rfl) (Nat.le_of_ble_eq_true rfl) (Nat.le_of_ble_eq_true rfl) ?_
    intro T9 X9 e9
    refine Go.astore X9 hx (hb hby at_39) rfl rfl #[.val (.int x0), .val (.int (1 : Int32)), .val (.ref a_SUSPENSION), .val (.int (0 : Int32)), .val (.int (0 : Int32)), .val (.ref a_SUSPENDED), .unset, .unset] rfl ?_
    refine Go.aload X9 hx (hb hby at_41) rfl rfl rfl ?_
    refine Go.getS X9 hx hZ hown (host := "") (Or.inl (wd 24 rfl)) Via.refl e9 ((ff_S_LIMIT_WARNING FF).ext O0.2) (hb hby at_43) rfl ?_
    intro T10 X10 e10
    refine Go.acmp X10 hx (hb hby at_46) rfl rfl rfl false (decide_eq_false fun q => (Ne.symm (ff_ne_LIMIT_WARNING_SUSPENDED FF)) (Value.ref.inj q)) 49 (by decide) (by decide) ?_
    refine Go.aload X10 hx (hb hby at_49) rfl rfl rfl ?_
    refine Go.getS X10 hx hZ hown (host := "") (Or.inl (wd 26 rfl)) Via.refl e10 ((ff_S_SUSPEND_WARNING FF).ext O0.2) (hb hby at_51) rfl ?_
    intro T11 X11 e11
    refine Go.acmp X11 hx (hb hby at_54) rfl rfl rfl false (decide_eq_false fun q => (Ne.symm (ff_ne_SUSPEND_WARNING_SUSPENDED FF)) (Value.ref.inj q)) 57 (by decide) (by decide) ?_
    refine Go.aload X11 hx (hb hby at_57) rfl rfl rfl ?_
    refine Go.getS X11 hx hZ hown (host := "") (Or.inl (wd 28 rfl)) Via.refl e11 ((ff_S_TERMINATE_WARNING FF).ext O0.2) (hb hby at_59) rfl ?_
    intro T12 X12 e12
    refine Go.acmp X12 hx (hb hby at_62) rfl rfl rfl false (decide_eq_false fun q => (Ne.symm (ff_ne_TERMINATE_WARNING_SUSPENDED FF)) (Value.ref.inj q)) 69 (by decide) (by decide) ?_
    refine Go.iconst X12 hx (hb hby at_69) rfl (0 : Int32) rfl ?_
    refine Go.istore X12 hx (hb hby at_70) rfl  #[.val (.int x0), .val (.int (1 : Int32)), .val (.ref a_SUSPENSION), .val (.int (0 : Int32)), .val (.int (0 : Int32)), .val (.ref a_SUSPENDED), .val (.int (0 : Int32)), .unset] rfl ?_
    refine Go.iloadN X12 hx (hb hby at_72) rfl rfl  ?_
    refine Go.ifYes X12 hx (hb hby at_73) rfl 90 ((if0 _ _).trans (teq (by decide : (0 : Int32) = (0 : Int32))).1) (by decide) (by decide) ?_
    refine Go.iconst X12 hx (hb hby at_90) rfl (1 : Int32) rfl ?_
    refine Go.goto X12 hx (hb hby at_91) rfl 95 (by decide) (by decide) ?_
    refine Go.istore X12 hx (hb hby at_95) rfl  #[.val (.int x0), .val (.int (1 : Int32)), .val (.ref a_SUSPENSION), .val (.int (0 : Int32)), .val (.int (0 : Int32)), .val (.ref a_SUSPENDED), .val (.int (0 : Int32)), .val (.int (1 : Int32))] rfl ?_
    refine Go.iloadN X12 hx (hb hby at_97) rfl rfl  ?_
    refine Go.iload X12 hx (hb hby at_98) rfl rfl  ?_
    refine Go.icmpNo X12 hx (hb hby at_100) rfl (teq (by decide : (0 : Int32) = (0 : Int32))).2 ?_
    refine Go.iloadN X12 hx (hb hby at_103) rfl rfl  ?_
    refine Go.iload X12 hx (hb hby at_104) rfl rfl  ?_
    refine Go.icmpNo X12 hx (hb hby at_106) rfl (teq (by decide : (0 : Int32) = (0 : Int32))).2 ?_
    refine Go.iload X12 hx (hb hby at_109) rfl rfl  ?_
    refine Go.ifNo X12 hx (hb hby at_111) rfl ((if0 _ _).trans (feq (by decide : ¬ ((1 : Int32) = (0 : Int32)))).1) ?_
    refine Go.iconst X12 hx (hb hby at_114) rfl (1 : Int32) rfl ?_
    refine Go.goto X12 hx (hb hby at_115) rfl 119 (by decide) (by decide) ?_
    exact Go.retZ X12 hx (z' := (1 : Int32)) hret hlk (hb hby at_119) rfl (by decide) ⟨by first | rfl | simp [], (Fr.nil _)⟩ (Nat.le_of_ble_eq_true rfl) (Nat.le_of_ble_eq_true rfl)
  · rw [hk]
    refine Go.iloadN X0 hx (hb hby at_8) rfl rfl  ?_
    refine Go.pureS X0 hx hZ hown (wd 1 rfl) (wd 2 rfl) (wd 3 rfl) (wd 4 rfl) (by decide) [(.int (2 : Int32))] [] (sp1_7 l Z a0 hw a_TERMINATION a_TERMINATED a_LIMIT_WARNING a_SUSPEND_WARNING a_TERMINATE_WARNING a_TERMINATE_WARNING' a_TERMINATED' a_LIMITATION a_LIMITED a_SUSPENSION a_SUSPENDED a_DUE_REMINDER a_DUE_REMINDER' a_SUSPEND_WARNING' a_SUSPENDED' a_OVERDUE_REMINDER a_OVERDUE_REMINDER' a_LATE_FEE a_LIMIT_WARNING' a_LIMITED' a_TERMINATION_label a_LIMITATION_label a_SUSPENSION_label  Z.heap O0 FF) e0 rfl (by rw [hml]; rfl) pd_0 rfl (hb hby at_9) (Nat.le_of_ble_eq_true rfl) (Nat.le_of_ble_eq_true rfl) (Nat.le_of_ble_eq_true rfl) (Nat.le_of_ble_eq_true rfl) ?_
    intro T13 X13 e13
    refine Go.astoreN X13 hx (hb hby at_12) rfl rfl #[.val (.int x0), .val (.int (2 : Int32)), .val (.ref a_LIMITATION), .unset, .unset, .unset, .unset, .unset] rfl ?_
    refine Go.aloadN X13 hx (hb hby at_13) rfl rfl rfl ?_
    refine Go.pureV X13 hx hZ hown (wd 8 rfl) (wd 9 rfl) (notFace_of_selects (args := #[]) (mvT hZ (wd 11 rfl))) (wd 11 rfl) (wd 10 rfl) (wd 6 rfl) (wd 12 rfl) (by decide) [] [] ((ff_E_LIMITATION FF).ext O0.2) (sp2_8 l Z a0 hw a_TERMINATION a_TERMINATED a_LIMIT_WARNING a_SUSPEND_WARNING a_TERMINATE_WARNING a_TERMINATE_WARNING' a_TERMINATED' a_LIMITATION a_LIMITED a_SUSPENSION a_SUSPENDED a_DUE_REMINDER a_DUE_REMINDER' a_SUSPEND_WARNING' a_SUSPENDED' a_OVERDUE_REMINDER a_OVERDUE_REMINDER' a_LATE_FEE a_LIMIT_WARNING' a_LIMITED' a_TERMINATION_label a_LIMITATION_label a_SUSPENSION_label  Z.heap O0 FF) e13 rfl (by rw [hml]; rfl) pd_1 rfl (hb hby at_14) (Nat.le_of_ble_eq_true rfl) (Nat.le_of_ble_eq_true rfl) (Nat.le_of_ble_eq_true rfl) (Nat.le_of_ble_eq_true rfl) ?_
    intro T14 X14 e14
    refine Go.istoreN X14 hx (hb hby at_17) rfl  #[.val (.int x0), .val (.int (2 : Int32)), .val (.ref a_LIMITATION), .val (.int (0 : Int32)), .unset, .unset, .unset, .unset] rfl ?_
    refine Go.iloadN X14 hx (hb hby at_18) rfl rfl  ?_
    refine Go.iconst X14 hx (hb hby at_19) rfl (3 : Int32) rfl ?_
    refine Go.icmpYes X14 hx (hb hby at_20) rfl 32 (tlt (by decide : (2 : Int32) < (3 : Int32))).1 (by decide) (by decide) ?_
    refine Go.iconst X14 hx (hb hby at_32) rfl (0 : Int32) rfl ?_
    refine Go.istore X14 hx (hb hby at_33) rfl  #[.val (.int x0), .val (.int (2 : Int32)), .val (.ref a_LIMITATION), .val (.int (0 : Int32)), .val (.int (0 : Int32)), .unset, .unset, .unset] rfl ?_
    refine Go.aloadN X14 hx (hb hby at_35) rfl rfl rfl ?_
    refine Go.pureV X14 hx hZ hown (wd 15 rfl) (wd 16 rfl) (notFace_of_selects (args := #[]) (mvT hZ (wd 18 rfl))) (wd 18 rfl) (wd 17 rfl) (wd 6 rfl) (wd 19 rfl) (by decide) [] [] ((ff_E_LIMITATION FF).ext O0.2) (sp3_9 l Z a0 hw a_TERMINATION a_TERMINATED a_LIMIT_WARNING a_SUSPEND_WARNING a_TERMINATE_WARNING a_TERMINATE_WARNING' a_TERMINATED' a_LIMITATION a_LIMITED a_SUSPENSION a_SUSPENDED a_DUE_REMINDER a_DUE_REMINDER' a_SUSPEND_WARNING' a_SUSPENDED' a_OVERDUE_REMINDER a_OVERDUE_REMINDER' a_LATE_FEE a_LIMIT_WARNING' a_LIMITED' a_TERMINATION_label a_LIMITATION_label a_SUSPENSION_label  Z.heap O0 FF) e14 rfl (by rw [hml]; rfl) pd_2 rfl (hb hby at_36) (Nat.le_of_ble_eq_true rfl) (Nat.le_of_ble_eq_true rfl) (Nat.le_of_ble_eq_true rfl) (Nat.le_of_ble_eq_true rfl) ?_
    intro T15 X15 e15
    refine Go.astore X15 hx (hb hby at_39) rfl rfl #[.val (.int x0), .val (.int (2 : Int32)), .val (.ref a_LIMITATION), .val (.int (0 : Int32)), .val (.int (0 : Int32)), .val (.ref a_LIMITED), .unset, .unset] rfl ?_
    refine Go.aload X15 hx (hb hby at_41) rfl rfl rfl ?_
    refine Go.getS X15 hx hZ hown (host := "") (Or.inl (wd 24 rfl)) Via.refl e15 ((ff_S_LIMIT_WARNING FF).ext O0.2) (hb hby at_43) rfl ?_
    intro T16 X16 e16
    refine Go.acmp X16 hx (hb hby at_46) rfl rfl rfl false (decide_eq_false fun q => (Ne.symm (ff_ne_LIMIT_WARNING_LIMITED FF)) (Value.ref.inj q)) 49 (by decide) (by decide) ?_
    refine Go.aload X16 hx (hb hby at_49) rfl rfl rfl ?_
    refine Go.getS X16 hx hZ hown (host := "") (Or.inl (wd 26 rfl)) Via.refl e16 ((ff_S_SUSPEND_WARNING FF).ext O0.2) (hb hby at_51) rfl ?_
    intro T17 X17 e17
    refine Go.acmp X17 hx (hb hby at_54) rfl rfl rfl false (decide_eq_false fun q => (Ne.symm (ff_ne_SUSPEND_WARNING_LIMITED FF)) (Value.ref.inj q)) 57 (by decide) (by decide) ?_
    refine Go.aload X17 hx (hb hby at_57) rfl rfl rfl ?_
    refine Go.getS X17 hx hZ hown (host := "") (Or.inl (wd 28 rfl)) Via.refl e17 ((ff_S_TERMINATE_WARNING FF).ext O0.2) (hb hby at_59) rfl ?_
    intro T18 X18 e18
    refine Go.acmp X18 hx (hb hby at_62) rfl rfl rfl false (decide_eq_false fun q => (Ne.symm (ff_ne_TERMINATE_WARNING_LIMITED FF)) (Value.ref.inj q)) 69 (by decide) (by decide) ?_
    refine Go.iconst X18 hx (hb hby at_69) rfl (0 : Int32) rfl ?_
    refine Go.istore X18 hx (hb hby at_70) rfl  #[.val (.int x0), .val (.int (2 : Int32)), .val (.ref a_LIMITATION), .val (.int (0 : Int32)), .val (.int (0 : Int32)), .val (.ref a_LIMITED), .val (.int (0 : Int32)), .unset] rfl ?_
    refine Go.iloadN X18 hx (hb hby at_72) rfl rfl  ?_
    refine Go.ifYes X18 hx (hb hby at_73) rfl 90 ((if0 _ _).trans (teq (by decide : (0 : Int32) = (0 : Int32))).1) (by decide) (by decide) ?_
    refine Go.iconst X18 hx (hb hby at_90) rfl (1 : Int32) rfl ?_
    refine Go.goto X18 hx (hb hby at_91) rfl 95 (by decide) (by decide) ?_
    refine Go.istore X18 hx (hb hby at_95) rfl  #[.val (.int x0), .val (.int (2 : Int32)), .val (.ref a_LIMITATION), .val (.int (0 : Int32)), .val (.int (0 : Int32)), .val (.ref a_LIMITED), .val (.int (0 : Int32)), .val (.int (1 : Int32))] rfl ?_
    refine Go.iloadN X18 hx (hb hby at_97) rfl rfl  ?_
    refine Go.iload X18 hx (hb hby at_98) rfl rfl  ?_
    refine Go.icmpNo X18 hx (hb hby at_100) rfl (teq (by decide : (0 : Int32) = (0 : Int32))).2 ?_
    refine Go.iloadN X18 hx (hb hby at_103) rfl rfl  ?_
    refine Go.iload X18 hx (hb hby at_104) rfl rfl  ?_
    refine Go.icmpNo X18 hx (hb hby at_106) rfl (teq (by decide : (0 : Int32) = (0 : Int32))).2 ?_
    refine Go.iload X18 hx (hb hby at_109) rfl rfl  ?_
    refine Go.ifNo X18 hx (hb hby at_111) rfl ((if0 _ _).trans (feq (by decide : ¬ ((1 : Int32) = (0 : Int32)))).1) ?_
    refine Go.iconst X18 hx (hb hby at_114) rfl (1 : Int32) rfl ?_
    refine Go.goto X18 hx (hb hby at_115) rfl 119 (by decide) (by decide) ?_
    exact Go.retZ X18 hx (z' := (1 : Int32)) hret hlk (hb hby at_119) rfl (by decide) ⟨by first | rfl | simp [], (Fr.nil _)⟩ (Nat.le_of_ble_eq_true rfl) (Nat.le_of_ble_eq_true rfl)
  · rw [hk]
    refine Go.iloadN X0 hx (hb hby at_8) rfl rfl  ?_
    refine Go.pureS X0 hx hZ hown (wd 1 rfl) (wd 2 rfl) (wd 3 rfl) (wd 4 rfl) (by decide) [(.int (3 : Int32))] [] (sp1_10 l Z a0 hw a_TERMINATION a_TERMINATED a_LIMIT_WARNING a_SUSPEND_WARNING a_TERMINATE_WARNING a_TERMINATE_WARNING' a_TERMINATED' a_LIMITATION a_LIMITED a_SUSPENSION a_SUSPENDED a_DUE_REMINDER a_DUE_REMINDER' a_SUSPEND_WARNING' a_SUSPENDED' a_OVERDUE_REMINDER a_OVERDUE_REMINDER' a_LATE_FEE a_LIMIT_WARNING' a_LIMITED' a_TERMINATION_label a_LIMITATION_label a_SUSPENSION_label  Z.heap O0 FF) e0 rfl (by rw [hml]; rfl) pd_0 rfl (hb hby at_9) (Nat.le_of_ble_eq_true rfl) (Nat.le_of_ble_eq_true rfl) (Nat.le_of_ble_eq_true rfl) (Nat.le_of_ble_eq_true rfl) ?_
    intro T19 X19 e19
    refine Go.astoreN X19 hx (hb hby at_12) rfl rfl #[.val (.int x0), .val (.int (3 : Int32)), .val (.ref a_TERMINATE_WARNING'), .unset, .unset, .unset, .unset, .unset] rfl ?_
    refine Go.aloadN X19 hx (hb hby at_13) rfl rfl rfl ?_
    refine Go.pureV X19 hx hZ hown (wd 8 rfl) (wd 9 rfl) (notFace_of_selects (args := #[]) (mvT hZ (wd 11 rfl))) (wd 11 rfl) (wd 10 rfl) (wd 6 rfl) (wd 12 rfl) (by decide) [] [] ((ff_E_TERMINATE_WARNING' FF).ext O0.2) (sp2_11 l Z a0 hw a_TERMINATION a_TERMINATED a_LIMIT_WARNING a_SUSPEND_WARNING a_TERMINATE_WARNING a_TERMINATE_WARNING' a_TERMINATED' a_LIMITATION a_LIMITED a_SUSPENSION a_SUSPENDED a_DUE_REMINDER a_DUE_REMINDER' a_SUSPEND_WARNING' a_SUSPENDED' a_OVERDUE_REMINDER a_OVERDUE_REMINDER' a_LATE_FEE a_LIMIT_WARNING' a_LIMITED' a_TERMINATION_label a_LIMITATION_label a_SUSPENSION_label  Z.heap O0 FF) e19 rfl (by rw [hml]; rfl) pd_1 rfl (hb hby at_14) (Nat.le_of_ble_eq_true rfl) (Nat.le_of_ble_eq_true rfl) (Nat.le_of_ble_eq_true rfl) (Nat.le_of_ble_eq_true rfl) ?_
    intro T20 X20 e20
    refine Go.istoreN X20 hx (hb hby at_17) rfl  #[.val (.int x0), .val (.int (3 : Int32)), .val (.ref a_TERMINATE_WARNING'), .val (.int (1 : Int32)), .unset, .unset, .unset, .unset] rfl ?_
    refine Go.iloadN X20 hx (hb hby at_18) rfl rfl  ?_
    refine Go.iconst X20 hx (hb hby at_19) rfl (3 : Int32) rfl ?_
    refine Go.icmpNo X20 hx (hb hby at_20) rfl (flt (by decide : ¬ ((3 : Int32) < (3 : Int32)))).1 ?_
    refine Go.iloadN X20 hx (hb hby at_23) rfl rfl  ?_
    refine Go.iconst X20 hx (hb hby at_24) rfl (5 : Int32) rfl ?_
    refine Go.icmpNo X20 hx (hb hby at_25) rfl (flt (by decide : ¬ ((5 : Int32) < (3 : Int32)))).2.2.1 ?_
    refine Go.iconst X20 hx (hb hby at_28) rfl (1 : Int32) rfl ?_
    refine Go.goto X20 hx (hb hby at_29) rfl 33 (by decide) (by decide) ?_
    refine Go.istore X20 hx (hb hby at_33) rfl  #[.val (.int x0), .val (.int (3 : Int32)), .val (.ref a_TERMINATE_WARNING'), .val (.int (1 : Int32)), .val (.int (1 : Int32)), .unset, .unset, .unset] rfl ?_
    refine Go.aloadN X20 hx (hb hby at_35) rfl rfl rfl ?_
    refine Go.pureV X20 hx hZ hown (wd 15 rfl) (wd 16 rfl) (notFace_of_selects (args := #[]) (mvT hZ (wd 18 rfl))) (wd 18 rfl) (wd 17 rfl) (wd 6 rfl) (wd 19 rfl) (by decide) [] [] ((ff_E_TERMINATE_WARNING' FF).ext O0.2) (sp3_12 l Z a0 hw a_TERMINATION a_TERMINATED a_LIMIT_WARNING a_SUSPEND_WARNING a_TERMINATE_WARNING a_TERMINATE_WARNING' a_TERMINATED' a_LIMITATION a_LIMITED a_SUSPENSION a_SUSPENDED a_DUE_REMINDER a_DUE_REMINDER' a_SUSPEND_WARNING' a_SUSPENDED' a_OVERDUE_REMINDER a_OVERDUE_REMINDER' a_LATE_FEE a_LIMIT_WARNING' a_LIMITED' a_TERMINATION_label a_LIMITATION_label a_SUSPENSION_label  Z.heap O0 FF) e20 rfl (by rw [hml]; rfl) pd_2 rfl (hb hby at_36) (Nat.le_of_ble_eq_true rfl) (Nat.le_of_ble_eq_true rfl) (Nat.le_of_ble_eq_true rfl) (Nat.le_of_ble_eq_true rfl) ?_
    intro T21 X21 e21
    refine Go.astore X21 hx (hb hby at_39) rfl rfl #[.val (.int x0), .val (.int (3 : Int32)), .val (.ref a_TERMINATE_WARNING'), .val (.int (1 : Int32)), .val (.int (1 : Int32)), .val (.ref a_TERMINATE_WARNING), .unset, .unset] rfl ?_
    refine Go.aload X21 hx (hb hby at_41) rfl rfl rfl ?_
    refine Go.getS X21 hx hZ hown (host := "") (Or.inl (wd 24 rfl)) Via.refl e21 ((ff_S_LIMIT_WARNING FF).ext O0.2) (hb hby at_43) rfl ?_
    intro T22 X22 e22
    refine Go.acmp X22 hx (hb hby at_46) rfl rfl rfl false (decide_eq_false fun q => (Ne.symm (ff_ne_LIMIT_WARNING_TERMINATE_WARNING FF)) (Value.ref.inj q)) 49 (by decide) (by decide) ?_
    refine Go.aload X22 hx (hb hby at_49) rfl rfl rfl ?_
    refine Go.getS X22 hx hZ hown (host := "") (Or.inl (wd 26 rfl)) Via.refl e22 ((ff_S_SUSPEND_WARNING FF).ext O0.2) (hb hby at_51) rfl ?_
    intro T23 X23 e23
    refine Go.acmp X23 hx (hb hby at_54) rfl rfl rfl false (decide_eq_false fun q => (Ne.symm (ff_ne_SUSPEND_WARNING_TERMINATE_WARNING FF)) (Value.ref.inj q)) 57 (by decide) (by decide) ?_
    refine Go.aload X23 hx (hb hby at_57) rfl rfl rfl ?_
    refine Go.getS X23 hx hZ hown (host := "") (Or.inl (wd 28 rfl)) Via.refl e23 ((ff_S_TERMINATE_WARNING FF).ext O0.2) (hb hby at_59) rfl ?_
    intro T24 X24 e24
    refine Go.acmp X24 hx (hb hby at_62) rfl rfl rfl true (decide_eq_true rfl) 65 (by decide) (by decide) ?_
    refine Go.iconst X24 hx (hb hby at_65) rfl (1 : Int32) rfl ?_
    refine Go.goto X24 hx (hb hby at_66) rfl 70 (by decide) (by decide) ?_
    refine Go.istore X24 hx (hb hby at_70) rfl  #[.val (.int x0), .val (.int (3 : Int32)), .val (.ref a_TERMINATE_WARNING'), .val (.int (1 : Int32)), .val (.int (1 : Int32)), .val (.ref a_TERMINATE_WARNING), .val (.int (1 : Int32)), .unset] rfl ?_
    refine Go.iloadN X24 hx (hb hby at_72) rfl rfl  ?_
    refine Go.ifNo X24 hx (hb hby at_73) rfl ((if0 _ _).trans (feq (by decide : ¬ ((1 : Int32) = (0 : Int32)))).1) ?_
    refine Go.aloadN X24 hx (hb hby at_76) rfl rfl rfl ?_
    refine Go.pureV X24 hx hZ hown (wd 32 rfl) (wd 33 rfl) (notFace_of_selects (args := #[]) (mvT hZ (wd 35 rfl))) (wd 35 rfl) (wd 34 rfl) (wd 6 rfl) (wd 36 rfl) (by decide) [] [] ((ff_E_TERMINATE_WARNING' FF).ext O0.2) (sp4_13 l Z a0 hw a_TERMINATION a_TERMINATED a_LIMIT_WARNING a_SUSPEND_WARNING a_TERMINATE_WARNING a_TERMINATE_WARNING' a_TERMINATED' a_LIMITATION a_LIMITED a_SUSPENSION a_SUSPENDED a_DUE_REMINDER a_DUE_REMINDER' a_SUSPEND_WARNING' a_SUSPENDED' a_OVERDUE_REMINDER a_OVERDUE_REMINDER' a_LATE_FEE a_LIMIT_WARNING' a_LIMITED' a_TERMINATION_label a_LIMITATION_label a_SUSPENSION_label  Z.heap O0 FF) e24 rfl (by rw [hml]; rfl) pd_1 rfl (hb hby at_77) (Nat.le_of_ble_eq_true rfl) (Nat.le_of_ble_eq_true rfl) (Nat.le_of_ble_eq_true rfl) (Nat.le_of_ble_eq_true rfl) ?_
    intro T25 X25 e25
    refine Go.ifNo X25 hx (hb hby at_80) rfl ((if0 _ _).trans (teq (by decide : (0 : Int32) = (0 : Int32))).2) ?_
    refine Go.aloadN X25 hx (hb hby at_83) rfl rfl rfl ?_
    refine Go.pureV X25 hx hZ hown (wd 39 rfl) (wd 40 rfl) (notFace_of_selects (args := #[]) (mvT hZ (wd 42 rfl))) (wd 42 rfl) (wd 41 rfl) (wd 6 rfl) (wd 43 rfl) (by decide) [] [] ((ff_E_TERMINATE_WARNING' FF).ext O0.2) (sp5_14 l Z a0 hw a_TERMINATION a_TERMINATED a_LIMIT_WARNING a_SUSPEND_WARNING a_TERMINATE_WARNING a_TERMINATE_WARNING' a_TERMINATED' a_LIMITATION a_LIMITED a_SUSPENSION a_SUSPENDED a_DUE_REMINDER a_DUE_REMINDER' a_SUSPEND_WARNING' a_SUSPENDED' a_OVERDUE_REMINDER a_OVERDUE_REMINDER' a_LATE_FEE a_LIMIT_WARNING' a_LIMITED' a_TERMINATION_label a_LIMITATION_label a_SUSPENSION_label  Z.heap O0 FF) e25 rfl (by rw [hml]; rfl) pd_3 rfl (hb hby at_84) (Nat.le_of_ble_eq_true rfl) (Nat.le_of_ble_eq_true rfl) (Nat.le_of_ble_eq_true rfl) (Nat.le_of_ble_eq_true rfl) ?_
    intro T26 X26 e26
    refine Go.ifnullNo X26 hx (hb hby at_87) rfl ?_
    refine Go.iconst X26 hx (hb hby at_90) rfl (1 : Int32) rfl ?_
    refine Go.goto X26 hx (hb hby at_91) rfl 95 (by decide) (by decide) ?_
    refine Go.istore X26 hx (hb hby at_95) rfl  #[.val (.int x0), .val (.int (3 : Int32)), .val (.ref a_TERMINATE_WARNING'), .val (.int (1 : Int32)), .val (.int (1 : Int32)), .val (.ref a_TERMINATE_WARNING), .val (.int (1 : Int32)), .val (.int (1 : Int32))] rfl ?_
    refine Go.iloadN X26 hx (hb hby at_97) rfl rfl  ?_
    refine Go.iload X26 hx (hb hby at_98) rfl rfl  ?_
    refine Go.icmpNo X26 hx (hb hby at_100) rfl (teq (by decide : (1 : Int32) = (1 : Int32))).2 ?_
    refine Go.iloadN X26 hx (hb hby at_103) rfl rfl  ?_
    refine Go.iload X26 hx (hb hby at_104) rfl rfl  ?_
    refine Go.icmpNo X26 hx (hb hby at_106) rfl (teq (by decide : (1 : Int32) = (1 : Int32))).2 ?_
    refine Go.iload X26 hx (hb hby at_109) rfl rfl  ?_
    refine Go.ifNo X26 hx (hb hby at_111) rfl ((if0 _ _).trans (feq (by decide : ¬ ((1 : Int32) = (0 : Int32)))).1) ?_
    refine Go.iconst X26 hx (hb hby at_114) rfl (1 : Int32) rfl ?_
    refine Go.goto X26 hx (hb hby at_115) rfl 119 (by decide) (by decide) ?_
    exact Go.retZ X26 hx (z' := (1 : Int32)) hret hlk (hb hby at_119) rfl (by decide) ⟨by first | rfl | simp [], (Fr.nil _)⟩ (Nat.le_of_ble_eq_true rfl) (Nat.le_of_ble_eq_true rfl)
  · rw [hk]
    refine Go.iloadN X0 hx (hb hby at_8) rfl rfl  ?_
    refine Go.pureS X0 hx hZ hown (wd 1 rfl) (wd 2 rfl) (wd 3 rfl) (wd 4 rfl) (by decide) [(.int (4 : Int32))] [] (sp1_15 l Z a0 hw a_TERMINATION a_TERMINATED a_LIMIT_WARNING a_SUSPEND_WARNING a_TERMINATE_WARNING a_TERMINATE_WARNING' a_TERMINATED' a_LIMITATION a_LIMITED a_SUSPENSION a_SUSPENDED a_DUE_REMINDER a_DUE_REMINDER' a_SUSPEND_WARNING' a_SUSPENDED' a_OVERDUE_REMINDER a_OVERDUE_REMINDER' a_LATE_FEE a_LIMIT_WARNING' a_LIMITED' a_TERMINATION_label a_LIMITATION_label a_SUSPENSION_label  Z.heap O0 FF) e0 rfl (by rw [hml]; rfl) pd_0 rfl (hb hby at_9) (Nat.le_of_ble_eq_true rfl) (Nat.le_of_ble_eq_true rfl) (Nat.le_of_ble_eq_true rfl) (Nat.le_of_ble_eq_true rfl) ?_
    intro T27 X27 e27
    refine Go.astoreN X27 hx (hb hby at_12) rfl rfl #[.val (.int x0), .val (.int (4 : Int32)), .val (.ref a_SUSPEND_WARNING'), .unset, .unset, .unset, .unset, .unset] rfl ?_
    refine Go.aloadN X27 hx (hb hby at_13) rfl rfl rfl ?_
    refine Go.pureV X27 hx hZ hown (wd 8 rfl) (wd 9 rfl) (notFace_of_selects (args := #[]) (mvT hZ (wd 11 rfl))) (wd 11 rfl) (wd 10 rfl) (wd 6 rfl) (wd 12 rfl) (by decide) [] [] ((ff_E_SUSPEND_WARNING' FF).ext O0.2) (sp2_16 l Z a0 hw a_TERMINATION a_TERMINATED a_LIMIT_WARNING a_SUSPEND_WARNING a_TERMINATE_WARNING a_TERMINATE_WARNING' a_TERMINATED' a_LIMITATION a_LIMITED a_SUSPENSION a_SUSPENDED a_DUE_REMINDER a_DUE_REMINDER' a_SUSPEND_WARNING' a_SUSPENDED' a_OVERDUE_REMINDER a_OVERDUE_REMINDER' a_LATE_FEE a_LIMIT_WARNING' a_LIMITED' a_TERMINATION_label a_LIMITATION_label a_SUSPENSION_label  Z.heap O0 FF) e27 rfl (by rw [hml]; rfl) pd_1 rfl (hb hby at_14) (Nat.le_of_ble_eq_true rfl) (Nat.le_of_ble_eq_true rfl) (Nat.le_of_ble_eq_true rfl) (Nat.le_of_ble_eq_true rfl) ?_
    intro T28 X28 e28
    refine Go.istoreN X28 hx (hb hby at_17) rfl  #[.val (.int x0), .val (.int (4 : Int32)), .val (.ref a_SUSPEND_WARNING'), .val (.int (1 : Int32)), .unset, .unset, .unset, .unset] rfl ?_
    refine Go.iloadN X28 hx (hb hby at_18) rfl rfl  ?_
    refine Go.iconst X28 hx (hb hby at_19) rfl (3 : Int32) rfl ?_
    refine Go.icmpNo X28 hx (hb hby at_20) rfl (flt (by decide : ¬ ((4 : Int32) < (3 : Int32)))).1 ?_
    refine Go.iloadN X28 hx (hb hby at_23) rfl rfl  ?_
    refine Go.iconst X28 hx (hb hby at_24) rfl (5 : Int32) rfl ?_
    refine Go.icmpNo X28 hx (hb hby at_25) rfl (flt (by decide : ¬ ((5 : Int32) < (4 : Int32)))).2.2.1 ?_
    refine Go.iconst X28 hx (hb hby at_28) rfl (1 : Int32) rfl ?_
    refine Go.goto X28 hx (hb hby at_29) rfl 33 (by decide) (by decide) ?_
    refine Go.istore X28 hx (hb hby at_33) rfl  #[.val (.int x0), .val (.int (4 : Int32)), .val (.ref a_SUSPEND_WARNING'), .val (.int (1 : Int32)), .val (.int (1 : Int32)), .unset, .unset, .unset] rfl ?_
    refine Go.aloadN X28 hx (hb hby at_35) rfl rfl rfl ?_
    refine Go.pureV X28 hx hZ hown (wd 15 rfl) (wd 16 rfl) (notFace_of_selects (args := #[]) (mvT hZ (wd 18 rfl))) (wd 18 rfl) (wd 17 rfl) (wd 6 rfl) (wd 19 rfl) (by decide) [] [] ((ff_E_SUSPEND_WARNING' FF).ext O0.2) (sp3_17 l Z a0 hw a_TERMINATION a_TERMINATED a_LIMIT_WARNING a_SUSPEND_WARNING a_TERMINATE_WARNING a_TERMINATE_WARNING' a_TERMINATED' a_LIMITATION a_LIMITED a_SUSPENSION a_SUSPENDED a_DUE_REMINDER a_DUE_REMINDER' a_SUSPEND_WARNING' a_SUSPENDED' a_OVERDUE_REMINDER a_OVERDUE_REMINDER' a_LATE_FEE a_LIMIT_WARNING' a_LIMITED' a_TERMINATION_label a_LIMITATION_label a_SUSPENSION_label  Z.heap O0 FF) e28 rfl (by rw [hml]; rfl) pd_2 rfl (hb hby at_36) (Nat.le_of_ble_eq_true rfl) (Nat.le_of_ble_eq_true rfl) (Nat.le_of_ble_eq_true rfl) (Nat.le_of_ble_eq_true rfl) ?_
    intro T29 X29 e29
    refine Go.astore X29 hx (hb hby at_39) rfl rfl #[.val (.int x0), .val (.int (4 : Int32)), .val (.ref a_SUSPEND_WARNING'), .val (.int (1 : Int32)), .val (.int (1 : Int32)), .val (.ref a_SUSPEND_WARNING), .unset, .unset] rfl ?_
    refine Go.aload X29 hx (hb hby at_41) rfl rfl rfl ?_
    refine Go.getS X29 hx hZ hown (host := "") (Or.inl (wd 24 rfl)) Via.refl e29 ((ff_S_LIMIT_WARNING FF).ext O0.2) (hb hby at_43) rfl ?_
    intro T30 X30 e30
    refine Go.acmp X30 hx (hb hby at_46) rfl rfl rfl false (decide_eq_false fun q => (Ne.symm (ff_ne_LIMIT_WARNING_SUSPEND_WARNING FF)) (Value.ref.inj q)) 49 (by decide) (by decide) ?_
    refine Go.aload X30 hx (hb hby at_49) rfl rfl rfl ?_
    refine Go.getS X30 hx hZ hown (host := "") (Or.inl (wd 26 rfl)) Via.refl e30 ((ff_S_SUSPEND_WARNING FF).ext O0.2) (hb hby at_51) rfl ?_
    intro T31 X31 e31
    refine Go.acmp X31 hx (hb hby at_54) rfl rfl rfl true (decide_eq_true rfl) 65 (by decide) (by decide) ?_
    refine Go.iconst X31 hx (hb hby at_65) rfl (1 : Int32) rfl ?_
    refine Go.goto X31 hx (hb hby at_66) rfl 70 (by decide) (by decide) ?_
    refine Go.istore X31 hx (hb hby at_70) rfl  #[.val (.int x0), .val (.int (4 : Int32)), .val (.ref a_SUSPEND_WARNING'), .val (.int (1 : Int32)), .val (.int (1 : Int32)), .val (.ref a_SUSPEND_WARNING), .val (.int (1 : Int32)), .unset] rfl ?_
    refine Go.iloadN X31 hx (hb hby at_72) rfl rfl  ?_
    refine Go.ifNo X31 hx (hb hby at_73) rfl ((if0 _ _).trans (feq (by decide : ¬ ((1 : Int32) = (0 : Int32)))).1) ?_
    refine Go.aloadN X31 hx (hb hby at_76) rfl rfl rfl ?_
    refine Go.pureV X31 hx hZ hown (wd 32 rfl) (wd 33 rfl) (notFace_of_selects (args := #[]) (mvT hZ (wd 35 rfl))) (wd 35 rfl) (wd 34 rfl) (wd 6 rfl) (wd 36 rfl) (by decide) [] [] ((ff_E_SUSPEND_WARNING' FF).ext O0.2) (sp4_18 l Z a0 hw a_TERMINATION a_TERMINATED a_LIMIT_WARNING a_SUSPEND_WARNING a_TERMINATE_WARNING a_TERMINATE_WARNING' a_TERMINATED' a_LIMITATION a_LIMITED a_SUSPENSION a_SUSPENDED a_DUE_REMINDER a_DUE_REMINDER' a_SUSPEND_WARNING' a_SUSPENDED' a_OVERDUE_REMINDER a_OVERDUE_REMINDER' a_LATE_FEE a_LIMIT_WARNING' a_LIMITED' a_TERMINATION_label a_LIMITATION_label a_SUSPENSION_label  Z.heap O0 FF) e31 rfl (by rw [hml]; rfl) pd_1 rfl (hb hby at_77) (Nat.le_of_ble_eq_true rfl) (Nat.le_of_ble_eq_true rfl) (Nat.le_of_ble_eq_true rfl) (Nat.le_of_ble_eq_true rfl) ?_
    intro T32 X32 e32
    refine Go.ifNo X32 hx (hb hby at_80) rfl ((if0 _ _).trans (teq (by decide : (0 : Int32) = (0 : Int32))).2) ?_
    refine Go.aloadN X32 hx (hb hby at_83) rfl rfl rfl ?_
    refine Go.pureV X32 hx hZ hown (wd 39 rfl) (wd 40 rfl) (notFace_of_selects (args := #[]) (mvT hZ (wd 42 rfl))) (wd 42 rfl) (wd 41 rfl) (wd 6 rfl) (wd 43 rfl) (by decide) [] [] ((ff_E_SUSPEND_WARNING' FF).ext O0.2) (sp5_19 l Z a0 hw a_TERMINATION a_TERMINATED a_LIMIT_WARNING a_SUSPEND_WARNING a_TERMINATE_WARNING a_TERMINATE_WARNING' a_TERMINATED' a_LIMITATION a_LIMITED a_SUSPENSION a_SUSPENDED a_DUE_REMINDER a_DUE_REMINDER' a_SUSPEND_WARNING' a_SUSPENDED' a_OVERDUE_REMINDER a_OVERDUE_REMINDER' a_LATE_FEE a_LIMIT_WARNING' a_LIMITED' a_TERMINATION_label a_LIMITATION_label a_SUSPENSION_label  Z.heap O0 FF) e32 rfl (by rw [hml]; rfl) pd_3 rfl (hb hby at_84) (Nat.le_of_ble_eq_true rfl) (Nat.le_of_ble_eq_true rfl) (Nat.le_of_ble_eq_true rfl) (Nat.le_of_ble_eq_true rfl) ?_
    intro T33 X33 e33
    refine Go.ifnullNo X33 hx (hb hby at_87) rfl ?_
    refine Go.iconst X33 hx (hb hby at_90) rfl (1 : Int32) rfl ?_
    refine Go.goto X33 hx (hb hby at_91) rfl 95 (by decide) (by decide) ?_
    refine Go.istore X33 hx (hb hby at_95) rfl  #[.val (.int x0), .val (.int (4 : Int32)), .val (.ref a_SUSPEND_WARNING'), .val (.int (1 : Int32)), .val (.int (1 : Int32)), .val (.ref a_SUSPEND_WARNING), .val (.int (1 : Int32)), .val (.int (1 : Int32))] rfl ?_
    refine Go.iloadN X33 hx (hb hby at_97) rfl rfl  ?_
    refine Go.iload X33 hx (hb hby at_98) rfl rfl  ?_
    refine Go.icmpNo X33 hx (hb hby at_100) rfl (teq (by decide : (1 : Int32) = (1 : Int32))).2 ?_
    refine Go.iloadN X33 hx (hb hby at_103) rfl rfl  ?_
    refine Go.iload X33 hx (hb hby at_104) rfl rfl  ?_
    refine Go.icmpNo X33 hx (hb hby at_106) rfl (teq (by decide : (1 : Int32) = (1 : Int32))).2 ?_
    refine Go.iload X33 hx (hb hby at_109) rfl rfl  ?_
    refine Go.ifNo X33 hx (hb hby at_111) rfl ((if0 _ _).trans (feq (by decide : ¬ ((1 : Int32) = (0 : Int32)))).1) ?_
    refine Go.iconst X33 hx (hb hby at_114) rfl (1 : Int32) rfl ?_
    refine Go.goto X33 hx (hb hby at_115) rfl 119 (by decide) (by decide) ?_
    exact Go.retZ X33 hx (z' := (1 : Int32)) hret hlk (hb hby at_119) rfl (by decide) ⟨by first | rfl | simp [], (Fr.nil _)⟩ (Nat.le_of_ble_eq_true rfl) (Nat.le_of_ble_eq_true rfl)
  · rw [hk]
    refine Go.iloadN X0 hx (hb hby at_8) rfl rfl  ?_
    refine Go.pureS X0 hx hZ hown (wd 1 rfl) (wd 2 rfl) (wd 3 rfl) (wd 4 rfl) (by decide) [(.int (5 : Int32))] [] (sp1_20 l Z a0 hw a_TERMINATION a_TERMINATED a_LIMIT_WARNING a_SUSPEND_WARNING a_TERMINATE_WARNING a_TERMINATE_WARNING' a_TERMINATED' a_LIMITATION a_LIMITED a_SUSPENSION a_SUSPENDED a_DUE_REMINDER a_DUE_REMINDER' a_SUSPEND_WARNING' a_SUSPENDED' a_OVERDUE_REMINDER a_OVERDUE_REMINDER' a_LATE_FEE a_LIMIT_WARNING' a_LIMITED' a_TERMINATION_label a_LIMITATION_label a_SUSPENSION_label  Z.heap O0 FF) e0 rfl (by rw [hml]; rfl) pd_0 rfl (hb hby at_9) (Nat.le_of_ble_eq_true rfl) (Nat.le_of_ble_eq_true rfl) (Nat.le_of_ble_eq_true rfl) (Nat.le_of_ble_eq_true rfl) ?_
    intro T34 X34 e34
    refine Go.astoreN X34 hx (hb hby at_12) rfl rfl #[.val (.int x0), .val (.int (5 : Int32)), .val (.ref a_LIMIT_WARNING'), .unset, .unset, .unset, .unset, .unset] rfl ?_
    refine Go.aloadN X34 hx (hb hby at_13) rfl rfl rfl ?_
    refine Go.pureV X34 hx hZ hown (wd 8 rfl) (wd 9 rfl) (notFace_of_selects (args := #[]) (mvT hZ (wd 11 rfl))) (wd 11 rfl) (wd 10 rfl) (wd 6 rfl) (wd 12 rfl) (by decide) [] [] ((ff_E_LIMIT_WARNING' FF).ext O0.2) (sp2_21 l Z a0 hw a_TERMINATION a_TERMINATED a_LIMIT_WARNING a_SUSPEND_WARNING a_TERMINATE_WARNING a_TERMINATE_WARNING' a_TERMINATED' a_LIMITATION a_LIMITED a_SUSPENSION a_SUSPENDED a_DUE_REMINDER a_DUE_REMINDER' a_SUSPEND_WARNING' a_SUSPENDED' a_OVERDUE_REMINDER a_OVERDUE_REMINDER' a_LATE_FEE a_LIMIT_WARNING' a_LIMITED' a_TERMINATION_label a_LIMITATION_label a_SUSPENSION_label  Z.heap O0 FF) e34 rfl (by rw [hml]; rfl) pd_1 rfl (hb hby at_14) (Nat.le_of_ble_eq_true rfl) (Nat.le_of_ble_eq_true rfl) (Nat.le_of_ble_eq_true rfl) (Nat.le_of_ble_eq_true rfl) ?_
    intro T35 X35 e35
    refine Go.istoreN X35 hx (hb hby at_17) rfl  #[.val (.int x0), .val (.int (5 : Int32)), .val (.ref a_LIMIT_WARNING'), .val (.int (1 : Int32)), .unset, .unset, .unset, .unset] rfl ?_
    refine Go.iloadN X35 hx (hb hby at_18) rfl rfl  ?_
    refine Go.iconst X35 hx (hb hby at_19) rfl (3 : Int32) rfl ?_
    refine Go.icmpNo X35 hx (hb hby at_20) rfl (flt (by decide : ¬ ((5 : Int32) < (3 : Int32)))).1 ?_
    refine Go.iloadN X35 hx (hb hby at_23) rfl rfl  ?_
    refine Go.iconst X35 hx (hb hby at_24) rfl (5 : Int32) rfl ?_
    refine Go.icmpNo X35 hx (hb hby at_25) rfl (flt (by decide : ¬ ((5 : Int32) < (5 : Int32)))).2.2.1 ?_
    refine Go.iconst X35 hx (hb hby at_28) rfl (1 : Int32) rfl ?_
    refine Go.goto X35 hx (hb hby at_29) rfl 33 (by decide) (by decide) ?_
    refine Go.istore X35 hx (hb hby at_33) rfl  #[.val (.int x0), .val (.int (5 : Int32)), .val (.ref a_LIMIT_WARNING'), .val (.int (1 : Int32)), .val (.int (1 : Int32)), .unset, .unset, .unset] rfl ?_
    refine Go.aloadN X35 hx (hb hby at_35) rfl rfl rfl ?_
    refine Go.pureV X35 hx hZ hown (wd 15 rfl) (wd 16 rfl) (notFace_of_selects (args := #[]) (mvT hZ (wd 18 rfl))) (wd 18 rfl) (wd 17 rfl) (wd 6 rfl) (wd 19 rfl) (by decide) [] [] ((ff_E_LIMIT_WARNING' FF).ext O0.2) (sp3_22 l Z a0 hw a_TERMINATION a_TERMINATED a_LIMIT_WARNING a_SUSPEND_WARNING a_TERMINATE_WARNING a_TERMINATE_WARNING' a_TERMINATED' a_LIMITATION a_LIMITED a_SUSPENSION a_SUSPENDED a_DUE_REMINDER a_DUE_REMINDER' a_SUSPEND_WARNING' a_SUSPENDED' a_OVERDUE_REMINDER a_OVERDUE_REMINDER' a_LATE_FEE a_LIMIT_WARNING' a_LIMITED' a_TERMINATION_label a_LIMITATION_label a_SUSPENSION_label  Z.heap O0 FF) e35 rfl (by rw [hml]; rfl) pd_2 rfl (hb hby at_36) (Nat.le_of_ble_eq_true rfl) (Nat.le_of_ble_eq_true rfl) (Nat.le_of_ble_eq_true rfl) (Nat.le_of_ble_eq_true rfl) ?_
    intro T36 X36 e36
    refine Go.astore X36 hx (hb hby at_39) rfl rfl #[.val (.int x0), .val (.int (5 : Int32)), .val (.ref a_LIMIT_WARNING'), .val (.int (1 : Int32)), .val (.int (1 : Int32)), .val (.ref a_LIMIT_WARNING), .unset, .unset] rfl ?_
    refine Go.aload X36 hx (hb hby at_41) rfl rfl rfl ?_
    refine Go.getS X36 hx hZ hown (host := "") (Or.inl (wd 24 rfl)) Via.refl e36 ((ff_S_LIMIT_WARNING FF).ext O0.2) (hb hby at_43) rfl ?_
    intro T37 X37 e37
    refine Go.acmp X37 hx (hb hby at_46) rfl rfl rfl true (decide_eq_true rfl) 65 (by decide) (by decide) ?_
    refine Go.iconst X37 hx (hb hby at_65) rfl (1 : Int32) rfl ?_
    refine Go.goto X37 hx (hb hby at_66) rfl 70 (by decide) (by decide) ?_
    refine Go.istore X37 hx (hb hby at_70) rfl  #[.val (.int x0), .val (.int (5 : Int32)), .val (.ref a_LIMIT_WARNING'), .val (.int (1 : Int32)), .val (.int (1 : Int32)), .val (.ref a_LIMIT_WARNING), .val (.int (1 : Int32)), .unset] rfl ?_
    refine Go.iloadN X37 hx (hb hby at_72) rfl rfl  ?_
    refine Go.ifNo X37 hx (hb hby at_73) rfl ((if0 _ _).trans (feq (by decide : ¬ ((1 : Int32) = (0 : Int32)))).1) ?_
    refine Go.aloadN X37 hx (hb hby at_76) rfl rfl rfl ?_
    refine Go.pureV X37 hx hZ hown (wd 32 rfl) (wd 33 rfl) (notFace_of_selects (args := #[]) (mvT hZ (wd 35 rfl))) (wd 35 rfl) (wd 34 rfl) (wd 6 rfl) (wd 36 rfl) (by decide) [] [] ((ff_E_LIMIT_WARNING' FF).ext O0.2) (sp4_23 l Z a0 hw a_TERMINATION a_TERMINATED a_LIMIT_WARNING a_SUSPEND_WARNING a_TERMINATE_WARNING a_TERMINATE_WARNING' a_TERMINATED' a_LIMITATION a_LIMITED a_SUSPENSION a_SUSPENDED a_DUE_REMINDER a_DUE_REMINDER' a_SUSPEND_WARNING' a_SUSPENDED' a_OVERDUE_REMINDER a_OVERDUE_REMINDER' a_LATE_FEE a_LIMIT_WARNING' a_LIMITED' a_TERMINATION_label a_LIMITATION_label a_SUSPENSION_label  Z.heap O0 FF) e37 rfl (by rw [hml]; rfl) pd_1 rfl (hb hby at_77) (Nat.le_of_ble_eq_true rfl) (Nat.le_of_ble_eq_true rfl) (Nat.le_of_ble_eq_true rfl) (Nat.le_of_ble_eq_true rfl) ?_
    intro T38 X38 e38
    refine Go.ifNo X38 hx (hb hby at_80) rfl ((if0 _ _).trans (teq (by decide : (0 : Int32) = (0 : Int32))).2) ?_
    refine Go.aloadN X38 hx (hb hby at_83) rfl rfl rfl ?_
    refine Go.pureV X38 hx hZ hown (wd 39 rfl) (wd 40 rfl) (notFace_of_selects (args := #[]) (mvT hZ (wd 42 rfl))) (wd 42 rfl) (wd 41 rfl) (wd 6 rfl) (wd 43 rfl) (by decide) [] [] ((ff_E_LIMIT_WARNING' FF).ext O0.2) (sp5_24 l Z a0 hw a_TERMINATION a_TERMINATED a_LIMIT_WARNING a_SUSPEND_WARNING a_TERMINATE_WARNING a_TERMINATE_WARNING' a_TERMINATED' a_LIMITATION a_LIMITED a_SUSPENSION a_SUSPENDED a_DUE_REMINDER a_DUE_REMINDER' a_SUSPEND_WARNING' a_SUSPENDED' a_OVERDUE_REMINDER a_OVERDUE_REMINDER' a_LATE_FEE a_LIMIT_WARNING' a_LIMITED' a_TERMINATION_label a_LIMITATION_label a_SUSPENSION_label  Z.heap O0 FF) e38 rfl (by rw [hml]; rfl) pd_3 rfl (hb hby at_84) (Nat.le_of_ble_eq_true rfl) (Nat.le_of_ble_eq_true rfl) (Nat.le_of_ble_eq_true rfl) (Nat.le_of_ble_eq_true rfl) ?_
    intro T39 X39 e39
    refine Go.ifnullNo X39 hx (hb hby at_87) rfl ?_
    refine Go.iconst X39 hx (hb hby at_90) rfl (1 : Int32) rfl ?_
    refine Go.goto X39 hx (hb hby at_91) rfl 95 (by decide) (by decide) ?_
    refine Go.istore X39 hx (hb hby at_95) rfl  #[.val (.int x0), .val (.int (5 : Int32)), .val (.ref a_LIMIT_WARNING'), .val (.int (1 : Int32)), .val (.int (1 : Int32)), .val (.ref a_LIMIT_WARNING), .val (.int (1 : Int32)), .val (.int (1 : Int32))] rfl ?_
    refine Go.iloadN X39 hx (hb hby at_97) rfl rfl  ?_
    refine Go.iload X39 hx (hb hby at_98) rfl rfl  ?_
    refine Go.icmpNo X39 hx (hb hby at_100) rfl (teq (by decide : (1 : Int32) = (1 : Int32))).2 ?_
    refine Go.iloadN X39 hx (hb hby at_103) rfl rfl  ?_
    refine Go.iload X39 hx (hb hby at_104) rfl rfl  ?_
    refine Go.icmpNo X39 hx (hb hby at_106) rfl (teq (by decide : (1 : Int32) = (1 : Int32))).2 ?_
    refine Go.iload X39 hx (hb hby at_109) rfl rfl  ?_
    refine Go.ifNo X39 hx (hb hby at_111) rfl ((if0 _ _).trans (feq (by decide : ¬ ((1 : Int32) = (0 : Int32)))).1) ?_
    refine Go.iconst X39 hx (hb hby at_114) rfl (1 : Int32) rfl ?_
    refine Go.goto X39 hx (hb hby at_115) rfl 119 (by decide) (by decide) ?_
    exact Go.retZ X39 hx (z' := (1 : Int32)) hret hlk (hb hby at_119) rfl (by decide) ⟨by first | rfl | simp [], (Fr.nil _)⟩ (Nat.le_of_ble_eq_true rfl) (Nat.le_of_ble_eq_true rfl)
  · rw [hk]
    refine Go.iloadN X0 hx (hb hby at_8) rfl rfl  ?_
    refine Go.pureS X0 hx hZ hown (wd 1 rfl) (wd 2 rfl) (wd 3 rfl) (wd 4 rfl) (by decide) [(.int (6 : Int32))] [] (sp1_25 l Z a0 hw a_TERMINATION a_TERMINATED a_LIMIT_WARNING a_SUSPEND_WARNING a_TERMINATE_WARNING a_TERMINATE_WARNING' a_TERMINATED' a_LIMITATION a_LIMITED a_SUSPENSION a_SUSPENDED a_DUE_REMINDER a_DUE_REMINDER' a_SUSPEND_WARNING' a_SUSPENDED' a_OVERDUE_REMINDER a_OVERDUE_REMINDER' a_LATE_FEE a_LIMIT_WARNING' a_LIMITED' a_TERMINATION_label a_LIMITATION_label a_SUSPENSION_label  Z.heap O0 FF) e0 rfl (by rw [hml]; rfl) pd_0 rfl (hb hby at_9) (Nat.le_of_ble_eq_true rfl) (Nat.le_of_ble_eq_true rfl) (Nat.le_of_ble_eq_true rfl) (Nat.le_of_ble_eq_true rfl) ?_
    intro T40 X40 e40
    refine Go.astoreN X40 hx (hb hby at_12) rfl rfl #[.val (.int x0), .val (.int (6 : Int32)), .val (.ref a_LATE_FEE), .unset, .unset, .unset, .unset, .unset] rfl ?_
    refine Go.aloadN X40 hx (hb hby at_13) rfl rfl rfl ?_
    refine Go.pureV X40 hx hZ hown (wd 8 rfl) (wd 9 rfl) (notFace_of_selects (args := #[]) (mvT hZ (wd 11 rfl))) (wd 11 rfl) (wd 10 rfl) (wd 6 rfl) (wd 12 rfl) (by decide) [] [] ((ff_E_LATE_FEE FF).ext O0.2) (sp2_26 l Z a0 hw a_TERMINATION a_TERMINATED a_LIMIT_WARNING a_SUSPEND_WARNING a_TERMINATE_WARNING a_TERMINATE_WARNING' a_TERMINATED' a_LIMITATION a_LIMITED a_SUSPENSION a_SUSPENDED a_DUE_REMINDER a_DUE_REMINDER' a_SUSPEND_WARNING' a_SUSPENDED' a_OVERDUE_REMINDER a_OVERDUE_REMINDER' a_LATE_FEE a_LIMIT_WARNING' a_LIMITED' a_TERMINATION_label a_LIMITATION_label a_SUSPENSION_label  Z.heap O0 FF) e40 rfl (by rw [hml]; rfl) pd_1 rfl (hb hby at_14) (Nat.le_of_ble_eq_true rfl) (Nat.le_of_ble_eq_true rfl) (Nat.le_of_ble_eq_true rfl) (Nat.le_of_ble_eq_true rfl) ?_
    intro T41 X41 e41
    refine Go.istoreN X41 hx (hb hby at_17) rfl  #[.val (.int x0), .val (.int (6 : Int32)), .val (.ref a_LATE_FEE), .val (.int (0 : Int32)), .unset, .unset, .unset, .unset] rfl ?_
    refine Go.iloadN X41 hx (hb hby at_18) rfl rfl  ?_
    refine Go.iconst X41 hx (hb hby at_19) rfl (3 : Int32) rfl ?_
    refine Go.icmpNo X41 hx (hb hby at_20) rfl (flt (by decide : ¬ ((6 : Int32) < (3 : Int32)))).1 ?_
    refine Go.iloadN X41 hx (hb hby at_23) rfl rfl  ?_
    refine Go.iconst X41 hx (hb hby at_24) rfl (5 : Int32) rfl ?_
    refine Go.icmpYes X41 hx (hb hby at_25) rfl 32 (tlt (by decide : (5 : Int32) < (6 : Int32))).2.2.1 (by decide) (by decide) ?_
    refine Go.iconst X41 hx (hb hby at_32) rfl (0 : Int32) rfl ?_
    refine Go.istore X41 hx (hb hby at_33) rfl  #[.val (.int x0), .val (.int (6 : Int32)), .val (.ref a_LATE_FEE), .val (.int (0 : Int32)), .val (.int (0 : Int32)), .unset, .unset, .unset] rfl ?_
    refine Go.aloadN X41 hx (hb hby at_35) rfl rfl rfl ?_
    refine Go.pureV X41 hx hZ hown (wd 15 rfl) (wd 16 rfl) (notFace_of_selects (args := #[]) (mvT hZ (wd 18 rfl))) (wd 18 rfl) (wd 17 rfl) (wd 6 rfl) (wd 19 rfl) (by decide) [] [] ((ff_E_LATE_FEE FF).ext O0.2) (sp3_27 l Z a0 hw a_TERMINATION a_TERMINATED a_LIMIT_WARNING a_SUSPEND_WARNING a_TERMINATE_WARNING a_TERMINATE_WARNING' a_TERMINATED' a_LIMITATION a_LIMITED a_SUSPENSION a_SUSPENDED a_DUE_REMINDER a_DUE_REMINDER' a_SUSPEND_WARNING' a_SUSPENDED' a_OVERDUE_REMINDER a_OVERDUE_REMINDER' a_LATE_FEE a_LIMIT_WARNING' a_LIMITED' a_TERMINATION_label a_LIMITATION_label a_SUSPENSION_label  Z.heap O0 FF) e41 rfl (by rw [hml]; rfl) pd_2 rfl (hb hby at_36) (Nat.le_of_ble_eq_true rfl) (Nat.le_of_ble_eq_true rfl) (Nat.le_of_ble_eq_true rfl) (Nat.le_of_ble_eq_true rfl) ?_
    intro T42 X42 e42
    refine Go.astore X42 hx (hb hby at_39) rfl rfl #[.val (.int x0), .val (.int (6 : Int32)), .val (.ref a_LATE_FEE), .val (.int (0 : Int32)), .val (.int (0 : Int32)), .val .null, .unset, .unset] rfl ?_
    refine Go.aload X42 hx (hb hby at_41) rfl rfl rfl ?_
    refine Go.getS X42 hx hZ hown (host := "") (Or.inl (wd 24 rfl)) Via.refl e42 ((ff_S_LIMIT_WARNING FF).ext O0.2) (hb hby at_43) rfl ?_
    intro T43 X43 e43
    refine Go.acmp X43 hx (hb hby at_46) rfl rfl rfl false (decide_eq_false nofun) 49 (by decide) (by decide) ?_
    refine Go.aload X43 hx (hb hby at_49) rfl rfl rfl ?_
    refine Go.getS X43 hx hZ hown (host := "") (Or.inl (wd 26 rfl)) Via.refl e43 ((ff_S_SUSPEND_WARNING FF).ext O0.2) (hb hby at_51) rfl ?_
    intro T44 X44 e44
    refine Go.acmp X44 hx (hb hby at_54) rfl rfl rfl false (decide_eq_false nofun) 57 (by decide) (by decide) ?_
    refine Go.aload X44 hx (hb hby at_57) rfl rfl rfl ?_
    refine Go.getS X44 hx hZ hown (host := "") (Or.inl (wd 28 rfl)) Via.refl e44 ((ff_S_TERMINATE_WARNING FF).ext O0.2) (hb hby at_59) rfl ?_
    intro T45 X45 e45
    refine Go.acmp X45 hx (hb hby at_62) rfl rfl rfl false (decide_eq_false nofun) 69 (by decide) (by decide) ?_
    refine Go.iconst X45 hx (hb hby at_69) rfl (0 : Int32) rfl ?_
    refine Go.istore X45 hx (hb hby at_70) rfl  #[.val (.int x0), .val (.int (6 : Int32)), .val (.ref a_LATE_FEE), .val (.int (0 : Int32)), .val (.int (0 : Int32)), .val .null, .val (.int (0 : Int32)), .unset] rfl ?_
    refine Go.iloadN X45 hx (hb hby at_72) rfl rfl  ?_
    refine Go.ifYes X45 hx (hb hby at_73) rfl 90 ((if0 _ _).trans (teq (by decide : (0 : Int32) = (0 : Int32))).1) (by decide) (by decide) ?_
    refine Go.iconst X45 hx (hb hby at_90) rfl (1 : Int32) rfl ?_
    refine Go.goto X45 hx (hb hby at_91) rfl 95 (by decide) (by decide) ?_
    refine Go.istore X45 hx (hb hby at_95) rfl  #[.val (.int x0), .val (.int (6 : Int32)), .val (.ref a_LATE_FEE), .val (.int (0 : Int32)), .val (.int (0 : Int32)), .val .null, .val (.int (0 : Int32)), .val (.int (1 : Int32))] rfl ?_
    refine Go.iloadN X45 hx (hb hby at_97) rfl rfl  ?_
    refine Go.iload X45 hx (hb hby at_98) rfl rfl  ?_
    refine Go.icmpNo X45 hx (hb hby at_100) rfl (teq (by decide : (0 : Int32) = (0 : Int32))).2 ?_
    refine Go.iloadN X45 hx (hb hby at_103) rfl rfl  ?_
    refine Go.iload X45 hx (hb hby at_104) rfl rfl  ?_
    refine Go.icmpNo X45 hx (hb hby at_106) rfl (teq (by decide : (0 : Int32) = (0 : Int32))).2 ?_
    refine Go.iload X45 hx (hb hby at_109) rfl rfl  ?_
    refine Go.ifNo X45 hx (hb hby at_111) rfl ((if0 _ _).trans (feq (by decide : ¬ ((1 : Int32) = (0 : Int32)))).1) ?_
    refine Go.iconst X45 hx (hb hby at_114) rfl (1 : Int32) rfl ?_
    refine Go.goto X45 hx (hb hby at_115) rfl 119 (by decide) (by decide) ?_
    exact Go.retZ X45 hx (z' := (1 : Int32)) hret hlk (hb hby at_119) rfl (by decide) ⟨by first | rfl | simp [], (Fr.nil _)⟩ (Nat.le_of_ble_eq_true rfl) (Nat.le_of_ble_eq_true rfl)
  · rw [hk]
    refine Go.iloadN X0 hx (hb hby at_8) rfl rfl  ?_
    refine Go.pureS X0 hx hZ hown (wd 1 rfl) (wd 2 rfl) (wd 3 rfl) (wd 4 rfl) (by decide) [(.int (7 : Int32))] [] (sp1_28 l Z a0 hw a_TERMINATION a_TERMINATED a_LIMIT_WARNING a_SUSPEND_WARNING a_TERMINATE_WARNING a_TERMINATE_WARNING' a_TERMINATED' a_LIMITATION a_LIMITED a_SUSPENSION a_SUSPENDED a_DUE_REMINDER a_DUE_REMINDER' a_SUSPEND_WARNING' a_SUSPENDED' a_OVERDUE_REMINDER a_OVERDUE_REMINDER' a_LATE_FEE a_LIMIT_WARNING' a_LIMITED' a_TERMINATION_label a_LIMITATION_label a_SUSPENSION_label  Z.heap O0 FF) e0 rfl (by rw [hml]; rfl) pd_0 rfl (hb hby at_9) (Nat.le_of_ble_eq_true rfl) (Nat.le_of_ble_eq_true rfl) (Nat.le_of_ble_eq_true rfl) (Nat.le_of_ble_eq_true rfl) ?_
    intro T46 X46 e46
    refine Go.astoreN X46 hx (hb hby at_12) rfl rfl #[.val (.int x0), .val (.int (7 : Int32)), .val (.ref a_DUE_REMINDER), .unset, .unset, .unset, .unset, .unset] rfl ?_
    refine Go.aloadN X46 hx (hb hby at_13) rfl rfl rfl ?_
    refine Go.pureV X46 hx hZ hown (wd 8 rfl) (wd 9 rfl) (notFace_of_selects (args := #[]) (mvT hZ (wd 11 rfl))) (wd 11 rfl) (wd 10 rfl) (wd 6 rfl) (wd 12 rfl) (by decide) [] [] ((ff_E_DUE_REMINDER FF).ext O0.2) (sp2_29 l Z a0 hw a_TERMINATION a_TERMINATED a_LIMIT_WARNING a_SUSPEND_WARNING a_TERMINATE_WARNING a_TERMINATE_WARNING' a_TERMINATED' a_LIMITATION a_LIMITED a_SUSPENSION a_SUSPENDED a_DUE_REMINDER a_DUE_REMINDER' a_SUSPEND_WARNING' a_SUSPENDED' a_OVERDUE_REMINDER a_OVERDUE_REMINDER' a_LATE_FEE a_LIMIT_WARNING' a_LIMITED' a_TERMINATION_label a_LIMITATION_label a_SUSPENSION_label  Z.heap O0 FF) e46 rfl (by rw [hml]; rfl) pd_1 rfl (hb hby at_14) (Nat.le_of_ble_eq_true rfl) (Nat.le_of_ble_eq_true rfl) (Nat.le_of_ble_eq_true rfl) (Nat.le_of_ble_eq_true rfl) ?_
    intro T47 X47 e47
    refine Go.istoreN X47 hx (hb hby at_17) rfl  #[.val (.int x0), .val (.int (7 : Int32)), .val (.ref a_DUE_REMINDER), .val (.int (0 : Int32)), .unset, .unset, .unset, .unset] rfl ?_
    refine Go.iloadN X47 hx (hb hby at_18) rfl rfl  ?_
    refine Go.iconst X47 hx (hb hby at_19) rfl (3 : Int32) rfl ?_
    refine Go.icmpNo X47 hx (hb hby at_20) rfl (flt (by decide : ¬ ((7 : Int32) < (3 : Int32)))).1 ?_
    refine Go.iloadN X47 hx (hb hby at_23) rfl rfl  ?_
    refine Go.iconst X47 hx (hb hby at_24) rfl (5 : Int32) rfl ?_
    refine Go.icmpYes X47 hx (hb hby at_25) rfl 32 (tlt (by decide : (5 : Int32) < (7 : Int32))).2.2.1 (by decide) (by decide) ?_
    refine Go.iconst X47 hx (hb hby at_32) rfl (0 : Int32) rfl ?_
    refine Go.istore X47 hx (hb hby at_33) rfl  #[.val (.int x0), .val (.int (7 : Int32)), .val (.ref a_DUE_REMINDER), .val (.int (0 : Int32)), .val (.int (0 : Int32)), .unset, .unset, .unset] rfl ?_
    refine Go.aloadN X47 hx (hb hby at_35) rfl rfl rfl ?_
    refine Go.pureV X47 hx hZ hown (wd 15 rfl) (wd 16 rfl) (notFace_of_selects (args := #[]) (mvT hZ (wd 18 rfl))) (wd 18 rfl) (wd 17 rfl) (wd 6 rfl) (wd 19 rfl) (by decide) [] [] ((ff_E_DUE_REMINDER FF).ext O0.2) (sp3_30 l Z a0 hw a_TERMINATION a_TERMINATED a_LIMIT_WARNING a_SUSPEND_WARNING a_TERMINATE_WARNING a_TERMINATE_WARNING' a_TERMINATED' a_LIMITATION a_LIMITED a_SUSPENSION a_SUSPENDED a_DUE_REMINDER a_DUE_REMINDER' a_SUSPEND_WARNING' a_SUSPENDED' a_OVERDUE_REMINDER a_OVERDUE_REMINDER' a_LATE_FEE a_LIMIT_WARNING' a_LIMITED' a_TERMINATION_label a_LIMITATION_label a_SUSPENSION_label  Z.heap O0 FF) e47 rfl (by rw [hml]; rfl) pd_2 rfl (hb hby at_36) (Nat.le_of_ble_eq_true rfl) (Nat.le_of_ble_eq_true rfl) (Nat.le_of_ble_eq_true rfl) (Nat.le_of_ble_eq_true rfl) ?_
    intro T48 X48 e48
    refine Go.astore X48 hx (hb hby at_39) rfl rfl #[.val (.int x0), .val (.int (7 : Int32)), .val (.ref a_DUE_REMINDER), .val (.int (0 : Int32)), .val (.int (0 : Int32)), .val (.ref a_DUE_REMINDER'), .unset, .unset] rfl ?_
    refine Go.aload X48 hx (hb hby at_41) rfl rfl rfl ?_
    refine Go.getS X48 hx hZ hown (host := "") (Or.inl (wd 24 rfl)) Via.refl e48 ((ff_S_LIMIT_WARNING FF).ext O0.2) (hb hby at_43) rfl ?_
    intro T49 X49 e49
    refine Go.acmp X49 hx (hb hby at_46) rfl rfl rfl false (decide_eq_false fun q => (Ne.symm (ff_ne_LIMIT_WARNING_DUE_REMINDER' FF)) (Value.ref.inj q)) 49 (by decide) (by decide) ?_
    refine Go.aload X49 hx (hb hby at_49) rfl rfl rfl ?_
    refine Go.getS X49 hx hZ hown (host := "") (Or.inl (wd 26 rfl)) Via.refl e49 ((ff_S_SUSPEND_WARNING FF).ext O0.2) (hb hby at_51) rfl ?_
    intro T50 X50 e50
    refine Go.acmp X50 hx (hb hby at_54) rfl rfl rfl false (decide_eq_false fun q => (Ne.symm (ff_ne_SUSPEND_WARNING_DUE_REMINDER' FF)) (Value.ref.inj q)) 57 (by decide) (by decide) ?_
    refine Go.aload X50 hx (hb hby at_57) rfl rfl rfl ?_
    refine Go.getS X50 hx hZ hown (host := "") (Or.inl (wd 28 rfl)) Via.refl e50 ((ff_S_TERMINATE_WARNING FF).ext O0.2) (hb hby at_59) rfl ?_
    intro T51 X51 e51
    refine Go.acmp X51 hx (hb hby at_62) rfl rfl rfl false (decide_eq_false fun q => (Ne.symm (ff_ne_TERMINATE_WARNING_DUE_REMINDER' FF)) (Value.ref.inj q)) 69 (by decide) (by decide) ?_
    refine Go.iconst X51 hx (hb hby at_69) rfl (0 : Int32) rfl ?_
    refine Go.istore X51 hx (hb hby at_70) rfl  #[.val (.int x0), .val (.int (7 : Int32)), .val (.ref a_DUE_REMINDER), .val (.int (0 : Int32)), .val (.int (0 : Int32)), .val (.ref a_DUE_REMINDER'), .val (.int (0 : Int32)), .unset] rfl ?_
    refine Go.iloadN X51 hx (hb hby at_72) rfl rfl  ?_
    refine Go.ifYes X51 hx (hb hby at_73) rfl 90 ((if0 _ _).trans (teq (by decide : (0 : Int32) = (0 : Int32))).1) (by decide) (by decide) ?_
    refine Go.iconst X51 hx (hb hby at_90) rfl (1 : Int32) rfl ?_
    refine Go.goto X51 hx (hb hby at_91) rfl 95 (by decide) (by decide) ?_
    refine Go.istore X51 hx (hb hby at_95) rfl  #[.val (.int x0), .val (.int (7 : Int32)), .val (.ref a_DUE_REMINDER), .val (.int (0 : Int32)), .val (.int (0 : Int32)), .val (.ref a_DUE_REMINDER'), .val (.int (0 : Int32)), .val (.int (1 : Int32))] rfl ?_
    refine Go.iloadN X51 hx (hb hby at_97) rfl rfl  ?_
    refine Go.iload X51 hx (hb hby at_98) rfl rfl  ?_
    refine Go.icmpNo X51 hx (hb hby at_100) rfl (teq (by decide : (0 : Int32) = (0 : Int32))).2 ?_
    refine Go.iloadN X51 hx (hb hby at_103) rfl rfl  ?_
    refine Go.iload X51 hx (hb hby at_104) rfl rfl  ?_
    refine Go.icmpNo X51 hx (hb hby at_106) rfl (teq (by decide : (0 : Int32) = (0 : Int32))).2 ?_
    refine Go.iload X51 hx (hb hby at_109) rfl rfl  ?_
    refine Go.ifNo X51 hx (hb hby at_111) rfl ((if0 _ _).trans (feq (by decide : ¬ ((1 : Int32) = (0 : Int32)))).1) ?_
    refine Go.iconst X51 hx (hb hby at_114) rfl (1 : Int32) rfl ?_
    refine Go.goto X51 hx (hb hby at_115) rfl 119 (by decide) (by decide) ?_
    exact Go.retZ X51 hx (z' := (1 : Int32)) hret hlk (hb hby at_119) rfl (by decide) ⟨by first | rfl | simp [], (Fr.nil _)⟩ (Nat.le_of_ble_eq_true rfl) (Nat.le_of_ble_eq_true rfl)
  · rw [hk]
    refine Go.iloadN X0 hx (hb hby at_8) rfl rfl  ?_
    refine Go.pureS X0 hx hZ hown (wd 1 rfl) (wd 2 rfl) (wd 3 rfl) (wd 4 rfl) (by decide) [(.int (8 : Int32))] [] (sp1_31 l Z a0 hw a_TERMINATION a_TERMINATED a_LIMIT_WARNING a_SUSPEND_WARNING a_TERMINATE_WARNING a_TERMINATE_WARNING' a_TERMINATED' a_LIMITATION a_LIMITED a_SUSPENSION a_SUSPENDED a_DUE_REMINDER a_DUE_REMINDER' a_SUSPEND_WARNING' a_SUSPENDED' a_OVERDUE_REMINDER a_OVERDUE_REMINDER' a_LATE_FEE a_LIMIT_WARNING' a_LIMITED' a_TERMINATION_label a_LIMITATION_label a_SUSPENSION_label  Z.heap O0 FF) e0 rfl (by rw [hml]; rfl) pd_0 rfl (hb hby at_9) (Nat.le_of_ble_eq_true rfl) (Nat.le_of_ble_eq_true rfl) (Nat.le_of_ble_eq_true rfl) (Nat.le_of_ble_eq_true rfl) ?_
    intro T52 X52 e52
    refine Go.astoreN X52 hx (hb hby at_12) rfl rfl #[.val (.int x0), .val (.int (8 : Int32)), .val (.ref a_OVERDUE_REMINDER), .unset, .unset, .unset, .unset, .unset] rfl ?_
    refine Go.aloadN X52 hx (hb hby at_13) rfl rfl rfl ?_
    refine Go.pureV X52 hx hZ hown (wd 8 rfl) (wd 9 rfl) (notFace_of_selects (args := #[]) (mvT hZ (wd 11 rfl))) (wd 11 rfl) (wd 10 rfl) (wd 6 rfl) (wd 12 rfl) (by decide) [] [] ((ff_E_OVERDUE_REMINDER FF).ext O0.2) (sp2_32 l Z a0 hw a_TERMINATION a_TERMINATED a_LIMIT_WARNING a_SUSPEND_WARNING a_TERMINATE_WARNING a_TERMINATE_WARNING' a_TERMINATED' a_LIMITATION a_LIMITED a_SUSPENSION a_SUSPENDED a_DUE_REMINDER a_DUE_REMINDER' a_SUSPEND_WARNING' a_SUSPENDED' a_OVERDUE_REMINDER a_OVERDUE_REMINDER' a_LATE_FEE a_LIMIT_WARNING' a_LIMITED' a_TERMINATION_label a_LIMITATION_label a_SUSPENSION_label  Z.heap O0 FF) e52 rfl (by rw [hml]; rfl) pd_1 rfl (hb hby at_14) (Nat.le_of_ble_eq_true rfl) (Nat.le_of_ble_eq_true rfl) (Nat.le_of_ble_eq_true rfl) (Nat.le_of_ble_eq_true rfl) ?_
    intro T53 X53 e53
    refine Go.istoreN X53 hx (hb hby at_17) rfl  #[.val (.int x0), .val (.int (8 : Int32)), .val (.ref a_OVERDUE_REMINDER), .val (.int (0 : Int32)), .unset, .unset, .unset, .unset] rfl ?_
    refine Go.iloadN X53 hx (hb hby at_18) rfl rfl  ?_
    refine Go.iconst X53 hx (hb hby at_19) rfl (3 : Int32) rfl ?_
    refine Go.icmpNo X53 hx (hb hby at_20) rfl (flt (by decide : ¬ ((8 : Int32) < (3 : Int32)))).1 ?_
    refine Go.iloadN X53 hx (hb hby at_23) rfl rfl  ?_
    refine Go.iconst X53 hx (hb hby at_24) rfl (5 : Int32) rfl ?_
    refine Go.icmpYes X53 hx (hb hby at_25) rfl 32 (tlt (by decide : (5 : Int32) < (8 : Int32))).2.2.1 (by decide) (by decide) ?_
    refine Go.iconst X53 hx (hb hby at_32) rfl (0 : Int32) rfl ?_
    refine Go.istore X53 hx (hb hby at_33) rfl  #[.val (.int x0), .val (.int (8 : Int32)), .val (.ref a_OVERDUE_REMINDER), .val (.int (0 : Int32)), .val (.int (0 : Int32)), .unset, .unset, .unset] rfl ?_
    refine Go.aloadN X53 hx (hb hby at_35) rfl rfl rfl ?_
    refine Go.pureV X53 hx hZ hown (wd 15 rfl) (wd 16 rfl) (notFace_of_selects (args := #[]) (mvT hZ (wd 18 rfl))) (wd 18 rfl) (wd 17 rfl) (wd 6 rfl) (wd 19 rfl) (by decide) [] [] ((ff_E_OVERDUE_REMINDER FF).ext O0.2) (sp3_33 l Z a0 hw a_TERMINATION a_TERMINATED a_LIMIT_WARNING a_SUSPEND_WARNING a_TERMINATE_WARNING a_TERMINATE_WARNING' a_TERMINATED' a_LIMITATION a_LIMITED a_SUSPENSION a_SUSPENDED a_DUE_REMINDER a_DUE_REMINDER' a_SUSPEND_WARNING' a_SUSPENDED' a_OVERDUE_REMINDER a_OVERDUE_REMINDER' a_LATE_FEE a_LIMIT_WARNING' a_LIMITED' a_TERMINATION_label a_LIMITATION_label a_SUSPENSION_label  Z.heap O0 FF) e53 rfl (by rw [hml]; rfl) pd_2 rfl (hb hby at_36) (Nat.le_of_ble_eq_true rfl) (Nat.le_of_ble_eq_true rfl) (Nat.le_of_ble_eq_true rfl) (Nat.le_of_ble_eq_true rfl) ?_
    intro T54 X54 e54
    refine Go.astore X54 hx (hb hby at_39) rfl rfl #[.val (.int x0), .val (.int (8 : Int32)), .val (.ref a_OVERDUE_REMINDER), .val (.int (0 : Int32)), .val (.int (0 : Int32)), .val (.ref a_OVERDUE_REMINDER'), .unset, .unset] rfl ?_
    refine Go.aload X54 hx (hb hby at_41) rfl rfl rfl ?_
    refine Go.getS X54 hx hZ hown (host := "") (Or.inl (wd 24 rfl)) Via.refl e54 ((ff_S_LIMIT_WARNING FF).ext O0.2) (hb hby at_43) rfl ?_
    intro T55 X55 e55
    refine Go.acmp X55 hx (hb hby at_46) rfl rfl rfl false (decide_eq_false fun q => (Ne.symm (ff_ne_LIMIT_WARNING_OVERDUE_REMINDER' FF)) (Value.ref.inj q)) 49 (by decide) (by decide) ?_
    refine Go.aload X55 hx (hb hby at_49) rfl rfl rfl ?_
    refine Go.getS X55 hx hZ hown (host := "") (Or.inl (wd 26 rfl)) Via.refl e55 ((ff_S_SUSPEND_WARNING FF).ext O0.2) (hb hby at_51) rfl ?_
    intro T56 X56 e56
    refine Go.acmp X56 hx (hb hby at_54) rfl rfl rfl false (decide_eq_false fun q => (Ne.symm (ff_ne_SUSPEND_WARNING_OVERDUE_REMINDER' FF)) (Value.ref.inj q)) 57 (by decide) (by decide) ?_
    refine Go.aload X56 hx (hb hby at_57) rfl rfl rfl ?_
    refine Go.getS X56 hx hZ hown (host := "") (Or.inl (wd 28 rfl)) Via.refl e56 ((ff_S_TERMINATE_WARNING FF).ext O0.2) (hb hby at_59) rfl ?_
    intro T57 X57 e57
    refine Go.acmp X57 hx (hb hby at_62) rfl rfl rfl false (decide_eq_false fun q => (Ne.symm (ff_ne_TERMINATE_WARNING_OVERDUE_REMINDER' FF)) (Value.ref.inj q)) 69 (by decide) (by decide) ?_
    refine Go.iconst X57 hx (hb hby at_69) rfl (0 : Int32) rfl ?_
    refine Go.istore X57 hx (hb hby at_70) rfl  #[.val (.int x0), .val (.int (8 : Int32)), .val (.ref a_OVERDUE_REMINDER), .val (.int (0 : Int32)), .val (.int (0 : Int32)), .val (.ref a_OVERDUE_REMINDER'), .val (.int (0 : Int32)), .unset] rfl ?_
    refine Go.iloadN X57 hx (hb hby at_72) rfl rfl  ?_
    refine Go.ifYes X57 hx (hb hby at_73) rfl 90 ((if0 _ _).trans (teq (by decide : (0 : Int32) = (0 : Int32))).1) (by decide) (by decide) ?_
    refine Go.iconst X57 hx (hb hby at_90) rfl (1 : Int32) rfl ?_
    refine Go.goto X57 hx (hb hby at_91) rfl 95 (by decide) (by decide) ?_
    refine Go.istore X57 hx (hb hby at_95) rfl  #[.val (.int x0), .val (.int (8 : Int32)), .val (.ref a_OVERDUE_REMINDER), .val (.int (0 : Int32)), .val (.int (0 : Int32)), .val (.ref a_OVERDUE_REMINDER'), .val (.int (0 : Int32)), .val (.int (1 : Int32))] rfl ?_
    refine Go.iloadN X57 hx (hb hby at_97) rfl rfl  ?_
    refine Go.iload X57 hx (hb hby at_98) rfl rfl  ?_
    refine Go.icmpNo X57 hx (hb hby at_100) rfl (teq (by decide : (0 : Int32) = (0 : Int32))).2 ?_
    refine Go.iloadN X57 hx (hb hby at_103) rfl rfl  ?_
    refine Go.iload X57 hx (hb hby at_104) rfl rfl  ?_
    refine Go.icmpNo X57 hx (hb hby at_106) rfl (teq (by decide : (0 : Int32) = (0 : Int32))).2 ?_
    refine Go.iload X57 hx (hb hby at_109) rfl rfl  ?_
    refine Go.ifNo X57 hx (hb hby at_111) rfl ((if0 _ _).trans (feq (by decide : ¬ ((1 : Int32) = (0 : Int32)))).1) ?_
    refine Go.iconst X57 hx (hb hby at_114) rfl (1 : Int32) rfl ?_
    refine Go.goto X57 hx (hb hby at_115) rfl 119 (by decide) (by decide) ?_
    exact Go.retZ X57 hx (z' := (1 : Int32)) hret hlk (hb hby at_119) rfl (by decide) ⟨by first | rfl | simp [], (Fr.nil _)⟩ (Nat.le_of_ble_eq_true rfl) (Nat.le_of_ble_eq_true rfl)
set_option maxRecDepth 65536 in
set_option maxHeartbeats 40000000 in
theorem comes_1 {Post : Tables → Env → Array Value → State → Outcome → State → Prop} (hpost : ∀ tb e args s v u, (limb_1_1.after args s (.returned v) u = true ∧ limb_1_2.after args s (.returned v) u = true ∧ True) → FrameEnd s (.returned v) u (Jvm.fieldLocs frame_1_writes args s ++ Jvm.arrayLocs frame_1_arrays args s ++ Jvm.staticLocs frame_1_statics s) 0 0 → Post tb e args s (.returned v) u) :
    ArmFor flags0 classFile x code maxLocals ret World_1 tables_1 room_1 Calls_1 rest_1 Pre_1 Post := by
  intro l hfl _ _ p e ha hc hk s m args below hf hA hF happ hP
  obtain ⟨hcalls, hrest, hpre⟩ := hP
  obtain ⟨-, -, -, hnamed, -, -, -, hat⟩ := (Spec.applies_iff hf).mp happ
  obtain ⟨hg, hn⟩ := and_e (Cond.before_iff.mp (show (Jvm.Cond.and given_1 narrow_1).before args s = true from hpre))
  obtain ⟨gi0, gi1⟩ := and_e hg
  obtain ⟨w0, rfl⟩ : ∃ w0 : Value, args = #[w0] := by
    have hs : args.size = 1 := by simpa [Cond.value, given_1] using gi0
    obtain ⟨L⟩ := args
    match L, hs with
    | [w0], _ => exact ⟨w0, rfl⟩
  have hw := fun d (hd : d ∈ tables_1) => atoms_spec (ws := Jvm.Cond.code x code maxLocals ret :: tables_1) hat d (List.mem_cons_of_mem _ hd)
  have wd : ∀ {d : Jvm.Cond} (i : Nat), tables_1[i]? = some d → d.before _ s = true := fun i q => hw _ (List.mem_of_getElem? q)
  have hfit : Fit s := fun {y c} hc i hi => by
    obtain ⟨ha, rfl⟩ := Array.getElem?_eq_some_iff.mp hc
    have q := List.all_eq_true.mp ((Array.all_eq_true_iff_forall_mem.mp hF) _ (Array.getElem_mem ha)) i (List.mem_range.mpr hi)
    simpa [Array.getElem?_eq_getElem hi] using q
  obtain ⟨i0, ei0⟩ := is_v gi1
  obtain rfl : w0 = (.int i0) := Option.some.inj ei0
  obtain ⟨g1, g2⟩ := and_e hn
  obtain ⟨a_TERMINATION, ev_TERMINATION⟩ := exa_v g1
  have S_TERMINATION : Sta s s.heap "com/example/careful_invoicing/carefulinvoicing/CollectionStep" "TERMINATION" "Lcom/example/careful_invoicing/carefulinvoicing/CollectionStep;" (.ref a_TERMINATION) := Sta.start ev_TERMINATION (Or.inr ⟨(wd 6 rfl), (wd 7 rfl)⟩)
  have E_TERMINATION : Exa s s.heap a_TERMINATION "com/example/careful_invoicing/carefulinvoicing/CollectionStep" := Exa.start ev_TERMINATION g1
  obtain ⟨g3, g4⟩ := and_e g2
  have ev_TERMINATION_warned := own_eqv g3 (v := .null) rfl
  have F_TERMINATION_warned : Fld s s.heap a_TERMINATION "com/example/careful_invoicing/carefulinvoicing/CollectionStep" "warned" "Lcom/example/careful_invoicing/carefulinvoicing/CollectionStep;" .null := Fld.start ((fld_at ev_TERMINATION).symm.trans ev_TERMINATION_warned)
  obtain ⟨g5, g6⟩ := and_e g4
  obtain ⟨a_TERMINATED, ev_TERMINATED⟩ := exa_v g5
  have S_TERMINATED : Sta s s.heap "com/example/careful_invoicing/carefulinvoicing/NoticeKind" "TERMINATED" "Lcom/example/careful_invoicing/carefulinvoicing/NoticeKind;" (.ref a_TERMINATED) := Sta.start ev_TERMINATED (Or.inr ⟨(wd 22 rfl), (wd 23 rfl)⟩)
  have E_TERMINATED : Exa s s.heap a_TERMINATED "com/example/careful_invoicing/carefulinvoicing/NoticeKind" := Exa.start ev_TERMINATED g5
  obtain ⟨g7, g8⟩ := and_e g6
  have ev_TERMINATION_notice := own_eqv g7 (v := (.ref a_TERMINATED)) ev_TERMINATED
  have F_TERMINATION_notice : Fld s s.heap a_TERMINATION "com/example/careful_invoicing/carefulinvoicing/CollectionStep" "notice" "Lcom/example/careful_invoicing/carefulinvoicing/NoticeKind;" (.ref a_TERMINATED) := Fld.start ((fld_at ev_TERMINATION).symm.trans ev_TERMINATION_notice)
  obtain ⟨g9, g10⟩ := and_e g8
  obtain ⟨a_LIMIT_WARNING, ev_LIMIT_WARNING⟩ := exa_v g9
  have S_LIMIT_WARNING : Sta s s.heap "com/example/careful_invoicing/carefulinvoicing/NoticeKind" "LIMIT_WARNING" "Lcom/example/careful_invoicing/carefulinvoicing/NoticeKind;" (.ref a_LIMIT_WARNING) := Sta.start ev_LIMIT_WARNING (Or.inr ⟨(wd 22 rfl), (wd 25 rfl)⟩)
  have E_LIMIT_WARNING : Exa s s.heap a_LIMIT_WARNING "com/example/careful_invoicing/carefulinvoicing/NoticeKind" := Exa.start ev_LIMIT_WARNING g9
  obtain ⟨g11, g12⟩ := and_e g10
  have ev_TERMINATED_ordinal := own_eqv g11 (v := (.int (7 : Int32))) rfl
  have F_TERMINATED_ordinal : Fld s s.heap a_TERMINATED "java/lang/Enum" "ordinal" "I" (.int (7 : Int32)) := Fld.start ((fld_at ev_TERMINATED).symm.trans ev_TERMINATED_ordinal)
  obtain ⟨g13, g14⟩ := and_e g12
  have ev_LIMIT_WARNING_ordinal := own_eqv g13 (v := (.int (2 : Int32))) rfl
  have F_LIMIT_WARNING_ordinal : Fld s s.heap a_LIMIT_WARNING "java/lang/Enum" "ordinal" "I" (.int (2 : Int32)) := Fld.start ((fld_at ev_LIMIT_WARNING).symm.trans ev_LIMIT_WARNING_ordinal)
  obtain ⟨g15, g16⟩ := and_e g14
  obtain ⟨a_SUSPEND_WARNING, ev_SUSPEND_WARNING⟩ := exa_v g15
  have S_SUSPEND_WARNING : Sta s s.heap "com/example/careful_invoicing/carefulinvoicing/NoticeKind" "SUSPEND_WARNING" "Lcom/example/careful_invoicing/carefulinvoicing/NoticeKind;" (.ref a_SUSPEND_WARNING) := Sta.start ev_SUSPEND_WARNING (Or.inr ⟨(wd 22 rfl), (wd 27 rfl)⟩)
  have E_SUSPEND_WARNING : Exa s s.heap a_SUSPEND_WARNING "com/example/careful_invoicing/carefulinvoicing/NoticeKind" := Exa.start ev_SUSPEND_WARNING g15
  obtain ⟨g17, g18⟩ := and_e g16
  have ev_SUSPEND_WARNING_ordinal := own_eqv g17 (v := (.int (4 : Int32))) rfl
  have F_SUSPEND_WARNING_ordinal : Fld s s.heap a_SUSPEND_WARNING "java/lang/Enum" "ordinal" "I" (.int (4 : Int32)) := Fld.start ((fld_at ev_SUSPEND_WARNING).symm.trans ev_SUSPEND_WARNING_ordinal)
  obtain ⟨g19, g20⟩ := and_e g18
  obtain ⟨a_TERMINATE_WARNING, ev_TERMINATE_WARNING⟩ := exa_v g19
  have S_TERMINATE_WARNING : Sta s s.heap "com/example/careful_invoicing/carefulinvoicing/NoticeKind" "TERMINATE_WARNING" "Lcom/example/careful_invoicing/carefulinvoicing/NoticeKind;" (.ref a_TERMINATE_WARNING) := Sta.start ev_TERMINATE_WARNING (Or.inr ⟨(wd 22 rfl), (wd 29 rfl)⟩)
  have E_TERMINATE_WARNING : Exa s s.heap a_TERMINATE_WARNING "com/example/careful_invoicing/carefulinvoicing/NoticeKind" := Exa.start ev_TERMINATE_WARNING g19
  obtain ⟨g21, g22⟩ := and_e g20
  have ev_TERMINATE_WARNING_ordinal := own_eqv g21 (v := (.int (6 : Int32))) rfl
  have F_TERMINATE_WARNING_ordinal : Fld s s.heap a_TERMINATE_WARNING "java/lang/Enum" "ordinal" "I" (.int (6 : Int32)) := Fld.start ((fld_at ev_TERMINATE_WARNING).symm.trans ev_TERMINATE_WARNING_ordinal)
  obtain ⟨g23, g24⟩ := and_e g22
  obtain ⟨a_TERMINATE_WARNING', ev_TERMINATE_WARNING'⟩ := exa_v g23
  have S_TERMINATE_WARNING' : Sta s s.heap "com/example/careful_invoicing/carefulinvoicing/CollectionStep" "TERMINATE_WARNING" "Lcom/example/careful_invoicing/carefulinvoicing/CollectionStep;" (.ref a_TERMINATE_WARNING') := Sta.start ev_TERMINATE_WARNING' (Or.inr ⟨(wd 6 rfl), (wd 31 rfl)⟩)
  have E_TERMINATE_WARNING' : Exa s s.heap a_TERMINATE_WARNING' "com/example/careful_invoicing/carefulinvoicing/CollectionStep" := Exa.start ev_TERMINATE_WARNING' g23
  obtain ⟨g25, g26⟩ := and_e g24
  have ev_TERMINATE_WARNING'_warned := own_eqv g25 (v := (.ref a_TERMINATION)) ev_TERMINATION
  have F_TERMINATE_WARNING'_warned : Fld s s.heap a_TERMINATE_WARNING' "com/example/careful_invoicing/carefulinvoicing/CollectionStep" "warned" "Lcom/example/careful_invoicing/carefulinvoicing/CollectionStep;" (.ref a_TERMINATION) := Fld.start ((fld_at ev_TERMINATE_WARNING').symm.trans ev_TERMINATE_WARNING'_warned)
  obtain ⟨g27, g28⟩ := and_e g26
  have ev_TERMINATE_WARNING'_notice := own_eqv g27 (v := (.ref a_TERMINATE_WARNING)) ev_TERMINATE_WARNING
  have F_TERMINATE_WARNING'_notice : Fld s s.heap a_TERMINATE_WARNING' "com/example/careful_invoicing/carefulinvoicing/CollectionStep" "notice" "Lcom/example/careful_invoicing/carefulinvoicing/NoticeKind;" (.ref a_TERMINATE_WARNING) := Fld.start ((fld_at ev_TERMINATE_WARNING').symm.trans ev_TERMINATE_WARNING'_notice)
  obtain ⟨g29, g30⟩ := and_e g28
  have ev_TERMINATE_WARNING'_label := own_eqv g29 (v := .null) rfl
  have F_TERMINATE_WARNING'_label : Fld s s.heap a_TERMINATE_WARNING' "com/example/careful_invoicing/carefulinvoicing/CollectionStep" "label" "Ljava/lang/String;" .null := Fld.start ((fld_at ev_TERMINATE_WARNING').symm.trans ev_TERMINATE_WARNING'_label)
  obtain ⟨g31, g32⟩ := and_e g30
  obtain ⟨a_TERMINATED', ev_TERMINATED'⟩ := exa_v g31
  have S_TERMINATED' : Sta s s.heap "com/example/careful_invoicing/carefulinvoicing/CustomerStatus" "TERMINATED" "Lcom/example/careful_invoicing/carefulinvoicing/CustomerStatus;" (.ref a_TERMINATED') := Sta.start ev_TERMINATED' (Or.inr ⟨(wd 46 rfl), (wd 47 rfl)⟩)
  have E_TERMINATED' : Exa s s.heap a_TERMINATED' "com/example/careful_invoicing/carefulinvoicing/CustomerStatus" := Exa.start ev_TERMINATED' g31
  obtain ⟨g33, g34⟩ := and_e g32
  have ev_TERMINATE_WARNING'_status := own_eqv g33 (v := (.ref a_TERMINATED')) ev_TERMINATED'
  have F_TERMINATE_WARNING'_status : Fld s s.heap a_TERMINATE_WARNING' "com/example/careful_invoicing/carefulinvoicing/CollectionStep" "status" "Lcom/example/careful_invoicing/carefulinvoicing/CustomerStatus;" (.ref a_TERMINATED') := Fld.start ((fld_at ev_TERMINATE_WARNING').symm.trans ev_TERMINATE_WARNING'_status)
  obtain ⟨g35, g36⟩ := and_e g34
  obtain ⟨a_LIMITATION, ev_LIMITATION⟩ := exa_v g35
  have S_LIMITATION : Sta s s.heap "com/example/careful_invoicing/carefulinvoicing/CollectionStep" "LIMITATION" "Lcom/example/careful_invoicing/carefulinvoicing/CollectionStep;" (.ref a_LIMITATION) := Sta.start ev_LIMITATION (Or.inr ⟨(wd 6 rfl), (wd 49 rfl)⟩)
  have E_LIMITATION : Exa s s.heap a_LIMITATION "com/example/careful_invoicing/carefulinvoicing/CollectionStep" := Exa.start ev_LIMITATION g35
  obtain ⟨g37, g38⟩ := and_e g36
  have ev_LIMITATION_warned := own_eqv g37 (v := .null) rfl
  have F_LIMITATION_warned : Fld s s.heap a_LIMITATION "com/example/careful_invoicing/carefulinvoicing/CollectionStep" "warned" "Lcom/example/careful_invoicing/carefulinvoicing/CollectionStep;" .null := Fld.start ((fld_at ev_LIMITATION).symm.trans ev_LIMITATION_warned)
  obtain ⟨g39, g40⟩ := and_e g38
  obtain ⟨a_LIMITED, ev_LIMITED⟩ := exa_v g39
  have S_LIMITED : Sta s s.heap "com/example/careful_invoicing/carefulinvoicing/NoticeKind" "LIMITED" "Lcom/example/careful_invoicing/carefulinvoicing/NoticeKind;" (.ref a_LIMITED) := Sta.start ev_LIMITED (Or.inr ⟨(wd 22 rfl), (wd 50 rfl)⟩)
  have E_LIMITED : Exa s s.heap a_LIMITED "com/example/careful_invoicing/carefulinvoicing/NoticeKind" := Exa.start ev_LIMITED g39
  obtain ⟨g41, g42⟩ := and_e g40
  have ev_LIMITATION_notice := own_eqv g41 (v := (.ref a_LIMITED)) ev_LIMITED
  have F_LIMITATION_notice : Fld s s.heap a_LIMITATION "com/example/careful_invoicing/carefulinvoicing/CollectionStep" "notice" "Lcom/example/careful_invoicing/carefulinvoicing/NoticeKind;" (.ref a_LIMITED) := Fld.start ((fld_at ev_LIMITATION).symm.trans ev_LIMITATION_notice)
  obtain ⟨g43, g44⟩ := and_e g42
  have ev_LIMITED_ordinal := own_eqv g43 (v := (.int (3 : Int32))) rfl
  have F_LIMITED_ordinal : Fld s s.heap a_LIMITED "java/lang/Enum" "ordinal" "I" (.int (3 : Int32)) := Fld.start ((fld_at ev_LIMITED).symm.trans ev_LIMITED_ordinal)
  obtain ⟨g45, g46⟩ := and_e g44
  obtain ⟨a_SUSPENSION, ev_SUSPENSION⟩ := exa_v g45
  have S_SUSPENSION : Sta s s.heap "com/example/careful_invoicing/carefulinvoicing/CollectionStep" "SUSPENSION" "Lcom/example/careful_invoicing/carefulinvoicing/CollectionStep;" (.ref a_SUSPENSION) := Sta.start ev_SUSPENSION (Or.inr ⟨(wd 6 rfl), (wd 52 rfl)⟩)
  have E_SUSPENSION : Exa s s.heap a_SUSPENSION "com/example/careful_invoicing/carefulinvoicing/CollectionStep" := Exa.start ev_SUSPENSION g45
  obtain ⟨g47, g48⟩ := and_e g46
  have ev_SUSPENSION_warned := own_eqv g47 (v := .null) rfl
  have F_SUSPENSION_warned : Fld s s.heap a_SUSPENSION "com/example/careful_invoicing/carefulinvoicing/CollectionStep" "warned" "Lcom/example/careful_invoicing/carefulinvoicing/CollectionStep;" .null := Fld.start ((fld_at ev_SUSPENSION).symm.trans ev_SUSPENSION_warned)
  obtain ⟨g49, g50⟩ := and_e g48
  obtain ⟨a_SUSPENDED, ev_SUSPENDED⟩ := exa_v g49
  have S_SUSPENDED : Sta s s.heap "com/example/careful_invoicing/carefulinvoicing/NoticeKind" "SUSPENDED" "Lcom/example/careful_invoicing/carefulinvoicing/NoticeKind;" (.ref a_SUSPENDED) := Sta.start ev_SUSPENDED (Or.inr ⟨(wd 22 rfl), (wd 53 rfl)⟩)
  have E_SUSPENDED : Exa s s.heap a_SUSPENDED "com/example/careful_invoicing/carefulinvoicing/NoticeKind" := Exa.start ev_SUSPENDED g49
  obtain ⟨g51, g52⟩ := and_e g50
  have ev_SUSPENSION_notice := own_eqv g51 (v := (.ref a_SUSPENDED)) ev_SUSPENDED
  have F_SUSPENSION_notice : Fld s s.heap a_SUSPENSION "com/example/careful_invoicing/carefulinvoicing/CollectionStep" "notice" "Lcom/example/careful_invoicing/carefulinvoicing/NoticeKind;" (.ref a_SUSPENDED) := Fld.start ((fld_at ev_SUSPENSION).symm.trans ev_SUSPENSION_notice)
  obtain ⟨g53, g54⟩ := and_e g52
  have ev_SUSPENDED_ordinal := own_eqv g53 (v := (.int (5 : Int32))) rfl
  have F_SUSPENDED_ordinal : Fld s s.heap a_SUSPENDED "java/lang/Enum" "ordinal" "I" (.int (5 : Int32)) := Fld.start ((fld_at ev_SUSPENDED).symm.trans ev_SUSPENDED_ordinal)
  obtain ⟨g55, g56⟩ := and_e g54
  obtain ⟨a_DUE_REMINDER, ev_DUE_REMINDER⟩ := exa_v g55
  have S_DUE_REMINDER : Sta s s.heap "com/example/careful_invoicing/carefulinvoicing/CollectionStep" "DUE_REMINDER" "Lcom/example/careful_invoicing/carefulinvoicing/CollectionStep;" (.ref a_DUE_REMINDER) := Sta.start ev_DUE_REMINDER (Or.inr ⟨(wd 6 rfl), (wd 55 rfl)⟩)
  have E_DUE_REMINDER : Exa s s.heap a_DUE_REMINDER "com/example/careful_invoicing/carefulinvoicing/CollectionStep" := Exa.start ev_DUE_REMINDER g55
  obtain ⟨g57, g58⟩ := and_e g56
  have ev_DUE_REMINDER_warned := own_eqv g57 (v := .null) rfl
  have F_DUE_REMINDER_warned : Fld s s.heap a_DUE_REMINDER "com/example/careful_invoicing/carefulinvoicing/CollectionStep" "warned" "Lcom/example/careful_invoicing/carefulinvoicing/CollectionStep;" .null := Fld.start ((fld_at ev_DUE_REMINDER).symm.trans ev_DUE_REMINDER_warned)
  obtain ⟨g59, g60⟩ := and_e g58
  obtain ⟨a_DUE_REMINDER', ev_DUE_REMINDER'⟩ := exa_v g59
  have S_DUE_REMINDER' : Sta s s.heap "com/example/careful_invoicing/carefulinvoicing/NoticeKind" "DUE_REMINDER" "Lcom/example/careful_invoicing/carefulinvoicing/NoticeKind;" (.ref a_DUE_REMINDER') := Sta.start ev_DUE_REMINDER' (Or.inr ⟨(wd 22 rfl), (wd 56 rfl)⟩)
  have E_DUE_REMINDER' : Exa s s.heap a_DUE_REMINDER' "com/example/careful_invoicing/carefulinvoicing/NoticeKind" := Exa.start ev_DUE_REMINDER' g59
  obtain ⟨g61, g62⟩ := and_e g60
  have ev_DUE_REMINDER_notice := own_eqv g61 (v := (.ref a_DUE_REMINDER')) ev_DUE_REMINDER'
  have F_DUE_REMINDER_notice : Fld s s.heap a_DUE_REMINDER "com/example/careful_invoicing/carefulinvoicing/CollectionStep" "notice" "Lcom/example/careful_invoicing/carefulinvoicing/NoticeKind;" (.ref a_DUE_REMINDER') := Fld.start ((fld_at ev_DUE_REMINDER).symm.trans ev_DUE_REMINDER_notice)
  obtain ⟨g63, g64⟩ := and_e g62
  have ev_DUE_REMINDER'_ordinal := own_eqv g63 (v := (.int (0 : Int32))) rfl
  have F_DUE_REMINDER'_ordinal : Fld s s.heap a_DUE_REMINDER' "java/lang/Enum" "ordinal" "I" (.int (0 : Int32)) := Fld.start ((fld_at ev_DUE_REMINDER').symm.trans ev_DUE_REMINDER'_ordinal)
  obtain ⟨g65, g66⟩ := and_e g64
  obtain ⟨a_SUSPEND_WARNING', ev_SUSPEND_WARNING'⟩ := exa_v g65
  have S_SUSPEND_WARNING' : Sta s s.heap "com/example/careful_invoicing/carefulinvoicing/CollectionStep" "SUSPEND_WARNING" "Lcom/example/careful_invoicing/carefulinvoicing/CollectionStep;" (.ref a_SUSPEND_WARNING') := Sta.start ev_SUSPEND_WARNING' (Or.inr ⟨(wd 6 rfl), (wd 58 rfl)⟩)
  have E_SUSPEND_WARNING' : Exa s s.heap a_SUSPEND_WARNING' "com/example/careful_invoicing/carefulinvoicing/CollectionStep" := Exa.start ev_SUSPEND_WARNING' g65
  obtain ⟨g67, g68⟩ := and_e g66
  have ev_SUSPEND_WARNING'_warned := own_eqv g67 (v := (.ref a_SUSPENSION)) ev_SUSPENSION
  have F_SUSPEND_WARNING'_warned : Fld s s.heap a_SUSPEND_WARNING' "com/example/careful_invoicing/carefulinvoicing/CollectionStep" "warned" "Lcom/example/careful_invoicing/carefulinvoicing/CollectionStep;" (.ref a_SUSPENSION) := Fld.start ((fld_at ev_SUSPEND_WARNING').symm.trans ev_SUSPEND_WARNING'_warned)
  obtain ⟨g69, g70⟩ := and_e g68
  have ev_SUSPEND_WARNING'_notice := own_eqv g69 (v := (.ref a_SUSPEND_WARNING)) ev_SUSPEND_WARNING
  have F_SUSPEND_WARNING'_notice : Fld s s.heap a_SUSPEND_WARNING' "com/example/careful_invoicing/carefulinvoicing/CollectionStep" "notice" "Lcom/example/careful_invoicing/carefulinvoicing/NoticeKind;" (.ref a_SUSPEND_WARNING) := Fld.start ((fld_at ev_SUSPEND_WARNING').symm.trans ev_SUSPEND_WARNING'_notice)
  obtain ⟨g71, g72⟩ := and_e g70
  have ev_SUSPEND_WARNING'_label := own_eqv g71 (v := .null) rfl
  have F_SUSPEND_WARNING'_label : Fld s s.heap a_SUSPEND_WARNING' "com/example/careful_invoicing/carefulinvoicing/CollectionStep" "label" "Ljava/lang/String;" .null := Fld.start ((fld_at ev_SUSPEND_WARNING').symm.trans ev_SUSPEND_WARNING'_label)
  obtain ⟨g73, g74⟩ := and_e g72
  obtain ⟨a_SUSPENDED', ev_SUSPENDED'⟩ := exa_v g73
  have S_SUSPENDED' : Sta s s.heap "com/example/careful_invoicing/carefulinvoicing/CustomerStatus" "SUSPENDED" "Lcom/example/careful_invoicing/carefulinvoicing/CustomerStatus;" (.ref a_SUSPENDED') := Sta.start ev_SUSPENDED' (Or.inr ⟨(wd 46 rfl), (wd 59 rfl)⟩)
  have E_SUSPENDED' : Exa s s.heap a_SUSPENDED' "com/example/careful_invoicing/carefulinvoicing/CustomerStatus" := Exa.start ev_SUSPENDED' g73
  obtain ⟨g75, g76⟩ := and_e g74
  have ev_SUSPEND_WARNING'_status := own_eqv g75 (v := (.ref a_SUSPENDED')) ev_SUSPENDED'
  have F_SUSPEND_WARNING'_status : Fld s s.heap a_SUSPEND_WARNING' "com/example/careful_invoicing/carefulinvoicing/CollectionStep" "status" "Lcom/example/careful_invoicing/carefulinvoicing/CustomerStatus;" (.ref a_SUSPENDED') := Fld.start ((fld_at ev_SUSPEND_WARNING').symm.trans ev_SUSPEND_WARNING'_status)
  obtain ⟨g77, g78⟩ := and_e g76
  obtain ⟨a_OVERDUE_REMINDER, ev_OVERDUE_REMINDER⟩ := exa_v g77
  have S_OVERDUE_REMINDER : Sta s s.heap "com/example/careful_invoicing/carefulinvoicing/CollectionStep" "OVERDUE_REMINDER" "Lcom/example/careful_invoicing/carefulinvoicing/CollectionStep;" (.ref a_OVERDUE_REMINDER) := Sta.start ev_OVERDUE_REMINDER (Or.inr ⟨(wd 6 rfl), (wd 61 rfl)⟩)
  have E_OVERDUE_REMINDER : Exa s s.heap a_OVERDUE_REMINDER "com/example/careful_invoicing/carefulinvoicing/CollectionStep" := Exa.start ev_OVERDUE_REMINDER g77
  obtain ⟨g79, g80⟩ := and_e g78
  have ev_OVERDUE_REMINDER_warned := own_eqv g79 (v := .null) rfl
  have F_OVERDUE_REMINDER_warned : Fld s s.heap a_OVERDUE_REMINDER "com/example/careful_invoicing/carefulinvoicing/CollectionStep" "warned" "Lcom/example/careful_invoicing/carefulinvoicing/CollectionStep;" .null := Fld.start ((fld_at ev_OVERDUE_REMINDER).symm.trans ev_OVERDUE_REMINDER_warned)
  obtain ⟨g81, g82⟩ := and_e g80
  obtain ⟨a_OVERDUE_REMINDER', ev_OVERDUE_REMINDER'⟩ := exa_v g81
  have S_OVERDUE_REMINDER' : Sta s s.heap "com/example/careful_invoicing/carefulinvoicing/NoticeKind" "OVERDUE_REMINDER" "Lcom/example/careful_invoicing/carefulinvoicing/NoticeKind;" (.ref a_OVERDUE_REMINDER') := Sta.start ev_OVERDUE_REMINDER' (Or.inr ⟨(wd 22 rfl), (wd 62 rfl)⟩)
  have E_OVERDUE_REMINDER' : Exa s s.heap a_OVERDUE_REMINDER' "com/example/careful_invoicing/carefulinvoicing/NoticeKind" := Exa.start ev_OVERDUE_REMINDER' g81
  obtain ⟨g83, g84⟩ := and_e g82
  have ev_OVERDUE_REMINDER_notice := own_eqv g83 (v := (.ref a_OVERDUE_REMINDER')) ev_OVERDUE_REMINDER'
  have F_OVERDUE_REMINDER_notice : Fld s s.heap a_OVERDUE_REMINDER "com/example/careful_invoicing/carefulinvoicing/CollectionStep" "notice" "Lcom/example/careful_invoicing/carefulinvoicing/NoticeKind;" (.ref a_OVERDUE_REMINDER') := Fld.start ((fld_at ev_OVERDUE_REMINDER).symm.trans ev_OVERDUE_REMINDER_notice)
  obtain ⟨g85, g86⟩ := and_e g84
  have ev_OVERDUE_REMINDER'_ordinal := own_eqv g85 (v := (.int (1 : Int32))) rfl
  have F_OVERDUE_REMINDER'_ordinal : Fld s s.heap a_OVERDUE_REMINDER' "java/lang/Enum" "ordinal" "I" (.int (1 : Int32)) := Fld.start ((fld_at ev_OVERDUE_REMINDER').symm.trans ev_OVERDUE_REMINDER'_ordinal)
  obtain ⟨g87, g88⟩ := and_e g86
  obtain ⟨a_LATE_FEE, ev_LATE_FEE⟩ := exa_v g87
  have S_LATE_FEE : Sta s s.heap "com/example/careful_invoicing/carefulinvoicing/CollectionStep" "LATE_FEE" "Lcom/example/careful_invoicing/carefulinvoicing/CollectionStep;" (.ref a_LATE_FEE) := Sta.start ev_LATE_FEE (Or.inr ⟨(wd 6 rfl), (wd 64 rfl)⟩)
  have E_LATE_FEE : Exa s s.heap a_LATE_FEE "com/example/careful_invoicing/carefulinvoicing/CollectionStep" := Exa.start ev_LATE_FEE g87
  obtain ⟨g89, g90⟩ := and_e g88
  have ev_LATE_FEE_warned := own_eqv g89 (v := .null) rfl
  have F_LATE_FEE_warned : Fld s s.heap a_LATE_FEE "com/example/careful_invoicing/carefulinvoicing/CollectionStep" "warned" "Lcom/example/careful_invoicing/carefulinvoicing/CollectionStep;" .null := Fld.start ((fld_at ev_LATE_FEE).symm.trans ev_LATE_FEE_warned)
  obtain ⟨g91, g92⟩ := and_e g90
  have ev_LATE_FEE_notice := own_eqv g91 (v := .null) rfl
  have F_LATE_FEE_notice : Fld s s.heap a_LATE_FEE "com/example/careful_invoicing/carefulinvoicing/CollectionStep" "notice" "Lcom/example/careful_invoicing/carefulinvoicing/NoticeKind;" .null := Fld.start ((fld_at ev_LATE_FEE).symm.trans ev_LATE_FEE_notice)
  obtain ⟨g93, g94⟩ := and_e g92
  obtain ⟨a_LIMIT_WARNING', ev_LIMIT_WARNING'⟩ := exa_v g93
  have S_LIMIT_WARNING' : Sta s s.heap "com/example/careful_invoicing/carefulinvoicing/CollectionStep" "LIMIT_WARNING" "Lcom/example/careful_invoicing/carefulinvoicing/CollectionStep;" (.ref a_LIMIT_WARNING') := Sta.start ev_LIMIT_WARNING' (Or.inr ⟨(wd 6 rfl), (wd 66 rfl)⟩)
  have E_LIMIT_WARNING' : Exa s s.heap a_LIMIT_WARNING' "com/example/careful_invoicing/carefulinvoicing/CollectionStep" := Exa.start ev_LIMIT_WARNING' g93
  obtain ⟨g95, g96⟩ := and_e g94
  have ev_LIMIT_WARNING'_warned := own_eqv g95 (v := (.ref a_LIMITATION)) ev_LIMITATION
  have F_LIMIT_WARNING'_warned : Fld s s.heap a_LIMIT_WARNING' "com/example/careful_invoicing/carefulinvoicing/CollectionStep" "warned" "Lcom/example/careful_invoicing/carefulinvoicing/CollectionStep;" (.ref a_LIMITATION) := Fld.start ((fld_at ev_LIMIT_WARNING').symm.trans ev_LIMIT_WARNING'_warned)
  obtain ⟨g97, g98⟩ := and_e g96
  have ev_LIMIT_WARNING'_notice := own_eqv g97 (v := (.ref a_LIMIT_WARNING)) ev_LIMIT_WARNING
  have F_LIMIT_WARNING'_notice : Fld s s.heap a_LIMIT_WARNING' "com/example/careful_invoicing/carefulinvoicing/CollectionStep" "notice" "Lcom/example/careful_invoicing/carefulinvoicing/NoticeKind;" (.ref a_LIMIT_WARNING) := Fld.start ((fld_at ev_LIMIT_WARNING').symm.trans ev_LIMIT_WARNING'_notice)
  obtain ⟨g99, g100⟩ := and_e g98
  have ev_LIMIT_WARNING'_label := own_eqv g99 (v := .null) rfl
  have F_LIMIT_WARNING'_label : Fld s s.heap a_LIMIT_WARNING' "com/example/careful_invoicing/carefulinvoicing/CollectionStep" "label" "Ljava/lang/String;" .null := Fld.start ((fld_at ev_LIMIT_WARNING').symm.trans ev_LIMIT_WARNING'_label)
  obtain ⟨g101, g102⟩ := and_e g100
  obtain ⟨a_LIMITED', ev_LIMITED'⟩ := exa_v g101
  have S_LIMITED' : Sta s s.heap "com/example/careful_invoicing/carefulinvoicing/CustomerStatus" "LIMITED" "Lcom/example/careful_invoicing/carefulinvoicing/CustomerStatus;" (.ref a_LIMITED') := Sta.start ev_LIMITED' (Or.inr ⟨(wd 46 rfl), (wd 67 rfl)⟩)
  have E_LIMITED' : Exa s s.heap a_LIMITED' "com/example/careful_invoicing/carefulinvoicing/CustomerStatus" := Exa.start ev_LIMITED' g101
  obtain ⟨g103, g104⟩ := and_e g102
  have ev_LIMIT_WARNING'_status := own_eqv g103 (v := (.ref a_LIMITED')) ev_LIMITED'
  have F_LIMIT_WARNING'_status : Fld s s.heap a_LIMIT_WARNING' "com/example/careful_invoicing/carefulinvoicing/CollectionStep" "status" "Lcom/example/careful_invoicing/carefulinvoicing/CustomerStatus;" (.ref a_LIMITED') := Fld.start ((fld_at ev_LIMIT_WARNING').symm.trans ev_LIMIT_WARNING'_status)
  obtain ⟨g105, g106⟩ := and_e g104
  obtain ⟨a_TERMINATION_label, ev_TERMINATION_label⟩ := exa_v g105
  have F_TERMINATION_label : Fld s s.heap a_TERMINATION "com/example/careful_invoicing/carefulinvoicing/CollectionStep" "label" "Ljava/lang/String;" (.ref a_TERMINATION_label) := Fld.start ((fld_at ev_TERMINATION).symm.trans ev_TERMINATION_label)
  have E_TERMINATION_label : Exa s s.heap a_TERMINATION_label "java/lang/String" := Exa.start ev_TERMINATION_label g105
  obtain ⟨g107, g108⟩ := and_e g106
  have ev_TERMINATION_status := own_eqv g107 (v := (.ref a_TERMINATED')) ev_TERMINATED'
  have F_TERMINATION_status : Fld s s.heap a_TERMINATION "com/example/careful_invoicing/carefulinvoicing/CollectionStep" "status" "Lcom/example/careful_invoicing/carefulinvoicing/CustomerStatus;" (.ref a_TERMINATED') := Fld.start ((fld_at ev_TERMINATION).symm.trans ev_TERMINATION_status)
  obtain ⟨g109, g110⟩ := and_e g108
  obtain ⟨a_LIMITATION_label, ev_LIMITATION_label⟩ := exa_v g109
  have F_LIMITATION_label : Fld s s.heap a_LIMITATION "com/example/careful_invoicing/carefulinvoicing/CollectionStep" "label" "Ljava/lang/String;" (.ref a_LIMITATION_label) := Fld.start ((fld_at ev_LIMITATION).symm.trans ev_LIMITATION_label)
  have E_LIMITATION_label : Exa s s.heap a_LIMITATION_label "java/lang/String" := Exa.start ev_LIMITATION_label g109
  obtain ⟨g111, g112⟩ := and_e g110
  have ev_LIMITATION_status := own_eqv g111 (v := (.ref a_LIMITED')) ev_LIMITED'
  have F_LIMITATION_status : Fld s s.heap a_LIMITATION "com/example/careful_invoicing/carefulinvoicing/CollectionStep" "status" "Lcom/example/careful_invoicing/carefulinvoicing/CustomerStatus;" (.ref a_LIMITED') := Fld.start ((fld_at ev_LIMITATION).symm.trans ev_LIMITATION_status)
  obtain ⟨g113, g114⟩ := and_e g112
  obtain ⟨a_SUSPENSION_label, ev_SUSPENSION_label⟩ := exa_v g113
  have F_SUSPENSION_label : Fld s s.heap a_SUSPENSION "com/example/careful_invoicing/carefulinvoicing/CollectionStep" "label" "Ljava/lang/String;" (.ref a_SUSPENSION_label) := Fld.start ((fld_at ev_SUSPENSION).symm.trans ev_SUSPENSION_label)
  have E_SUSPENSION_label : Exa s s.heap a_SUSPENSION_label "java/lang/String" := Exa.start ev_SUSPENSION_label g113
  obtain ⟨g115, g116⟩ := and_e g114
  have ev_SUSPENSION_status := own_eqv g115 (v := (.ref a_SUSPENDED')) ev_SUSPENDED'
  have F_SUSPENSION_status : Fld s s.heap a_SUSPENSION "com/example/careful_invoicing/carefulinvoicing/CollectionStep" "status" "Lcom/example/careful_invoicing/carefulinvoicing/CustomerStatus;" (.ref a_SUSPENDED') := Fld.start ((fld_at ev_SUSPENSION).symm.trans ev_SUSPENSION_status)
  obtain ⟨g117, g118⟩ := and_e g116
  have ev_DUE_REMINDER_label := own_eqv g117 (v := .null) rfl
  have F_DUE_REMINDER_label : Fld s s.heap a_DUE_REMINDER "com/example/careful_invoicing/carefulinvoicing/CollectionStep" "label" "Ljava/lang/String;" .null := Fld.start ((fld_at ev_DUE_REMINDER).symm.trans ev_DUE_REMINDER_label)
  obtain ⟨g119, g120⟩ := and_e g118
  have ev_DUE_REMINDER_status := own_eqv g119 (v := .null) rfl
  have F_DUE_REMINDER_status : Fld s s.heap a_DUE_REMINDER "com/example/careful_invoicing/carefulinvoicing/CollectionStep" "status" "Lcom/example/careful_invoicing/carefulinvoicing/CustomerStatus;" .null := Fld.start ((fld_at ev_DUE_REMINDER).symm.trans ev_DUE_REMINDER_status)
  obtain ⟨g121, g122⟩ := and_e g120
  have ev_OVERDUE_REMINDER_label := own_eqv g121 (v := .null) rfl
  have F_OVERDUE_REMINDER_label : Fld s s.heap a_OVERDUE_REMINDER "com/example/careful_invoicing/carefulinvoicing/CollectionStep" "label" "Ljava/lang/String;" .null := Fld.start ((fld_at ev_OVERDUE_REMINDER).symm.trans ev_OVERDUE_REMINDER_label)
  obtain ⟨g123, g124⟩ := and_e g122
  have ev_OVERDUE_REMINDER_status := own_eqv g123 (v := .null) rfl
  have F_OVERDUE_REMINDER_status : Fld s s.heap a_OVERDUE_REMINDER "com/example/careful_invoicing/carefulinvoicing/CollectionStep" "status" "Lcom/example/careful_invoicing/carefulinvoicing/CustomerStatus;" .null := Fld.start ((fld_at ev_OVERDUE_REMINDER).symm.trans ev_OVERDUE_REMINDER_status)
  obtain ⟨g125, g126⟩ := and_e g124
  have ev_LATE_FEE_label := own_eqv g125 (v := .null) rfl
  have F_LATE_FEE_label : Fld s s.heap a_LATE_FEE "com/example/careful_invoicing/carefulinvoicing/CollectionStep" "label" "Ljava/lang/String;" .null := Fld.start ((fld_at ev_LATE_FEE).symm.trans ev_LATE_FEE_label)
  have ev_LATE_FEE_status := own_eqv g126 (v := .null) rfl
  have F_LATE_FEE_status : Fld s s.heap a_LATE_FEE "com/example/careful_invoicing/carefulinvoicing/CollectionStep" "status" "Lcom/example/careful_invoicing/carefulinvoicing/CustomerStatus;" .null := Fld.start ((fld_at ev_LATE_FEE).symm.trans ev_LATE_FEE_status)
  have ne_TERMINATED_LIMIT_WARNING : a_TERMINATED ≠ a_LIMIT_WARNING := Fld.ne F_TERMINATED_ordinal F_LIMIT_WARNING_ordinal (by decide)
  have ne_TERMINATED_SUSPEND_WARNING : a_TERMINATED ≠ a_SUSPEND_WARNING := Fld.ne F_TERMINATED_ordinal F_SUSPEND_WARNING_ordinal (by decide)
  have ne_TERMINATED_TERMINATE_WARNING : a_TERMINATED ≠ a_TERMINATE_WARNING := Fld.ne F_TERMINATED_ordinal F_TERMINATE_WARNING_ordinal (by decide)
  have ne_TERMINATED_LIMITED : a_TERMINATED ≠ a_LIMITED := Fld.ne F_TERMINATED_ordinal F_LIMITED_ordinal (by decide)
  have ne_TERMINATED_SUSPENDED : a_TERMINATED ≠ a_SUSPENDED := Fld.ne F_TERMINATED_ordinal F_SUSPENDED_ordinal (by decide)
  have ne_TERMINATED_DUE_REMINDER' : a_TERMINATED ≠ a_DUE_REMINDER' := Fld.ne F_TERMINATED_ordinal F_DUE_REMINDER'_ordinal (by decide)
  have ne_TERMINATED_OVERDUE_REMINDER' : a_TERMINATED ≠ a_OVERDUE_REMINDER' := Fld.ne F_TERMINATED_ordinal F_OVERDUE_REMINDER'_ordinal (by decide)
  have ne_LIMIT_WARNING_SUSPEND_WARNING : a_LIMIT_WARNING ≠ a_SUSPEND_WARNING := Fld.ne F_LIMIT_WARNING_ordinal F_SUSPEND_WARNING_ordinal (by decide)
  have ne_LIMIT_WARNING_TERMINATE_WARNING : a_LIMIT_WARNING ≠ a_TERMINATE_WARNING := Fld.ne F_LIMIT_WARNING_ordinal F_TERMINATE_WARNING_ordinal (by decide)
  have ne_LIMIT_WARNING_LIMITED : a_LIMIT_WARNING ≠ a_LIMITED := Fld.ne F_LIMIT_WARNING_ordinal F_LIMITED_ordinal (by decide)
  have ne_LIMIT_WARNING_SUSPENDED : a_LIMIT_WARNING ≠ a_SUSPENDED := Fld.ne F_LIMIT_WARNING_ordinal F_SUSPENDED_ordinal (by decide)
  have ne_LIMIT_WARNING_DUE_REMINDER' : a_LIMIT_WARNING ≠ a_DUE_REMINDER' := Fld.ne F_LIMIT_WARNING_ordinal F_DUE_REMINDER'_ordinal (by decide)
  have ne_LIMIT_WARNING_OVERDUE_REMINDER' : a_LIMIT_WARNING ≠ a_OVERDUE_REMINDER' := Fld.ne F_LIMIT_WARNING_ordinal F_OVERDUE_REMINDER'_ordinal (by decide)
  have ne_SUSPEND_WARNING_TERMINATE_WARNING : a_SUSPEND_WARNING ≠ a_TERMINATE_WARNING := Fld.ne F_SUSPEND_WARNING_ordinal F_TERMINATE_WARNING_ordinal (by decide)
  have ne_SUSPEND_WARNING_LIMITED : a_SUSPEND_WARNING ≠ a_LIMITED := Fld.ne F_SUSPEND_WARNING_ordinal F_LIMITED_ordinal (by decide)
  have ne_SUSPEND_WARNING_SUSPENDED : a_SUSPEND_WARNING ≠ a_SUSPENDED := Fld.ne F_SUSPEND_WARNING_ordinal F_SUSPENDED_ordinal (by decide)
  have ne_SUSPEND_WARNING_DUE_REMINDER' : a_SUSPEND_WARNING ≠ a_DUE_REMINDER' := Fld.ne F_SUSPEND_WARNING_ordinal F_DUE_REMINDER'_ordinal (by decide)
  have ne_SUSPEND_WARNING_OVERDUE_REMINDER' : a_SUSPEND_WARNING ≠ a_OVERDUE_REMINDER' := Fld.ne F_SUSPEND_WARNING_ordinal F_OVERDUE_REMINDER'_ordinal (by decide)
  have ne_TERMINATE_WARNING_LIMITED : a_TERMINATE_WARNING ≠ a_LIMITED := Fld.ne F_TERMINATE_WARNING_ordinal F_LIMITED_ordinal (by decide)
  have ne_TERMINATE_WARNING_SUSPENDED : a_TERMINATE_WARNING ≠ a_SUSPENDED := Fld.ne F_TERMINATE_WARNING_ordinal F_SUSPENDED_ordinal (by decide)
  have ne_TERMINATE_WARNING_DUE_REMINDER' : a_TERMINATE_WARNING ≠ a_DUE_REMINDER' := Fld.ne F_TERMINATE_WARNING_ordinal F_DUE_REMINDER'_ordinal (by decide)
  have ne_TERMINATE_WARNING_OVERDUE_REMINDER' : a_TERMINATE_WARNING ≠ a_OVERDUE_REMINDER' := Fld.ne F_TERMINATE_WARNING_ordinal F_OVERDUE_REMINDER'_ordinal (by decide)
  have ne_LIMITED_SUSPENDED : a_LIMITED ≠ a_SUSPENDED := Fld.ne F_LIMITED_ordinal F_SUSPENDED_ordinal (by decide)
  have ne_LIMITED_DUE_REMINDER' : a_LIMITED ≠ a_DUE_REMINDER' := Fld.ne F_LIMITED_ordinal F_DUE_REMINDER'_ordinal (by decide)
  have ne_LIMITED_OVERDUE_REMINDER' : a_LIMITED ≠ a_OVERDUE_REMINDER' := Fld.ne F_LIMITED_ordinal F_OVERDUE_REMINDER'_ordinal (by decide)
  have ne_SUSPENDED_DUE_REMINDER' : a_SUSPENDED ≠ a_DUE_REMINDER' := Fld.ne F_SUSPENDED_ordinal F_DUE_REMINDER'_ordinal (by decide)
  have ne_SUSPENDED_OVERDUE_REMINDER' : a_SUSPENDED ≠ a_OVERDUE_REMINDER' := Fld.ne F_SUSPENDED_ordinal F_OVERDUE_REMINDER'_ordinal (by decide)
  have ne_DUE_REMINDER'_OVERDUE_REMINDER' : a_DUE_REMINDER' ≠ a_OVERDUE_REMINDER' := Fld.ne F_DUE_REMINDER'_ordinal F_OVERDUE_REMINDER'_ordinal (by decide)
  obtain ⟨n, o, h1, h2, h3, _, L, rfl, ⟨rfl, N⟩, hq⟩ := rm0 l s _ hw i0 a_TERMINATION a_TERMINATED a_LIMIT_WARNING a_SUSPEND_WARNING a_TERMINATE_WARNING a_TERMINATE_WARNING' a_TERMINATED' a_LIMITATION a_LIMITED a_SUSPENSION a_SUSPENDED a_DUE_REMINDER a_DUE_REMINDER' a_SUSPEND_WARNING' a_SUSPENDED' a_OVERDUE_REMINDER a_OVERDUE_REMINDER' a_LATE_FEE a_LIMIT_WARNING' a_LIMITED' a_TERMINATION_label a_LIMITATION_label a_SUSPENSION_label ⟨S_TERMINATION, E_TERMINATION, F_TERMINATION_warned, S_TERMINATED, E_TERMINATED, F_TERMINATION_notice, S_LIMIT_WARNING, E_LIMIT_WARNING, F_TERMINATED_ordinal, F_LIMIT_WARNING_ordinal, S_SUSPEND_WARNING, E_SUSPEND_WARNING, F_SUSPEND_WARNING_ordinal, S_TERMINATE_WARNING, E_TERMINATE_WARNING, F_TERMINATE_WARNING_ordinal, S_TERMINATE_WARNING', E_TERMINATE_WARNING', F_TERMINATE_WARNING'_warned, F_TERMINATE_WARNING'_notice, F_TERMINATE_WARNING'_label, S_TERMINATED', E_TERMINATED', F_TERMINATE_WARNING'_status, S_LIMITATION, E_LIMITATION, F_LIMITATION_warned, S_LIMITED, E_LIMITED, F_LIMITATION_notice, F_LIMITED_ordinal, S_SUSPENSION, E_SUSPENSION, F_SUSPENSION_warned, S_SUSPENDED, E_SUSPENDED, F_SUSPENSION_notice, F_SUSPENDED_ordinal, S_DUE_REMINDER, E_DUE_REMINDER, F_DUE_REMINDER_warned, S_DUE_REMINDER', E_DUE_REMINDER', F_DUE_REMINDER_notice, F_DUE_REMINDER'_ordinal, S_SUSPEND_WARNING', E_SUSPEND_WARNING', F_SUSPEND_WARNING'_warned, F_SUSPEND_WARNING'_notice, F_SUSPEND_WARNING'_label, S_SUSPENDED', E_SUSPENDED', F_SUSPEND_WARNING'_status, S_OVERDUE_REMINDER, E_OVERDUE_REMINDER, F_OVERDUE_REMINDER_warned, S_OVERDUE_REMINDER', E_OVERDUE_REMINDER', F_OVERDUE_REMINDER_notice, F_OVERDUE_REMINDER'_ordinal, S_LATE_FEE, E_LATE_FEE, F_LATE_FEE_warned, F_LATE_FEE_notice, S_LIMIT_WARNING', E_LIMIT_WARNING', F_LIMIT_WARNING'_warned, F_LIMIT_WARNING'_notice, F_LIMIT_WARNING'_label, S_LIMITED', E_LIMITED', F_LIMIT_WARNING'_status, F_TERMINATION_label, E_TERMINATION_label, F_TERMINATION_status, F_LIMITATION_label, E_LIMITATION_label, F_LIMITATION_status, F_SUSPENSION_label, E_SUSPENSION_label, F_SUSPENSION_status, F_DUE_REMINDER_label, F_DUE_REMINDER_status, F_OVERDUE_REMINDER_label, F_OVERDUE_REMINDER_status, F_LATE_FEE_label, F_LATE_FEE_status, ne_TERMINATED_LIMIT_WARNING, ne_TERMINATED_SUSPEND_WARNING, ne_TERMINATED_TERMINATE_WARNING, ne_TERMINATED_LIMITED, ne_TERMINATED_SUSPENDED, ne_TERMINATED_DUE_REMINDER', ne_TERMINATED_OVERDUE_REMINDER', ne_LIMIT_WARNING_SUSPEND_WARNING, ne_LIMIT_WARNING_TERMINATE_WARNING, ne_LIMIT_WARNING_LIMITED, ne_LIMIT_WARNING_SUSPENDED, ne_LIMIT_WARNING_DUE_REMINDER', ne_LIMIT_WARNING_OVERDUE_REMINDER', ne_SUSPEND_WARNING_TERMINATE_WARNING, ne_SUSPEND_WARNING_LIMITED, ne_SUSPEND_WARNING_SUSPENDED, ne_SUSPEND_WARNING_DUE_REMINDER', ne_SUSPEND_WARNING_OVERDUE_REMINDER', ne_TERMINATE_WARNING_LIMITED, ne_TERMINATE_WARNING_SUSPENDED, ne_TERMINATE_WARNING_DUE_REMINDER', ne_TERMINATE_WARNING_OVERDUE_REMINDER', ne_LIMITED_SUSPENDED, ne_LIMITED_DUE_REMINDER', ne_LIMITED_OVERDUE_REMINDER', ne_SUSPENDED_DUE_REMINDER', ne_SUSPENDED_OVERDUE_REMINDER', ne_DUE_REMINDER'_OVERDUE_REMINDER'⟩ tables_1 p e ha hc hk s m _ below hf ((Spec.applies_iff_loose hf).mp happ).1 ⟨rfl, State.Warmed39.refl s, rfl⟩ trivial
  refine ⟨n, _, h1, h2, h3, hpost _ _ _ _ _ _ ⟨Cond.after_iff.mpr rfl, Cond.after_iff.mpr (eq_i res_at (Term.int_eval (1)) rfl), trivial⟩ ⟨hq.1, hq.2.1, (hq.2.2.sift fun y hy => Or.inr (N y hy)).mono (by decide) (by decide)⟩⟩
theorem main_1_1 : Claimed_1_1 := comes_1 fun _ _ _ _ _ _ h hF => ⟨h.1, hF⟩
theorem main_1_2 : Claimed_1_2 := comes_1 fun _ _ _ _ _ _ h hF => ⟨h.2.1, hF⟩
end Jvm.Pilot.@@N@@
namespace Jvm.Pilot.@@N@@
open Jvm Jvm.ClassFile Sem Op Lib Jvm.Free Jvm.Stand Jvm.Pilot.@@N@@.Jvm.D
/-! MADE BY PROGRAM (witnessworld.py) out of the Statement's table words and the real class files: 18 classes; the members and pool entries that the words name. The judged class is class 1, her method 2. -/
namespace start1
open Jvm.ClassFile
def u (s : String) : CpInfo := .utf8 (stringToUtf16 s)
/-- a pool by its gaps: so many unusable entries, then the entry; so many at the end -/
def gap : Nat → List CpInfo → List CpInfo
  | 0, r => r
  | n + 1, r => .unusable :: gap n r
def poolList (es : List (Nat × CpInfo)) (last : Nat) : List CpInfo := es.foldr (fun e r => gap e.1 (e.2 :: r)) (gap last [])
def pool (es : List (Nat × CpInfo)) (last : Nat) : Array CpInfo := ⟨poolList es last⟩
def fileOf (pool : Array CpInfo) (this : Nat) (attrs : Array Attribute := #[]) (ms : Array MethodInfo := #[]) (fl : Nat := 33) (sup : Nat := 0) (ifs : Array Nat := #[]) (fds : Array FieldInfo := #[]) : ClassFile where
  minorVersion := 0
  majorVersion := 65
  constantPool := pool
  accessFlags := fl
  thisClass := this
  superClass := sup
  interfaces := ifs
  fields := fds
  methods := ms
  attributes := attrs
def plain (name : String) (sup : Option ClassId) : Class where
  name := name
  kind := .ordinary
  loader := none
  accessFlags := 33
  super := sup
  interfaces := #[]
  cf := none
  fields := #[]
  methods := #[]
  instanceTypes := #[]
  staticTypes := #[]
  resolved := #[]
  callSites := []
  init := .initialized
  statics := none
  mirror := none

def pool0 : Array CpInfo := pool [(5, u "<init>"), (0, u "()V"), (1, .class_ 10), (1, u "java/lang/Object")] 113

def k0m0 : Method := { name := "<init>", desc := "()V", sig := { parameters := [], returnType := none }, accessFlags := 1, code := none }
/-- java/lang/Object -/
def k0 : Class := { plain "java/lang/Object" none with
  accessFlags := 33
  interfaces := #[]
  cf := some (fileOf pool0 8 #[] #[{ accessFlags := 1, nameIndex := 5, descriptorIndex := 6, attributes := #[] }] 33 0 #[] #[])
  fields := #[]
  methods := #[k0m0]
  instanceTypes := #[]
  staticTypes := #[]
  resolved := Array.replicate 124 none
  statics := none }

def pool1 : Array CpInfo := pool [(2, .class_ 4), (1, u "java/lang/Object"), (0, u "<init>"), (0, u "()V"), (0, .fieldref 8 9), (0, .class_ 10), (0, .nameAndType 11 12), (0, u "com/example/careful_invoicing/carefulinvoicing/CollectionStep"), (0, u "TERMINATION"), (0, u "Lcom/example/careful_invoicing/carefulinvoicing/CollectionStep;"), (0, .fieldref 8 14), (0, .nameAndType 15 12), (0, u "SUSPENSION"), (0, .fieldref 8 17), (0, .nameAndType 18 12), (0, u "LIMITATION"), (0, .fieldref 8 20), (0, .nameAndType 21 12), (0, u "TERMINATE_WARNING"), (0, .fieldref 8 23), (0, .nameAndType 24 12), (0, u "SUSPEND_WARNING"), (0, .fieldref 8 26), (0, .nameAndType 27 12), (0, u "LIMIT_WARNING"), (0, .fieldref 8 29), (0, .nameAndType 30 12), (0, u "LATE_FEE"), (0, .fieldref 8 32), (0, .nameAndType 33 12), (0, u "DUE_REMINDER"), (0, .fieldref 8 35), (0, .nameAndType 36 12), (0, u "OVERDUE_REMINDER"), (0, .integer 2147483647), (0, .methodref 39 40), (0, .class_ 41), (0, .nameAndType 42 43), (0, u "com/example/careful_invoicing/carefulinvoicing/CollectionStepIsWarningPinLaw"), (0, u "pick"), (0, u "(I)Lcom/example/careful_invoicing/carefulinvoicing/CollectionStep;"), (0, .methodref 8 45), (0, .nameAndType 46 47), (0, u "isWarning"), (0, u "()Z"), (0, .methodref 8 49), (0, .nameAndType 50 51), (0, u "notice"), (0, u "()Lcom/example/careful_invoicing/carefulinvoicing/NoticeKind;"), (0, .fieldref 53 54), (0, .class_ 55), (0, .nameAndType 27 56), (0, u "com/example/careful_invoicing/carefulinvoicing/NoticeKind"), (0, u "Lcom/example/careful_invoicing/carefulinvoicing/NoticeKind;"), (0, .fieldref 53 58), (0, .nameAndType 24 56), (0, .fieldref 53 60), (0, .nameAndType 21 56), (0, .methodref 8 62), (0, .nameAndType 63 47), (0, u "isAction"), (0, .methodref 8 65), (0, .nameAndType 66 67), (0, u "status"), (0, u "()Lcom/example/careful_invoicing/carefulinvoicing/CustomerStatus;"), (3, u "law"), (0, u "(I)Z")] 2

def k1m0 : Method := { name := "<init>", desc := "()V", sig := { parameters := [], returnType := none }, accessFlags := 1, code := none }
def k1c1 : Code := { maxStack := 2, maxLocals := 1, code := method_2_code, exceptionTable := #[], attributes := #[] }
def k1m1 : Method := { name := "pick", desc := "(I)Lcom/example/careful_invoicing/carefulinvoicing/CollectionStep;", sig := { parameters := [.int], returnType := some (.object "com/example/careful_invoicing/carefulinvoicing/CollectionStep") }, accessFlags := 10, code := some k1c1 }
def k1c2 : Code := { maxStack := 2, maxLocals := 8, code := code, exceptionTable := #[], attributes := #[] }
def k1m2 : Method := { name := "law", desc := "(I)Z", sig := { parameters := [.int], returnType := some .boolean }, accessFlags := 9, code := some k1c2 }
/-- com/example/careful_invoicing/carefulinvoicing/CollectionStepIsWarningPinLaw -/
def k1 : Class := { plain "com/example/careful_invoicing/carefulinvoicing/CollectionStepIsWarningPinLaw" (some 0) with
  accessFlags := 49
  interfaces := #[]
  cf := some (fileOf pool1 39 #[] #[{ accessFlags := 1, nameIndex := 5, descriptorIndex := 6, attributes := #[] }, { accessFlags := 10, nameIndex := 42, descriptorIndex := 43, attributes := #[] }, { accessFlags := 9, nameIndex := 71, descriptorIndex := 72, attributes := #[] }] 49 2 #[] #[])
  fields := #[]
  methods := #[k1m0, k1m1, k1m2]
  instanceTypes := #[]
  staticTypes := #[]
  resolved := Array.replicate 75 none
  statics := none }

def pool2 : Array CpInfo := pool [(1, .class_ 2), (0, u "java/lang/constant/Constable"), (0, .class_ 4), (0, u "java/lang/Object")] 6

/-- java/lang/constant/Constable -/
def k2 : Class := { plain "java/lang/constant/Constable" (some 0) with
  accessFlags := 1537
  interfaces := #[]
  cf := some (fileOf pool2 1 #[] #[] 1537 3 #[] #[])
  fields := #[]
  methods := #[]
  instanceTypes := #[]
  staticTypes := #[]
  resolved := Array.replicate 11 none
  statics := none }

def pool3 : Array CpInfo := pool [(1, .class_ 2), (0, u "java/lang/Comparable"), (0, .class_ 4), (0, u "java/lang/Object")] 7

/-- java/lang/Comparable -/
def k3 : Class := { plain "java/lang/Comparable" (some 0) with
  accessFlags := 1537
  interfaces := #[]
  cf := some (fileOf pool3 1 #[] #[] 1537 3 #[] #[])
  fields := #[]
  methods := #[]
  instanceTypes := #[]
  staticTypes := #[]
  resolved := Array.replicate 12 none
  statics := none }

def pool4 : Array CpInfo := pool [(1, .class_ 2), (0, u "java/io/Serializable"), (0, .class_ 4), (0, u "java/lang/Object")] 2

/-- java/io/Serializable -/
def k4 : Class := { plain "java/io/Serializable" (some 0) with
  accessFlags := 1537
  interfaces := #[]
  cf := some (fileOf pool4 1 #[] #[] 1537 3 #[] #[])
  fields := #[]
  methods := #[]
  instanceTypes := #[]
  staticTypes := #[]
  resolved := Array.replicate 7 none
  statics := none }

def pool5 : Array CpInfo := pool [(2, .class_ 4), (1, u "java/lang/Enum"), (0, u "name"), (0, u "Ljava/lang/String;"), (2, u "ordinal"), (0, u "I"), (1, .class_ 14), (1, u "java/lang/Object"), (4, u "hash"), (86, .class_ 108), (1, u "java/lang/Enum$EnumDesc"), (2, .class_ 112), (0, u "java/lang/constant/Constable"), (0, .class_ 114), (0, u "java/lang/Comparable"), (0, .class_ 116), (0, u "java/io/Serializable")] 87

/-- java/lang/Enum -/
def k5 : Class := { plain "java/lang/Enum" (some 0) with
  accessFlags := 1057
  interfaces := #[2, 3, 4]
  cf := some (fileOf pool5 2 #[.nestMembers #[106]] #[] 1057 12 #[111, 113, 115] #[{ accessFlags := 18, nameIndex := 5, descriptorIndex := 6, attributes := #[] }, { accessFlags := 18, nameIndex := 9, descriptorIndex := 10, attributes := #[] }, { accessFlags := 2, nameIndex := 19, descriptorIndex := 10, attributes := #[] }])
  fields := #[{ name := "name", type := (.object "java/lang/String"), accessFlags := 18, slot := 0, constantValue := 0 }, { name := "ordinal", type := .int, accessFlags := 18, slot := 1, constantValue := 0 }, { name := "hash", type := .int, accessFlags := 2, slot := 2, constantValue := 0 }]
  methods := #[]
  instanceTypes := #[(.object "java/lang/String"), .int, .int]
  staticTypes := #[]
  resolved := Array.replicate 204 none
  statics := none }

def pool6 : Array CpInfo := pool [(1, .class_ 2), (0, u "com/example/careful_invoicing/carefulinvoicing/CollectionStep"), (2, u "TERMINATION"), (0, u "Lcom/example/careful_invoicing/carefulinvoicing/CollectionStep;"), (2, u "SUSPENSION"), (2, u "LIMITATION"), (2, u "TERMINATE_WARNING"), (2, u "SUSPEND_WARNING"), (2, u "LIMIT_WARNING"), (2, u "LATE_FEE"), (2, u "DUE_REMINDER"), (2, u "OVERDUE_REMINDER"), (2, u "$VALUES"), (0, u "[Lcom/example/careful_invoicing/carefulinvoicing/CollectionStep;"), (6, .class_ 43), (1, u "java/lang/Enum"), (6, .fieldref 1 51), (0, .nameAndType 52 53), (0, u "notice"), (0, u "Lcom/example/careful_invoicing/carefulinvoicing/NoticeKind;"), (0, .fieldref 1 55), (0, .nameAndType 56 57), (0, u "status"), (0, u "Lcom/example/careful_invoicing/carefulinvoicing/CustomerStatus;"), (0, .fieldref 1 59), (0, .nameAndType 60 61), (0, u "label"), (0, u "Ljava/lang/String;"), (2, u "leastDays"), (0, u "I"), (2, u "leastDaysAfterEarlier"), (0, .fieldref 1 70), (0, .nameAndType 71 6), (0, u "warned"), (135, u "()Lcom/example/careful_invoicing/carefulinvoicing/NoticeKind;"), (0, u "isAction"), (0, u "()Z"), (1, u "isWarning"), (0, u "()Lcom/example/careful_invoicing/carefulinvoicing/CustomerStatus;")] 56

def k6c0 : Code := { maxStack := 1, maxLocals := 1, code := prog_3_method_7_code, exceptionTable := #[], attributes := #[] }
def k6m0 : Method := { name := "notice", desc := "()Lcom/example/careful_invoicing/carefulinvoicing/NoticeKind;", sig := { parameters := [], returnType := some (.object "com/example/careful_invoicing/carefulinvoicing/NoticeKind") }, accessFlags := 1, code := some k6c0 }
def k6c1 : Code := { maxStack := 1, maxLocals := 1, code := prog_3_method_8_code, exceptionTable := #[], attributes := #[] }
def k6m1 : Method := { name := "isAction", desc := "()Z", sig := { parameters := [], returnType := some .boolean }, accessFlags := 1, code := some k6c1 }
def k6c2 : Code := { maxStack := 1, maxLocals := 1, code := prog_3_method_9_code, exceptionTable := #[], attributes := #[] }
def k6m2 : Method := { name := "isWarning", desc := "()Z", sig := { parameters := [], returnType := some .boolean }, accessFlags := 1, code := some k6c2 }
def k6c3 : Code := { maxStack := 1, maxLocals := 1, code := prog_3_method_10_code, exceptionTable := #[], attributes := #[] }
def k6m3 : Method := { name := "status", desc := "()Lcom/example/careful_invoicing/carefulinvoicing/CustomerStatus;", sig := { parameters := [], returnType := some (.object "com/example/careful_invoicing/carefulinvoicing/CustomerStatus") }, accessFlags := 1, code := some k6c3 }
/-- com/example/careful_invoicing/carefulinvoicing/CollectionStep -/
def k6 : Class := { plain "com/example/careful_invoicing/carefulinvoicing/CollectionStep" (some 5) with
  accessFlags := 16433
  interfaces := #[]
  cf := some (fileOf pool6 1 #[] #[{ accessFlags := 1, nameIndex := 52, descriptorIndex := 207, attributes := #[] }, { accessFlags := 1, nameIndex := 208, descriptorIndex := 209, attributes := #[] }, { accessFlags := 1, nameIndex := 211, descriptorIndex := 209, attributes := #[] }, { accessFlags := 1, nameIndex := 56, descriptorIndex := 212, attributes := #[] }] 16433 41 #[] #[{ accessFlags := 16409, nameIndex := 5, descriptorIndex := 6, attributes := #[] }, { accessFlags := 16409, nameIndex := 9, descriptorIndex := 6, attributes := #[] }, { accessFlags := 16409, nameIndex := 12, descriptorIndex := 6, attributes := #[] }, { accessFlags := 16409, nameIndex := 15, descriptorIndex := 6, attributes := #[] }, { accessFlags := 16409, nameIndex := 18, descriptorIndex := 6, attributes := #[] }, { accessFlags := 16409, nameIndex := 21, descriptorIndex := 6, attributes := #[] }, { accessFlags := 16409, nameIndex := 24, descriptorIndex := 6, attributes := #[] }, { accessFlags := 16409, nameIndex := 27, descriptorIndex := 6, attributes := #[] }, { accessFlags := 16409, nameIndex := 30, descriptorIndex := 6, attributes := #[] }, { accessFlags := 18, nameIndex := 52, descriptorIndex := 53, attributes := #[] }, { accessFlags := 18, nameIndex := 56, descriptorIndex := 57, attributes := #[] }, { accessFlags := 18, nameIndex := 60, descriptorIndex := 61, attributes := #[] }, { accessFlags := 18, nameIndex := 64, descriptorIndex := 65, attributes := #[] }, { accessFlags := 18, nameIndex := 68, descriptorIndex := 65, attributes := #[] }, { accessFlags := 18, nameIndex := 71, descriptorIndex := 6, attributes := #[] }, { accessFlags := 4122, nameIndex := 33, descriptorIndex := 34, attributes := #[] }])
  fields := #[{ name := "TERMINATION", type := (.object "com/example/careful_invoicing/carefulinvoicing/CollectionStep"), accessFlags := 16409, slot := 0, constantValue := 0 }, { name := "SUSPENSION", type := (.object "com/example/careful_invoicing/carefulinvoicing/CollectionStep"), accessFlags := 16409, slot := 1, constantValue := 0 }, { name := "LIMITATION", type := (.object "com/example/careful_invoicing/carefulinvoicing/CollectionStep"), accessFlags := 16409, slot := 2, constantValue := 0 }, { name := "TERMINATE_WARNING", type := (.object "com/example/careful_invoicing/carefulinvoicing/CollectionStep"), accessFlags := 16409, slot := 3, constantValue := 0 }, { name := "SUSPEND_WARNING", type := (.object "com/example/careful_invoicing/carefulinvoicing/CollectionStep"), accessFlags := 16409, slot := 4, constantValue := 0 }, { name := "LIMIT_WARNING", type := (.object "com/example/careful_invoicing/carefulinvoicing/CollectionStep"), accessFlags := 16409, slot := 5, constantValue := 0 }, { name := "LATE_FEE", type := (.object "com/example/careful_invoicing/carefulinvoicing/CollectionStep"), accessFlags := 16409, slot := 6, constantValue := 0 }, { name := "DUE_REMINDER", type := (.object "com/example/careful_invoicing/carefulinvoicing/CollectionStep"), accessFlags := 16409, slot := 7, constantValue := 0 }, { name := "OVERDUE_REMINDER", type := (.object "com/example/careful_invoicing/carefulinvoicing/CollectionStep"), accessFlags := 16409, slot := 8, constantValue := 0 }, { name := "notice", type := (.object "com/example/careful_invoicing/carefulinvoicing/NoticeKind"), accessFlags := 18, slot := 3, constantValue := 0 }, { name := "status", type := (.object "com/example/careful_invoicing/carefulinvoicing/CustomerStatus"), accessFlags := 18, slot := 4, constantValue := 0 }, { name := "label", type := (.object "java/lang/String"), accessFlags := 18, slot := 5, constantValue := 0 }, { name := "leastDays", type := .int, accessFlags := 18, slot := 6, constantValue := 0 }, { name := "leastDaysAfterEarlier", type := .int, accessFlags := 18, slot := 7, constantValue := 0 }, { name := "warned", type := (.object "com/example/careful_invoicing/carefulinvoicing/CollectionStep"), accessFlags := 18, slot := 8, constantValue := 0 }, { name := "$VALUES", type := (.array (.object "com/example/careful_invoicing/carefulinvoicing/CollectionStep")), accessFlags := 4122, slot := 9, constantValue := 0 }]
  methods := #[k6m0, k6m1, k6m2, k6m3]
  instanceTypes := #[(.object "java/lang/String"), .int, .int, (.object "com/example/careful_invoicing/carefulinvoicing/NoticeKind"), (.object "com/example/careful_invoicing/carefulinvoicing/CustomerStatus"), (.object "java/lang/String"), .int, .int, (.object "com/example/careful_invoicing/carefulinvoicing/CollectionStep")]
  staticTypes := #[(.object "com/example/careful_invoicing/carefulinvoicing/CollectionStep"), (.object "com/example/careful_invoicing/carefulinvoicing/CollectionStep"), (.object "com/example/careful_invoicing/carefulinvoicing/CollectionStep"), (.object "com/example/careful_invoicing/carefulinvoicing/CollectionStep"), (.object "com/example/careful_invoicing/carefulinvoicing/CollectionStep"), (.object "com/example/careful_invoicing/carefulinvoicing/CollectionStep"), (.object "com/example/careful_invoicing/carefulinvoicing/CollectionStep"), (.object "com/example/careful_invoicing/carefulinvoicing/CollectionStep"), (.object "com/example/careful_invoicing/carefulinvoicing/CollectionStep"), (.array (.object "com/example/careful_invoicing/carefulinvoicing/CollectionStep"))]
  resolved := Array.replicate 269 none
  statics := some 0 }

def pool7 : Array CpInfo := pool [(18, .class_ 20), (1, u "com/example/careful_invoicing/carefulinvoicing/Labelled"), (27, .class_ 49), (0, u "java/lang/Object")] 28

/-- com/example/careful_invoicing/carefulinvoicing/Labelled -/
def k7 : Class := { plain "com/example/careful_invoicing/carefulinvoicing/Labelled" (some 0) with
  accessFlags := 1537
  interfaces := #[]
  cf := some (fileOf pool7 18 #[] #[] 1537 48 #[] #[])
  fields := #[]
  methods := #[]
  instanceTypes := #[]
  staticTypes := #[]
  resolved := Array.replicate 78 none
  statics := none }

def pool8 : Array CpInfo := pool [(1, .class_ 2), (0, u "com/example/careful_invoicing/carefulinvoicing/NoticeKind"), (2, u "DUE_REMINDER"), (0, u "Lcom/example/careful_invoicing/carefulinvoicing/NoticeKind;"), (2, u "OVERDUE_REMINDER"), (2, u "LIMIT_WARNING"), (2, u "LIMITED"), (2, u "SUSPEND_WARNING"), (2, u "SUSPENDED"), (2, u "TERMINATE_WARNING"), (2, u "TERMINATED"), (2, u "REACTIVATED"), (2, u "$VALUES"), (0, u "[Lcom/example/careful_invoicing/carefulinvoicing/NoticeKind;"), (6, .class_ 43), (1, u "java/lang/Enum"), (8, u "label"), (0, u "Ljava/lang/String;"), (7, .class_ 63), (1, u "com/example/careful_invoicing/carefulinvoicing/Labelled")] 48

/-- com/example/careful_invoicing/carefulinvoicing/NoticeKind -/
def k8 : Class := { plain "com/example/careful_invoicing/carefulinvoicing/NoticeKind" (some 5) with
  accessFlags := 16433
  interfaces := #[7]
  cf := some (fileOf pool8 1 #[] #[] 16433 41 #[61] #[{ accessFlags := 16409, nameIndex := 5, descriptorIndex := 6, attributes := #[] }, { accessFlags := 16409, nameIndex := 9, descriptorIndex := 6, attributes := #[] }, { accessFlags := 16409, nameIndex := 12, descriptorIndex := 6, attributes := #[] }, { accessFlags := 16409, nameIndex := 15, descriptorIndex := 6, attributes := #[] }, { accessFlags := 16409, nameIndex := 18, descriptorIndex := 6, attributes := #[] }, { accessFlags := 16409, nameIndex := 21, descriptorIndex := 6, attributes := #[] }, { accessFlags := 16409, nameIndex := 24, descriptorIndex := 6, attributes := #[] }, { accessFlags := 16409, nameIndex := 27, descriptorIndex := 6, attributes := #[] }, { accessFlags := 16409, nameIndex := 30, descriptorIndex := 6, attributes := #[] }, { accessFlags := 18, nameIndex := 52, descriptorIndex := 53, attributes := #[] }, { accessFlags := 4122, nameIndex := 33, descriptorIndex := 34, attributes := #[] }])
  fields := #[{ name := "DUE_REMINDER", type := (.object "com/example/careful_invoicing/carefulinvoicing/NoticeKind"), accessFlags := 16409, slot := 0, constantValue := 0 }, { name := "OVERDUE_REMINDER", type := (.object "com/example/careful_invoicing/carefulinvoicing/NoticeKind"), accessFlags := 16409, slot := 1, constantValue := 0 }, { name := "LIMIT_WARNING", type := (.object "com/example/careful_invoicing/carefulinvoicing/NoticeKind"), accessFlags := 16409, slot := 2, constantValue := 0 }, { name := "LIMITED", type := (.object "com/example/careful_invoicing/carefulinvoicing/NoticeKind"), accessFlags := 16409, slot := 3, constantValue := 0 }, { name := "SUSPEND_WARNING", type := (.object "com/example/careful_invoicing/carefulinvoicing/NoticeKind"), accessFlags := 16409, slot := 4, constantValue := 0 }, { name := "SUSPENDED", type := (.object "com/example/careful_invoicing/carefulinvoicing/NoticeKind"), accessFlags := 16409, slot := 5, constantValue := 0 }, { name := "TERMINATE_WARNING", type := (.object "com/example/careful_invoicing/carefulinvoicing/NoticeKind"), accessFlags := 16409, slot := 6, constantValue := 0 }, { name := "TERMINATED", type := (.object "com/example/careful_invoicing/carefulinvoicing/NoticeKind"), accessFlags := 16409, slot := 7, constantValue := 0 }, { name := "REACTIVATED", type := (.object "com/example/careful_invoicing/carefulinvoicing/NoticeKind"), accessFlags := 16409, slot := 8, constantValue := 0 }, { name := "label", type := (.object "java/lang/String"), accessFlags := 18, slot := 3, constantValue := 0 }, { name := "$VALUES", type := (.array (.object "com/example/careful_invoicing/carefulinvoicing/NoticeKind")), accessFlags := 4122, slot := 9, constantValue := 0 }]
  methods := #[]
  instanceTypes := #[(.object "java/lang/String"), .int, .int, (.object "java/lang/String")]
  staticTypes := #[(.object "com/example/careful_invoicing/carefulinvoicing/NoticeKind"), (.object "com/example/careful_invoicing/carefulinvoicing/NoticeKind"), (.object "com/example/careful_invoicing/carefulinvoicing/NoticeKind"), (.object "com/example/careful_invoicing/carefulinvoicing/NoticeKind"), (.object "com/example/careful_invoicing/carefulinvoicing/NoticeKind"), (.object "com/example/careful_invoicing/carefulinvoicing/NoticeKind"), (.object "com/example/careful_invoicing/carefulinvoicing/NoticeKind"), (.object "com/example/careful_invoicing/carefulinvoicing/NoticeKind"), (.object "com/example/careful_invoicing/carefulinvoicing/NoticeKind"), (.array (.object "com/example/careful_invoicing/carefulinvoicing/NoticeKind"))]
  resolved := Array.replicate 112 none
  statics := some 1 }

def pool9 : Array CpInfo := pool [(1, .class_ 2), (0, u "com/example/careful_invoicing/carefulinvoicing/CustomerStatus"), (2, u "ACTIVE"), (0, u "Lcom/example/careful_invoicing/carefulinvoicing/CustomerStatus;"), (2, u "LIMITED"), (2, u "SUSPENDED"), (2, u "TERMINATED"), (2, u "$VALUES"), (0, u "[Lcom/example/careful_invoicing/carefulinvoicing/CustomerStatus;"), (6, .class_ 28), (1, u "java/lang/Enum"), (8, u "label"), (0, u "Ljava/lang/String;"), (7, .class_ 48), (1, u "com/example/careful_invoicing/carefulinvoicing/Labelled")] 33

/-- com/example/careful_invoicing/carefulinvoicing/CustomerStatus -/
def k9 : Class := { plain "com/example/careful_invoicing/carefulinvoicing/CustomerStatus" (some 5) with
  accessFlags := 16433
  interfaces := #[7]
  cf := some (fileOf pool9 1 #[] #[] 16433 26 #[46] #[{ accessFlags := 16409, nameIndex := 5, descriptorIndex := 6, attributes := #[] }, { accessFlags := 16409, nameIndex := 9, descriptorIndex := 6, attributes := #[] }, { accessFlags := 16409, nameIndex := 12, descriptorIndex := 6, attributes := #[] }, { accessFlags := 16409, nameIndex := 15, descriptorIndex := 6, attributes := #[] }, { accessFlags := 18, nameIndex := 37, descriptorIndex := 38, attributes := #[] }, { accessFlags := 4122, nameIndex := 18, descriptorIndex := 19, attributes := #[] }])
  fields := #[{ name := "ACTIVE", type := (.object "com/example/careful_invoicing/carefulinvoicing/CustomerStatus"), accessFlags := 16409, slot := 0, constantValue := 0 }, { name := "LIMITED", type := (.object "com/example/careful_invoicing/carefulinvoicing/CustomerStatus"), accessFlags := 16409, slot := 1, constantValue := 0 }, { name := "SUSPENDED", type := (.object "com/example/careful_invoicing/carefulinvoicing/CustomerStatus"), accessFlags := 16409, slot := 2, constantValue := 0 }, { name := "TERMINATED", type := (.object "com/example/careful_invoicing/carefulinvoicing/CustomerStatus"), accessFlags := 16409, slot := 3, constantValue := 0 }, { name := "label", type := (.object "java/lang/String"), accessFlags := 18, slot := 3, constantValue := 0 }, { name := "$VALUES", type := (.array (.object "com/example/careful_invoicing/carefulinvoicing/CustomerStatus")), accessFlags := 4122, slot := 4, constantValue := 0 }]
  methods := #[]
  instanceTypes := #[(.object "java/lang/String"), .int, .int, (.object "java/lang/String")]
  staticTypes := #[(.object "com/example/careful_invoicing/carefulinvoicing/CustomerStatus"), (.object "com/example/careful_invoicing/carefulinvoicing/CustomerStatus"), (.object "com/example/careful_invoicing/carefulinvoicing/CustomerStatus"), (.object "com/example/careful_invoicing/carefulinvoicing/CustomerStatus"), (.array (.object "com/example/careful_invoicing/carefulinvoicing/CustomerStatus"))]
  resolved := Array.replicate 82 none
  statics := some 2 }

def pool10 : Array CpInfo := pool [(2, .class_ 4), (1, u "java/lang/CharSequence"), (42, .class_ 48), (0, u "java/lang/CharSequence$1CodePointIterator"), (10, .class_ 60), (0, u "java/lang/CharSequence$1CharIterator"), (5, .class_ 67), (0, u "java/lang/Object")] 63

/-- java/lang/CharSequence -/
def k10 : Class := { plain "java/lang/CharSequence" (some 0) with
  accessFlags := 1537
  interfaces := #[]
  cf := some (fileOf pool10 2 #[.nestMembers #[47, 59]] #[] 1537 66 #[] #[])
  fields := #[]
  methods := #[]
  instanceTypes := #[]
  staticTypes := #[]
  resolved := Array.replicate 131 none
  statics := none }

def pool11 : Array CpInfo := pool [(1, .class_ 2), (0, u "java/lang/constant/ConstantDesc"), (0, .class_ 4), (0, u "java/lang/Object")] 32

/-- java/lang/constant/ConstantDesc -/
def k11 : Class := { plain "java/lang/constant/ConstantDesc" (some 0) with
  accessFlags := 1537
  interfaces := #[]
  cf := some (fileOf pool11 1 #[] #[] 1537 3 #[] #[])
  fields := #[]
  methods := #[]
  instanceTypes := #[]
  staticTypes := #[]
  resolved := Array.replicate 37 none
  statics := none }

def pool12 : Array CpInfo := pool [(2, .class_ 4), (1, u "java/lang/Object"), (0, u "<init>"), (0, u "()V"), (3, .class_ 12), (1, u "java/lang/String"), (0, u "value"), (0, u "[B"), (2, u "coder"), (0, u "B"), (2, u "hash"), (0, u "I"), (2, u "hashIsZero"), (0, u "Z"), (13, u "COMPACT_STRINGS"), (534, .class_ 576), (0, u "java/lang/CharSequence"), (22, u "CASE_INSENSITIVE_ORDER"), (0, u "Ljava/util/Comparator;"), (500, u "serialPersistentFields"), (0, u "[Ljava/io/ObjectStreamField;"), (0, .class_ 1104), (0, u "java/lang/String$CaseInsensitiveComparator"), (1, .class_ 1107), (0, u "java/io/Serializable"), (0, .class_ 1109), (0, u "java/lang/Comparable"), (0, .class_ 1111), (0, u "java/lang/constant/Constable"), (0, .class_ 1113), (0, u "java/lang/constant/ConstantDesc"), (2, u "serialVersionUID"), (0, u "J"), (3, u "REPL"), (0, u "C"), (2, u "LATIN1"), (1, u "UTF16")] 323

def k12m0 : Method := { name := "<init>", desc := "()V", sig := { parameters := [], returnType := none }, accessFlags := 1, code := none }
/-- java/lang/String -/
def k12 : Class := { plain "java/lang/String" (some 0) with
  accessFlags := 49
  interfaces := #[4, 3, 10, 2, 11]
  cf := some (fileOf pool12 10 #[.nestMembers #[1103]] #[{ accessFlags := 1, nameIndex := 5, descriptorIndex := 6, attributes := #[] }] 49 2 #[1106, 1108, 575, 1110, 1112] #[{ accessFlags := 18, nameIndex := 13, descriptorIndex := 14, attributes := #[] }, { accessFlags := 18, nameIndex := 17, descriptorIndex := 18, attributes := #[] }, { accessFlags := 2, nameIndex := 21, descriptorIndex := 22, attributes := #[] }, { accessFlags := 2, nameIndex := 25, descriptorIndex := 26, attributes := #[] }, { accessFlags := 26, nameIndex := 1116, descriptorIndex := 1117, attributes := #[] }, { accessFlags := 24, nameIndex := 40, descriptorIndex := 26, attributes := #[] }, { accessFlags := 26, nameIndex := 1101, descriptorIndex := 1102, attributes := #[] }, { accessFlags := 26, nameIndex := 1121, descriptorIndex := 1122, attributes := #[] }, { accessFlags := 25, nameIndex := 599, descriptorIndex := 600, attributes := #[] }, { accessFlags := 24, nameIndex := 1125, descriptorIndex := 18, attributes := #[] }, { accessFlags := 24, nameIndex := 1127, descriptorIndex := 18, attributes := #[] }])
  fields := #[{ name := "value", type := (.array .byte), accessFlags := 18, slot := 0, constantValue := 0 }, { name := "coder", type := .byte, accessFlags := 18, slot := 1, constantValue := 0 }, { name := "hash", type := .int, accessFlags := 2, slot := 2, constantValue := 0 }, { name := "hashIsZero", type := .boolean, accessFlags := 2, slot := 3, constantValue := 0 }, { name := "serialVersionUID", type := .long, accessFlags := 26, slot := 0, constantValue := 0 }, { name := "COMPACT_STRINGS", type := .boolean, accessFlags := 24, slot := 1, constantValue := 0 }, { name := "serialPersistentFields", type := (.array (.object "java/io/ObjectStreamField")), accessFlags := 26, slot := 2, constantValue := 0 }, { name := "REPL", type := .char, accessFlags := 26, slot := 3, constantValue := 0 }, { name := "CASE_INSENSITIVE_ORDER", type := (.object "java/util/Comparator"), accessFlags := 25, slot := 4, constantValue := 0 }, { name := "LATIN1", type := .byte, accessFlags := 24, slot := 5, constantValue := 0 }, { name := "UTF16", type := .byte, accessFlags := 24, slot := 6, constantValue := 0 }]
  methods := #[k12m0]
  instanceTypes := #[(.array .byte), .byte, .int, .boolean]
  staticTypes := #[.long, .boolean, (.array (.object "java/io/ObjectStreamField")), .char, (.object "java/util/Comparator"), .byte, .byte]
  resolved := Array.replicate 1451 none
  statics := none }

def pool13 : Array CpInfo := pool [(1, u "java/lang/Cloneable"), (0, .class_ 1), (0, u "java/lang/Object"), (0, .class_ 3)] 3

/-- java/lang/Cloneable -/
def k13 : Class := { plain "java/lang/Cloneable" (some 0) with
  accessFlags := 1537
  interfaces := #[]
  cf := some (fileOf pool13 2 #[] #[] 1537 4 #[] #[])
  fields := #[]
  methods := #[]
  instanceTypes := #[]
  staticTypes := #[]
  resolved := Array.replicate 8 none
  statics := none }

/-- the primitive byte -/
def k14 : Class := { plain "byte" none with kind := .primitive 'B', accessFlags := 0x411 }
/-- [B -/
def k15 : Class := { plain "[B" (some 0) with kind := .array 14 .byte, interfaces := #[13, 4], accessFlags := 1041 }

/-- the primitive int -/
def k16 : Class := { plain "int" none with kind := .primitive 'I', accessFlags := 0x411 }
/-- [I -/
def k17 : Class := { plain "[I" (some 0) with kind := .array 16 .int, interfaces := #[13, 4], accessFlags := 1041 }

def heap : Heap := #[{ cls := 6, slots := #[.ref 3, .ref 12, .ref 10, .ref 8, .ref 16, .ref 21, .ref 20, .ref 14, .ref 18, .null], vm := .statics 6 },
  { cls := 8, slots := #[.ref 15, .ref 19, .ref 5, .ref 11, .ref 6, .ref 13, .ref 7, .ref 4, .null, .null], vm := .statics 8 },
  { cls := 9, slots := #[.null, .ref 22, .ref 17, .ref 9, .null], vm := .statics 9 },
  { cls := 6, slots := #[.null, .int 0, .int 0, .ref 4, .ref 9, .ref 23, .int 0, .int 0, .null], vm := .none },
  { cls := 8, slots := #[.null, .int 7, .int 0, .null], vm := .none },
  { cls := 8, slots := #[.null, .int 2, .int 0, .null], vm := .none },
  { cls := 8, slots := #[.null, .int 4, .int 0, .null], vm := .none },
  { cls := 8, slots := #[.null, .int 6, .int 0, .null], vm := .none },
  { cls := 6, slots := #[.null, .int 0, .int 0, .ref 7, .ref 9, .null, .int 0, .int 0, .ref 3], vm := .none },
  { cls := 9, slots := #[.null, .int 0, .int 0, .null], vm := .none },
  { cls := 6, slots := #[.null, .int 0, .int 0, .ref 11, .ref 22, .ref 24, .int 0, .int 0, .null], vm := .none },
  { cls := 8, slots := #[.null, .int 3, .int 0, .null], vm := .none },
  { cls := 6, slots := #[.null, .int 0, .int 0, .ref 13, .ref 17, .ref 25, .int 0, .int 0, .null], vm := .none },
  { cls := 8, slots := #[.null, .int 5, .int 0, .null], vm := .none },
  { cls := 6, slots := #[.null, .int 0, .int 0, .ref 15, .null, .null, .int 0, .int 0, .null], vm := .none },
  { cls := 8, slots := #[.null, .int 0, .int 0, .null], vm := .none },
  { cls := 6, slots := #[.null, .int 0, .int 0, .ref 6, .ref 17, .null, .int 0, .int 0, .ref 12], vm := .none },
  { cls := 9, slots := #[.null, .int 0, .int 0, .null], vm := .none },
  { cls := 6, slots := #[.null, .int 0, .int 0, .ref 19, .null, .null, .int 0, .int 0, .null], vm := .none },
  { cls := 8, slots := #[.null, .int 1, .int 0, .null], vm := .none },
  { cls := 6, slots := #[.null, .int 0, .int 0, .null, .null, .null, .int 0, .int 0, .null], vm := .none },
  { cls := 6, slots := #[.null, .int 0, .int 0, .ref 5, .ref 22, .null, .int 0, .int 0, .ref 10], vm := .none },
  { cls := 9, slots := #[.null, .int 0, .int 0, .null], vm := .none },
  { cls := 12, slots := #[.null, .int 0, .int 0, .int 0], vm := .none },
  { cls := 12, slots := #[.null, .int 0, .int 0, .int 0], vm := .none },
  { cls := 12, slots := #[.null, .int 0, .int 0, .int 0], vm := .none }]
def classes : Array Class := #[k0, k1, k2, k3, k4, k5, k6, k7, k8, k9, k10, k11, k12, k13, k14, k15, k16, k17]
def interned : List (Array UInt16 × Addr) := []
def slotsUsed : Nat := 162
def theMethod : MethodId := ⟨1, 2⟩
def args0 : Array Value := #[.int 8]
def aboutOver (below : List Frame) : State where
  vm := { classes := classes, interned := interned.toArray }
  heap := heap
  slotsUsed := slotsUsed
  threads := #[{ frames := .invoking theMethod args0 :: below }]
def below0 : List Frame := [.native { method := ⟨0, 0⟩, args := #[] }]
def about1 : State := aboutOver below0
def p0 : Program := .bare "" "" ""
def e0 : Env := launch0.env 0 0 0
theorem w_frames : about1.frames = Frame.invoking theMethod args0 :: below0 := rfl
set_option maxRecDepth 65536 in
theorem w_args : argsFit about1.vm theMethod args0 = true := by decide +kernel
set_option maxRecDepth 65536 in
theorem w_heap : heapFits about1 = true := by decide +kernel
set_option maxRecDepth 65536 in
theorem w_runnable : about1.curStatus? = some .runnable := by decide +kernel
set_option maxRecDepth 65536 in
theorem w_alone : about1.alone = true := by decide +kernel
set_option maxRecDepth 65536 in
theorem w_named : about1.methodNamed? x = some theMethod := by decide +kernel
set_option maxRecDepth 65536 in
theorem w_hears : about1.hears theMethod below0 = true := by decide +kernel
set_option maxRecDepth 65536 in
theorem w_ripe : about1.ripe theMethod args0 below0 = true := by decide +kernel
theorem w_running : about1.status = .running := rfl
set_option maxRecDepth 65536 in
theorem w_room : about1.hasRoom e0.platform room_1 = true :=
  launch0.hasRoom_least _ room_1 (by decide +kernel) (by decide +kernel) (by decide +kernel) (by decide +kernel) (by decide +kernel) (by decide +kernel)
theorem allAtoms_all (ts : List Jvm.Cond) (a : Array Jvm.Value) (st : Jvm.State) : (allAtoms ts).before a st = ts.all (fun c => c.before a st) := by
  induction ts with
  | nil => rfl
  | cons c t ih =>
    show (Jvm.Cond.and c (allAtoms t)).before a st = _
    rw [Jvm.Cond.before_and, ih, List.all_cons]
def words1 : List Jvm.Cond := Jvm.Cond.code x code maxLocals ret :: tables_1
/-- a 'code' word, met by the world's own term for the bytes: nothing is compared byte by byte -/
theorem code_word {y : MethodName} {bytes : ByteArray} {mx : Nat} {rt : Option FieldType} {a : Array Value} {s : State} {m : MethodId} {meth : Method} {c : Code} (h1 : s.methodNamed? y = some m) (h2 : s.vm.method? m = some meth) (h3 : meth.code = some c) (h4 : c.code = bytes)
    (h5 : (c.maxLocals == mx && c.exceptionTable.isEmpty && decide (c.maxStack ≤ mostOperands) && decide (meth.sig.returnType = rt) && !meth.locks && decide (parseMethodDescriptor y.desc = some meth.sig)) = true) : (Jvm.Cond.code y bytes mx rt).before a s = true := by
  simp only [Bool.and_eq_true, beq_iff_eq, Bool.not_eq_true', decide_eq_true_eq] at h5
  obtain ⟨⟨⟨⟨⟨g1, g2⟩, g3⟩, g4⟩, g5⟩, g6⟩ := h5
  simp [Cond.before, Cond.holds, Cond.value, h1, h2, h3, h4, g1, g2, g3, g4, g5, g6]
def isCode : Jvm.Cond → Bool
  | .code _ _ _ _ => true
  | _ => false
theorem all_split {L : List Jvm.Cond} {P : Jvm.Cond → Bool} (h1 : L.all (fun c => isCode c || P c) = true) (h2 : ∀ c ∈ L.filter isCode, P c = true) : L.all P = true := by
  refine List.all_eq_true.mpr fun c hc => ?_
  have h := List.all_eq_true.mp h1 c hc
  rcases Bool.eq_false_or_eq_true (isCode c) with hi | hi
  · exact h2 c (List.mem_filter.mpr ⟨hc, hi⟩)
  · simpa [hi] using h
set_option maxRecDepth 65536 in
theorem w_c0 : (Jvm.Cond.code x code maxLocals ret).before args0 about1 = true := code_word (m := ⟨1, 2⟩) (meth := k1m2) (c := k1c2) (by decide +kernel) rfl rfl rfl (by decide +kernel)
set_option maxRecDepth 65536 in
theorem w_c1 : (Jvm.Cond.code ({ cls := "com/example/careful_invoicing/carefulinvoicing/CollectionStepIsWarningPinLaw", name := "pick", desc := "(I)Lcom/example/careful_invoicing/carefulinvoicing/CollectionStep;" } : Jvm.MethodName) method_2_code (1 : Nat) (Option.some (Jvm.ClassFile.FieldType.object "com/example/careful_invoicing/carefulinvoicing/CollectionStep"))).before args0 about1 = true := code_word (m := ⟨1, 1⟩) (meth := k1m1) (c := k1c1) (by decide +kernel) rfl rfl rfl (by decide +kernel)
set_option maxRecDepth 65536 in
theorem w_c2 : (Jvm.Cond.code ({ cls := "com/example/careful_invoicing/carefulinvoicing/CollectionStep", name := "isWarning", desc := "()Z" } : Jvm.MethodName) prog_3_method_9_code (1 : Nat) (Option.some Jvm.ClassFile.FieldType.boolean)).before args0 about1 = true := code_word (m := ⟨6, 2⟩) (meth := k6m2) (c := k6c2) (by decide +kernel) rfl rfl rfl (by decide +kernel)
set_option maxRecDepth 65536 in
theorem w_c3 : (Jvm.Cond.code ({ cls := "com/example/careful_invoicing/carefulinvoicing/CollectionStep", name := "notice", desc := "()Lcom/example/careful_invoicing/carefulinvoicing/NoticeKind;" } : Jvm.MethodName) prog_3_method_7_code (1 : Nat) (Option.some (Jvm.ClassFile.FieldType.object "com/example/careful_invoicing/carefulinvoicing/NoticeKind"))).before args0 about1 = true := code_word (m := ⟨6, 0⟩) (meth := k6m0) (c := k6c0) (by decide +kernel) rfl rfl rfl (by decide +kernel)
set_option maxRecDepth 65536 in
theorem w_c4 : (Jvm.Cond.code ({ cls := "com/example/careful_invoicing/carefulinvoicing/CollectionStep", name := "isAction", desc := "()Z" } : Jvm.MethodName) prog_3_method_8_code (1 : Nat) (Option.some Jvm.ClassFile.FieldType.boolean)).before args0 about1 = true := code_word (m := ⟨6, 1⟩) (meth := k6m1) (c := k6c1) (by decide +kernel) rfl rfl rfl (by decide +kernel)
set_option maxRecDepth 65536 in
theorem w_c5 : (Jvm.Cond.code ({ cls := "com/example/careful_invoicing/carefulinvoicing/CollectionStep", name := "status", desc := "()Lcom/example/careful_invoicing/carefulinvoicing/CustomerStatus;" } : Jvm.MethodName) prog_3_method_10_code (1 : Nat) (Option.some (Jvm.ClassFile.FieldType.object "com/example/careful_invoicing/carefulinvoicing/CustomerStatus"))).before args0 about1 = true := code_word (m := ⟨6, 3⟩) (meth := k6m3) (c := k6c3) (by decide +kernel) rfl rfl rfl (by decide +kernel)
def codes1 : List Jvm.Cond := [Jvm.Cond.code x code maxLocals ret, Jvm.Cond.code ({ cls := "com/example/careful_invoicing/carefulinvoicing/CollectionStepIsWarningPinLaw", name := "pick", desc := "(I)Lcom/example/careful_invoicing/carefulinvoicing/CollectionStep;" } : Jvm.MethodName) method_2_code (1 : Nat) (Option.some (Jvm.ClassFile.FieldType.object "com/example/careful_invoicing/carefulinvoicing/CollectionStep")), Jvm.Cond.code ({ cls := "com/example/careful_invoicing/carefulinvoicing/CollectionStep", name := "isWarning", desc := "()Z" } : Jvm.MethodName) prog_3_method_9_code (1 : Nat) (Option.some Jvm.ClassFile.FieldType.boolean), Jvm.Cond.code ({ cls := "com/example/careful_invoicing/carefulinvoicing/CollectionStep", name := "notice", desc := "()Lcom/example/careful_invoicing/carefulinvoicing/NoticeKind;" } : Jvm.MethodName) prog_3_method_7_code (1 : Nat) (Option.some (Jvm.ClassFile.FieldType.object "com/example/careful_invoicing/carefulinvoicing/NoticeKind")), Jvm.Cond.code ({ cls := "com/example/careful_invoicing/carefulinvoicing/CollectionStep", name := "isAction", desc := "()Z" } : Jvm.MethodName) prog_3_method_8_code (1 : Nat) (Option.some Jvm.ClassFile.FieldType.boolean), Jvm.Cond.code ({ cls := "com/example/careful_invoicing/carefulinvoicing/CollectionStep", name := "status", desc := "()Lcom/example/careful_invoicing/carefulinvoicing/CustomerStatus;" } : Jvm.MethodName) prog_3_method_10_code (1 : Nat) (Option.some (Jvm.ClassFile.FieldType.object "com/example/careful_invoicing/carefulinvoicing/CustomerStatus"))]
set_option maxRecDepth 65536 in
theorem codes_eq : words1.filter isCode = codes1 := rfl
theorem w_codes : ∀ c ∈ words1.filter isCode, c.before args0 about1 = true := by
  rw [codes_eq]
  intro c hc
  simp only [codes1, List.mem_cons, List.not_mem_nil, or_false] at hc
  rcases hc with rfl | rfl | rfl | rfl | rfl | rfl
  · exact w_c0
  · exact w_c1
  · exact w_c2
  · exact w_c3
  · exact w_c4
  · exact w_c5
set_option maxRecDepth 65536 in
theorem w_t1 : (words1.take 24).all (fun c => isCode c || c.before args0 about1) = true := by decide +kernel
set_option maxRecDepth 65536 in
theorem w_t2 : ((words1.drop 24).take 24).all (fun c => isCode c || c.before args0 about1) = true := by decide +kernel
set_option maxRecDepth 65536 in
theorem w_t3 : ((words1.drop 24).drop 24).all (fun c => isCode c || c.before args0 about1) = true := by decide +kernel
theorem w_tables : (allAtoms (Jvm.Cond.code x code maxLocals ret :: tables_1)).before args0 about1 = true := by
  rw [allAtoms_all]
  show words1.all (fun c => c.before args0 about1) = true
  refine all_split ?_ w_codes
  rw [← List.take_append_drop 24 words1, List.all_append, w_t1, ← List.take_append_drop 24 (words1.drop 24), List.all_append, w_t2, w_t3]
  rfl
set_option maxRecDepth 65536 in
theorem w_case : (Jvm.Cond.and given_1 narrow_1).before args0 about1 = true := by decide +kernel
theorem w_applies : (headSpec (Jvm.Cond.code x code maxLocals ret :: tables_1) room_1).applies x e0.platform about1 = true :=
  (Spec.applies_iff w_frames).mpr ⟨w_running, w_runnable, w_alone, w_named, w_hears, w_ripe, w_room, w_tables⟩
theorem atStart : AtStart classFile x code maxLocals ret World_1 tables_1 room_1 Calls_1 rest_1 Pre_1 launch0 p0 e0 about1 theMethod args0 below0 :=
  ⟨lists_1, trivial, launch0.admits_env _ _ _, launch0.least_env, fairChoices_fair.cas, fairChoices_fair.clock, w_frames, w_args, w_heap, w_applies, trivial, trivial, w_case⟩
end start1
theorem witness_1 : WitnessClaimed_1 := ⟨start1.p0, start1.e0, start1.about1, start1.theMethod, start1.args0, start1.below0, start1.atStart⟩
end Jvm.Pilot.@@N@@
