import JvmDerived
import JvmDerived.Pilot.@@N@@Statement
import JvmDerived.Pilot.@@N@@Code
set_option linter.unusedVariables false
set_option linter.unusedSimpArgs false
@@BLOCK:NumsL.lean.txt@@
namespace Jvm.Pilot.@@N@@
open Jvm Jvm.ClassFile Sem Op Lib Jvm.Free Jvm.Stand Jvm.LawKit Jvm.RoadKit Bundle Jvm.Pilot.@@N@@.Jvm.D
/-! OWN: the walks' own small calculus: 'Go' says that the run, standing in T with the top frame g, comes to an end that answers; every step carries a Go at the next place back to a Go at this one, so that a walk may fork and join. -/
section Own
variable {p : Program} {l : Launch} {e : Env} {R : Room} {s Z : State} {m : MethodId} {args a0 : Array Value} {below : List Frame} {meth : Method} {c : Code} {T : State} {locs : List Loc} {cells slots : Nat} {h : Heap} {P : Outcome → State → Prop}
/-- what a body must come to -/
def OwnEnd (Q : Option Value → Heap → List Loc → Prop) (s : State) (k n : Nat) (o : Outcome) (t : State) : Prop := ∃ v L, o = .returned v ∧ Q v t.heap L ∧ FrameEnd s o t L k n
def Go (p : Program) (e : Env) (below : List Frame) (P : Outcome → State → Prop) (T : State) (g : JFrame) : Prop := ∃ t o, Steps p.tables e below (T.setTop g) t ∧ t.status = .running ∧ Ended t below o ∧ P o t
theorem Go.of {T' : State} {g g' : JFrame} (k : ∀ t, Steps p.tables e below (T'.setTop g') t → Steps p.tables e below (T.setTop g) t) (K : Go p e below P T' g') : Go p e below P T g := by
  obtain ⟨t, o, h1, h2⟩ := K
  exact ⟨t, o, k t h1, h2⟩
theorem Go.joinI {g : JFrame} (X : Stand p l e R s m args below meth c T locs cells slots) (eT : T.heap = h) (v0 : Int32) (g1 : Int32 → JFrame) (K : (∀ (T' : State) (v : Int32), v = v0 → Stand p l e R s m args below meth c T' locs cells slots → T'.heap = h → Go p e below P T' (g1 v)) → Go p e below P T g)
    (J : ∀ T', Stand p l e R s m args below meth c T' locs cells slots → T'.heap = h → Go p e below P T' (g1 v0)) : Go p e below P T g := K fun T' v q X' e' => q ▸ J T' X' e'
theorem Go.joinJ {g : JFrame} (X : Stand p l e R s m args below meth c T locs cells slots) (eT : T.heap = h) (v0 : Int64) (g1 : Int64 → JFrame) (K : (∀ (T' : State) (v : Int64), v = v0 → Stand p l e R s m args below meth c T' locs cells slots → T'.heap = h → Go p e below P T' (g1 v)) → Go p e below P T g)
    (J : ∀ T', Stand p l e R s m args below meth c T' locs cells slots → T'.heap = h → Go p e below P T' (g1 v0)) : Go p e below P T g := K fun T' v q X' e' => q ▸ J T' X' e'
theorem Go.joinR {g : JFrame} (X : Stand p l e R s m args below meth c T locs cells slots) (eT : T.heap = h) (v0 : Addr) (g1 : Addr → JFrame) (K : (∀ (T' : State) (v : Addr), v = v0 → Stand p l e R s m args below meth c T' locs cells slots → T'.heap = h → Go p e below P T' (g1 v)) → Go p e below P T g)
    (J : ∀ T', Stand p l e R s m args below meth c T' locs cells slots → T'.heap = h → Go p e below P T' (g1 v0)) : Go p e below P T g := K fun T' v q X' e' => q ▸ J T' X' e'
theorem Go.cast {g g' : JFrame} (q : g = g') (K : Go p e below P T g') : Go p e below P T g := q ▸ K
theorem Go.leave (X : Stand p l e R s m args below meth c T locs cells slots) {g : JFrame} {v : Option Value} (hv : meth.sig.returnType = none → v = none) (hlk : meth.locks = false) {Q : Option Value → Heap → List Loc → Prop} {k n : Nat} (hc : cells ≤ k) (hs : slots ≤ n) (hQ : Q v T.heap locs)
    (st : ∀ fs, (∀ (f : JFrame) (acts : List Action), f.method = m → f.locked = none → f.entered = [] → (doReturn e (T.setTop f) acts v).1 = T.setFrames fs) → Steps p.tables e below (T.setTop g) (T.setFrames fs)) : Go p e below (OwnEnd Q s k n) T g := by
  obtain ⟨fs, hr, hrun, hended, hW, hsame⟩ := X.leave hv hlk
  exact ⟨_, _, st fs hr, hrun, hended, _, _, rfl, hQ, ⟨_, rfl⟩, hW, hsame.mono hc hs⟩
theorem Go.retZ (X : Stand p l e R s m args below meth c T locs cells slots) (hx : p.tables.exec = Jvm.exec) {pc pc0 : Nat} {Ls : Array Slot} {z z' : Int32} {rest : List Value} (hret : meth.sig.returnType = some .boolean) (hlk : meth.locks = false) (hd : decode c.code pc0 = .ok (.ireturn, 1)) (hpc : pc = pc0) {Q : Option Value → Heap → List Loc → Prop} {k n : Nat}
    (hz : z &&& 1 = z') (hQ : Q (some (.int z')) T.heap locs) (hc : cells ≤ k) (hs : slots ≤ n) : Go p e below (OwnEnd Q s k n) T (mkF m pc Ls (.int z :: rest)) := by
  subst hz hpc
  exact Go.leave X (v := some (.int (nar .boolean z))) (fun q => by rw [hret] at q; cases q) hlk hc hs hQ fun fs hr => retN X hx (t := .boolean) hret (by simp) hd hr
theorem Go.retW (X : Stand p l e R s m args below meth c T locs cells slots) (hx : p.tables.exec = Jvm.exec) {pc pc0 : Nat} {Ls : Array Slot} {w : Value} {t : FieldType} {i : Instr} {rest : List Value} (hret : meth.sig.returnType = some t) (hlk : meth.locks = false) (hn : narrow t w = w)
    (hi : (i = .ireturn ∧ (t = .int ∨ t = .boolean ∨ t = .byte ∨ t = .char ∨ t = .short) ∧ ∃ z, w = .int z) ∨ (i = .lreturn ∧ t = .long ∧ ∃ z, w = .long z) ∨ (i = .dreturn ∧ t = .double ∧ ∃ z, w = .double z) ∨ (i = .freturn ∧ t = .float ∧ ∃ z, w = .float z) ∨ (i = .areturn ∧ t.isReference = true ∧ w.isRef = true))
    (hd : decode c.code pc0 = .ok (i, 1)) (hpc : pc = pc0) {Q : Option Value → Heap → List Loc → Prop} {k n : Nat} (hQ : Q (some w) T.heap locs) (hc : cells ≤ k) (hs : slots ≤ n) : Go p e below (OwnEnd Q s k n) T (mkF m pc Ls (w :: rest)) := by
  subst hpc
  exact Go.leave X (v := some w) (fun q => by rw [hret] at q; cases q) hlk hc hs hQ fun fs hr => retOut X hx hret hn hi hd hr
theorem Go.retI (X : Stand p l e R s m args below meth c T locs cells slots) (hx : p.tables.exec = Jvm.exec) {pc pc0 : Nat} {Ls : Array Slot} {z : Int32} {rest : List Value} (hret : meth.sig.returnType = some .int) (hlk : meth.locks = false) (hd : decode c.code pc0 = .ok (.ireturn, 1)) (hpc : pc = pc0) {Q : Option Value → Heap → List Loc → Prop} {k n : Nat}
    (hQ : Q (some (.int z)) T.heap locs) (hc : cells ≤ k) (hs : slots ≤ n) : Go p e below (OwnEnd Q s k n) T (mkF m pc Ls (.int z :: rest)) := Go.retW X hx hret hlk rfl (Or.inl ⟨rfl, Or.inl rfl, _, rfl⟩) hd hpc hQ hc hs
theorem Go.retJ (X : Stand p l e R s m args below meth c T locs cells slots) (hx : p.tables.exec = Jvm.exec) {pc pc0 : Nat} {Ls : Array Slot} {z : Int64} {rest : List Value} (hret : meth.sig.returnType = some .long) (hlk : meth.locks = false) (hd : decode c.code pc0 = .ok (.lreturn, 1)) (hpc : pc = pc0) {Q : Option Value → Heap → List Loc → Prop} {k n : Nat}
    (hQ : Q (some (.long z)) T.heap locs) (hc : cells ≤ k) (hs : slots ≤ n) : Go p e below (OwnEnd Q s k n) T (mkF m pc Ls (.long z :: rest)) := Go.retW X hx hret hlk rfl (Or.inr (Or.inl ⟨rfl, rfl, _, rfl⟩)) hd hpc hQ hc hs
theorem Go.retA (X : Stand p l e R s m args below meth c T locs cells slots) (hx : p.tables.exec = Jvm.exec) {pc pc0 : Nat} {Ls : Array Slot} {w : Value} {t : FieldType} {rest : List Value} (hret : meth.sig.returnType = some t) (hlk : meth.locks = false) (ht : t.isReference = true) (hw : w.isRef = true) (hd : decode c.code pc0 = .ok (.areturn, 1)) (hpc : pc = pc0) {Q : Option Value → Heap → List Loc → Prop} {k n : Nat}
    (hQ : Q (some w) T.heap locs) (hc : cells ≤ k) (hs : slots ≤ n) : Go p e below (OwnEnd Q s k n) T (mkF m pc Ls (w :: rest)) := by
  refine Go.retW X hx hret hlk ?_ (Or.inr (Or.inr (Or.inr (Or.inr ⟨rfl, ht, hw⟩)))) hd hpc hQ hc hs
  rcases ref_cases hw with rfl | ⟨a, rfl⟩ <;> cases t <;> first | rfl | (simp [FieldType.isReference] at ht)
theorem Go.retV (X : Stand p l e R s m args below meth c T locs cells slots) (hx : p.tables.exec = Jvm.exec) {pc pc0 : Nat} {Ls : Array Slot} (hret : meth.sig.returnType = none) (hlk : meth.locks = false) (hd : decode c.code pc0 = .ok (.return_, 1)) (hpc : pc = pc0) {Q : Option Value → Heap → List Loc → Prop} {k n : Nat}
    (hQ : Q none T.heap locs) (hc : cells ≤ k) (hs : slots ≤ n) : Go p e below (OwnEnd Q s k n) T (mkF m pc Ls []) := by
  subst hpc
  exact Go.leave X (v := none) (fun _ => rfl) hlk hc hs hQ fun fs hr => X.returnOut hx hret hd hr
/-- a contract of a body: called on these arguments and this heap -/
def Ctr (l : Launch) (Z : State) (y : MethodName) (code : ByteArray) (mx : Nat) (ret : Option FieldType) (Rm : Room) (as' : Array Value) (h : Heap) (Q : Option Value → Heap → List Loc → Prop) : Prop :=
  ∀ ws : List Cond, MetFree l y (head1 (Cond.code y code mx ret :: ws) Rm) (fun a U => a = as' ∧ Z.Warmed39 U.vm ∧ U.heap = h) (fun _ _ _ _ _ => True) (fun _ U o U' => OwnEnd Q U Rm.cells Rm.slots o U')
theorem Ctr.of {y : MethodName} {code : ByteArray} {mx : Nat} {ret : Option FieldType} {Rm : Room} {as' : Array Value} {Q : Option Value → Heap → List Loc → Prop} (hp : plainFor y = true)
    (body : ∀ (p : Program) (e : Env) (s : State) (m : MethodId) (below : List Frame) (meth : Method) (c : Code) (s₁ : State), p.tables.exec = Jvm.exec → c.code = code → c.maxLocals = mx → s.vm.findClass y.cls = some m.cls → meth.name = y.name → meth.sig.returnType = ret → meth.locks = false → Z.Warmed39 s.vm →
      Stand p l e Rm s m as' below meth c s₁ [] 0 0 → s₁.heap = h → Go p e below (OwnEnd Q s Rm.cells Rm.slots) s₁ (entryFrame m as' mx)) : Ctr l Z y code mx ret Rm as' h Q := by
  intro ws
  refine MetFree.of_bodySF hp hisR ?_
  intro p e s m args below meth c s₁ Bd hml hP hK
  obtain ⟨rfl, hZ, hh⟩ := hP
  exact body p e s m below meth c s₁ Bd.exec Bd.bytes hml (findClass_of_methodNamed Bd.named) (name_of_methodNamed Bd.named Bd.method).1 Bd.returns Bd.notSynchronized hZ (Stand.of_body Bd) (by rw [← hh, Bd.state]; rfl)
/-- a body that returns V, writes nothing and makes nothing -/
def Pur (l : Launch) (Z : State) (y : MethodName) (code : ByteArray) (mx : Nat) (ret : Option FieldType) (fr lo : Nat) (as' : Array Value) (h : Heap) (V : Option Value) : Prop :=
  Ctr l Z y code mx ret ({ frames := fr, cells := 0, slots := 0, locals := lo } : Room) as' h fun v h' L => v = V ∧ L = [] ∧ h' = h
theorem Go.callS (X : Stand p l e R s m args below meth c T locs cells slots) (hx : p.tables.exec = Jvm.exec) (hZ : Z.Warmed39 s.vm) {own : String} {index : Nat} {y : MethodName} {bytes : ByteArray} {maxL : Nat} {ret : Option FieldType} (hown : s.vm.findClass own = some m.cls)
    (w1 : (Cond.methodLink own index y).before a0 Z = true) (w2 : (Cond.static y).before a0 Z = true) (w3 : (Cond.initialized y.cls).before a0 Z = true) (w4 : (Cond.code y bytes maxL ret).before a0 Z = true) (hy : y.cls ≠ "java/lang/invoke/MethodHandle" ∧ y.cls ≠ "java/lang/invoke/VarHandle")
    {Rm : Room} {Q : Option Value → Heap → List Loc → Prop} (argsL rest : List Value) (C : Ctr l Z y bytes maxL ret Rm argsL.toArray h Q) (eT : T.heap = h) {pc : Nat} {Ls : Array Slot} {st : List Value} (hst : st = argsL.reverse ++ rest) (hsz : Ls.size = c.maxLocals) {ps : List FieldType} {r : Option FieldType} (hpd : parseMethodDescriptor y.desc = some ⟨ps, r⟩) (hln : argsL.length = ps.length)
    (hd : decode c.code pc = .ok (.invokestatic index, 3)) (hfr : Rm.frames + 1 ≤ R.frames) (hlo : (rest.map fun v => v.category).sum + (maxL + 11) + Rm.locals ≤ R.locals) (hc : cells + Rm.cells ≤ R.cells) (hs : slots + Rm.slots ≤ R.slots)
    (K : ∀ v T' L, Stand p l e R s m args below meth c T' (locs ++ L) (cells + Rm.cells) (slots + Rm.slots) → Q v T'.heap L → Go p e below P T' (mkF m (pc + 3) Ls (v.toList ++ rest))) : Go p e below P T (mkF m pc Ls st) := by
  subst hst
  obtain ⟨v, _, ⟨T', L', k', n'⟩, -, X', ⟨L, hQ, l1, l2, l3⟩, st⟩ := Jvm.LawKit.callS X hx (y := y) hown (mvT hZ w1) (mvT hZ w2) (mvT hZ w3) (mvT hZ w4) hy (backOf (W := (rest.map fun v => v.category).sum) (Q := Q) (C []) hZ w4 w3 hfr hlo) (g := mkF m pc Ls (argsL.reverse ++ rest)) rfl hsz (argsL := argsL) (rest := rest) (lenOf hpd hln) rfl (by show 2 * 0 + _ ≤ _; omega) hd (fun _ _ => ⟨rfl, eT, hc, hs⟩)
  dsimp only [Pt.U, Pt.locs, Pt.cells, Pt.slots] at X' l1 l2 l3 st hQ
  subst l1 l2 l3
  exact Go.of st (K v T' L X' hQ)
theorem Go.pureS (X : Stand p l e R s m args below meth c T locs cells slots) (hx : p.tables.exec = Jvm.exec) (hZ : Z.Warmed39 s.vm) {own : String} {index : Nat} {y : MethodName} {bytes : ByteArray} {maxL : Nat} {ret : Option FieldType} (hown : s.vm.findClass own = some m.cls)
    (w1 : (Cond.methodLink own index y).before a0 Z = true) (w2 : (Cond.static y).before a0 Z = true) (w3 : (Cond.initialized y.cls).before a0 Z = true) (w4 : (Cond.code y bytes maxL ret).before a0 Z = true) (hy : y.cls ≠ "java/lang/invoke/MethodHandle" ∧ y.cls ≠ "java/lang/invoke/VarHandle")
    {fr lo : Nat} {V : Option Value} (argsL rest : List Value) (C : Pur l Z y bytes maxL ret fr lo argsL.toArray h V) (eT : T.heap = h) {pc : Nat} {Ls : Array Slot} {st : List Value} (hst : st = argsL.reverse ++ rest) (hsz : Ls.size = c.maxLocals) {ps : List FieldType} {r : Option FieldType} (hpd : parseMethodDescriptor y.desc = some ⟨ps, r⟩) (hln : argsL.length = ps.length)
    (hd : decode c.code pc = .ok (.invokestatic index, 3)) (hfr : fr + 1 ≤ R.frames) (hlo : (rest.map fun v => v.category).sum + (maxL + 11) + lo ≤ R.locals) (hc : cells ≤ R.cells) (hs : slots ≤ R.slots)
    (K : ∀ T', Stand p l e R s m args below meth c T' locs cells slots → T'.heap = h → Go p e below P T' (mkF m (pc + 3) Ls (V.toList ++ rest))) : Go p e below P T (mkF m pc Ls st) := by
  refine Go.callS X hx hZ hown w1 w2 w3 w4 hy argsL rest C eT hst hsz hpd hln hd hfr hlo hc hs ?_
  rintro v T' L X' ⟨rfl, rfl, e'⟩
  rw [List.append_nil] at X'
  exact K T' X' e'
theorem Go.callV (X : Stand p l e R s m args below meth c T locs cells slots) (hx : p.tables.exec = Jvm.exec) (hZ : Z.Warmed39 s.vm) {own C : String} {index : Nat} {y z : MethodName} {bytes : ByteArray} {maxL : Nat} {ret : Option FieldType} (hown : s.vm.findClass own = some m.cls)
    (w1 : (Cond.methodLink own index y).before a0 Z = true) (w2 : (Cond.declares y).before a0 Z = true) (hnf : NotFace s y) (w3 : (Cond.selects C y z).before a0 Z = true) (w4 : (Cond.instanceMethod z).before a0 Z = true) (w5 : (Cond.initialized z.cls).before a0 Z = true) (w6 : (Cond.code z bytes maxL ret).before a0 Z = true) (hy : y.cls ≠ "java/lang/invoke/MethodHandle" ∧ y.cls ≠ "java/lang/invoke/VarHandle")
    {Rm : Room} {Q : Option Value → Heap → List Loc → Prop} {b : Addr} (argsL rest : List Value) (E : Exa Z h b C) (Ct : Ctr l Z z bytes maxL ret Rm (.ref b :: argsL).toArray h Q) (eT : T.heap = h) {pc : Nat} {Ls : Array Slot} {st : List Value} (hst : st = argsL.reverse ++ .ref b :: rest) (hsz : Ls.size = c.maxLocals) {ps : List FieldType} {r : Option FieldType} (hpd : parseMethodDescriptor y.desc = some ⟨ps, r⟩) (hln : argsL.length = ps.length)
    (hd : decode c.code pc = .ok (.invokevirtual index, 3)) (hfr : Rm.frames + 1 ≤ R.frames) (hlo : (rest.map fun v => v.category).sum + (maxL + 11) + Rm.locals ≤ R.locals) (hc : cells + Rm.cells ≤ R.cells) (hs : slots + Rm.slots ≤ R.slots)
    (K : ∀ v T' L, Stand p l e R s m args below meth c T' (locs ++ L) (cells + Rm.cells) (slots + Rm.slots) → Q v T'.heap L → Go p e below P T' (mkF m (pc + 3) Ls (v.toList ++ rest))) : Go p e below P T (mkF m pc Ls st) := by
  subst hst
  obtain ⟨cq, kq, q1, q2, q3⟩ := isOf hZ eT E
  obtain ⟨v, _, ⟨T', L', k', n'⟩, -, X', ⟨L, hQ, l1, l2, l3⟩, st⟩ := X.virtualBack hx (y := y) (z := z) hown (mvT hZ w1) (mvT hZ w2) hnf (mvT hZ w3) (mvT hZ w4) hy (backOf (W := (rest.map fun v => v.category).sum) (Q := Q) (Ct []) hZ w6 w5 hfr hlo) q1 q3 (g := mkF m pc Ls (argsL.reverse ++ .ref b :: rest)) rfl hsz (Steps.refl _) (argsL := argsL) (rest := rest) (lenOf hpd hln) rfl (by show 2 * 0 + _ ≤ _; omega) hd (fun _ _ => ⟨rfl, eT, hc, hs⟩)
  dsimp only [Pt.U, Pt.locs, Pt.cells, Pt.slots] at X' l1 l2 l3 st hQ
  subst l1 l2 l3
  exact Go.of (fun _ k => st.trans k) (K v T' L X' hQ)
theorem Go.pureV (X : Stand p l e R s m args below meth c T locs cells slots) (hx : p.tables.exec = Jvm.exec) (hZ : Z.Warmed39 s.vm) {own C : String} {index : Nat} {y z : MethodName} {bytes : ByteArray} {maxL : Nat} {ret : Option FieldType} (hown : s.vm.findClass own = some m.cls)
    (w1 : (Cond.methodLink own index y).before a0 Z = true) (w2 : (Cond.declares y).before a0 Z = true) (hnf : NotFace s y) (w3 : (Cond.selects C y z).before a0 Z = true) (w4 : (Cond.instanceMethod z).before a0 Z = true) (w5 : (Cond.initialized z.cls).before a0 Z = true) (w6 : (Cond.code z bytes maxL ret).before a0 Z = true) (hy : y.cls ≠ "java/lang/invoke/MethodHandle" ∧ y.cls ≠ "java/lang/invoke/VarHandle")
    {fr lo : Nat} {V : Option Value} {b : Addr} (argsL rest : List Value) (E : Exa Z h b C) (Ct : Pur l Z z bytes maxL ret fr lo (.ref b :: argsL).toArray h V) (eT : T.heap = h) {pc : Nat} {Ls : Array Slot} {st : List Value} (hst : st = argsL.reverse ++ .ref b :: rest) (hsz : Ls.size = c.maxLocals) {ps : List FieldType} {r : Option FieldType} (hpd : parseMethodDescriptor y.desc = some ⟨ps, r⟩) (hln : argsL.length = ps.length)
    (hd : decode c.code pc = .ok (.invokevirtual index, 3)) (hfr : fr + 1 ≤ R.frames) (hlo : (rest.map fun v => v.category).sum + (maxL + 11) + lo ≤ R.locals) (hc : cells ≤ R.cells) (hs : slots ≤ R.slots)
    (K : ∀ T', Stand p l e R s m args below meth c T' locs cells slots → T'.heap = h → Go p e below P T' (mkF m (pc + 3) Ls (V.toList ++ rest))) : Go p e below P T (mkF m pc Ls st) := by
  refine Go.callV X hx hZ hown w1 w2 hnf w3 w4 w5 w6 hy argsL rest E Ct eT hst hsz hpd hln hd hfr hlo hc hs ?_
  rintro v T' L X' ⟨rfl, rfl, e'⟩
  rw [List.append_nil] at X'
  exact K T' X' e'
theorem Go.callU (X : Stand p l e R s m args below meth c T locs cells slots) (hx : p.tables.exec = Jvm.exec) (hZ : Z.Warmed39 s.vm) {own C ow : String} {index : Nat} {y z : MethodName} {bytes : ByteArray} {maxL : Nat} {ret : Option FieldType} (hown : s.vm.findClass own = some m.cls)
    (w1 : (Cond.methodLink own index y).before a0 Z = true) (w2 : (Cond.sameMethod y.cls ow y.name y.desc).before a0 Z = true) (w2' : (Cond.declares ⟨ow, y.name, y.desc⟩).before a0 Z = true) (w3 : (Cond.selects C y z).before a0 Z = true) (w4 : (Cond.instanceMethod z).before a0 Z = true) (w5 : (Cond.initialized z.cls).before a0 Z = true) (w6 : (Cond.code z bytes maxL ret).before a0 Z = true) (hy : ow ≠ "java/lang/invoke/MethodHandle" ∧ ow ≠ "java/lang/invoke/VarHandle")
    {Rm : Room} {Q : Option Value → Heap → List Loc → Prop} {b : Addr} (argsL rest : List Value) (E : Exa Z h b C) (Ct : Ctr l Z z bytes maxL ret Rm (.ref b :: argsL).toArray h Q) (eT : T.heap = h) {pc : Nat} {Ls : Array Slot} {st : List Value} (hst : st = argsL.reverse ++ .ref b :: rest) (hsz : Ls.size = c.maxLocals) {ps : List FieldType} {r : Option FieldType} (hpd : parseMethodDescriptor y.desc = some ⟨ps, r⟩) (hln : argsL.length = ps.length)
    (hd : decode c.code pc = .ok (.invokevirtual index, 3)) (hfr : Rm.frames + 1 ≤ R.frames) (hlo : (rest.map fun v => v.category).sum + (maxL + 11) + Rm.locals ≤ R.locals) (hc : cells + Rm.cells ≤ R.cells) (hs : slots + Rm.slots ≤ R.slots)
    (K : ∀ v T' L, Stand p l e R s m args below meth c T' (locs ++ L) (cells + Rm.cells) (slots + Rm.slots) → Q v T'.heap L → Go p e below P T' (mkF m (pc + 3) Ls (v.toList ++ rest))) : Go p e below P T (mkF m pc Ls st) := by
  subst hst
  obtain ⟨cq, kq, q1, q2, q3⟩ := isOf hZ eT E
  obtain ⟨v, _, ⟨T', L', k', n'⟩, -, X', ⟨L, hQ, l1, l2, l3⟩, st⟩ := X.virtualBackUp hx (x := y) (y := z) (owner := ow) hown (mvT hZ w1) (mvT hZ w2) (mvT hZ w2') hy (mvT hZ w3) (mvT hZ w4) (backOf (W := (rest.map fun v => v.category).sum) (Q := Q) (Ct []) hZ w6 w5 hfr hlo) q1 q3 (g := mkF m pc Ls (argsL.reverse ++ .ref b :: rest)) rfl hsz (Steps.refl _) (argsL := argsL) (rest := rest) (lenOf hpd hln) rfl (by show 2 * 0 + _ ≤ _; omega) hd (fun _ _ => ⟨rfl, eT, hc, hs⟩)
  dsimp only [Pt.U, Pt.locs, Pt.cells, Pt.slots] at X' l1 l2 l3 st hQ
  subst l1 l2 l3
  exact Go.of (fun _ k => st.trans k) (K v T' L X' hQ)
theorem Go.pureU (X : Stand p l e R s m args below meth c T locs cells slots) (hx : p.tables.exec = Jvm.exec) (hZ : Z.Warmed39 s.vm) {own C ow : String} {index : Nat} {y z : MethodName} {bytes : ByteArray} {maxL : Nat} {ret : Option FieldType} (hown : s.vm.findClass own = some m.cls)
    (w1 : (Cond.methodLink own index y).before a0 Z = true) (w2 : (Cond.sameMethod y.cls ow y.name y.desc).before a0 Z = true) (w2' : (Cond.declares ⟨ow, y.name, y.desc⟩).before a0 Z = true) (w3 : (Cond.selects C y z).before a0 Z = true) (w4 : (Cond.instanceMethod z).before a0 Z = true) (w5 : (Cond.initialized z.cls).before a0 Z = true) (w6 : (Cond.code z bytes maxL ret).before a0 Z = true) (hy : ow ≠ "java/lang/invoke/MethodHandle" ∧ ow ≠ "java/lang/invoke/VarHandle")
    {fr lo : Nat} {V : Option Value} {b : Addr} (argsL rest : List Value) (E : Exa Z h b C) (Ct : Pur l Z z bytes maxL ret fr lo (.ref b :: argsL).toArray h V) (eT : T.heap = h) {pc : Nat} {Ls : Array Slot} {st : List Value} (hst : st = argsL.reverse ++ .ref b :: rest) (hsz : Ls.size = c.maxLocals) {ps : List FieldType} {r : Option FieldType} (hpd : parseMethodDescriptor y.desc = some ⟨ps, r⟩) (hln : argsL.length = ps.length)
    (hd : decode c.code pc = .ok (.invokevirtual index, 3)) (hfr : fr + 1 ≤ R.frames) (hlo : (rest.map fun v => v.category).sum + (maxL + 11) + lo ≤ R.locals) (hc : cells ≤ R.cells) (hs : slots ≤ R.slots)
    (K : ∀ T', Stand p l e R s m args below meth c T' locs cells slots → T'.heap = h → Go p e below P T' (mkF m (pc + 3) Ls (V.toList ++ rest))) : Go p e below P T (mkF m pc Ls st) := by
  refine Go.callU X hx hZ hown w1 w2 w2' w3 w4 w5 w6 hy argsL rest E Ct eT hst hsz hpd hln hd hfr hlo hc hs ?_
  rintro v T' L X' ⟨rfl, rfl, e'⟩
  rw [List.append_nil] at X'
  exact K T' X' e'
theorem Go.callI (X : Stand p l e R s m args below meth c T locs cells slots) (hx : p.tables.exec = Jvm.exec) (hZ : Z.Warmed39 s.vm) {own : String} {index : Nat} {y : MethodName} {bytes : ByteArray} {maxL : Nat} (hyn : y.name = "<init>") (hown : s.vm.findClass own = some m.cls)
    (w1 : (Cond.methodLink own index y).before a0 Z = true) (w2 : (Cond.instanceMethod y).before a0 Z = true) (w3 : (Cond.initialized y.cls).before a0 Z = true) (w4 : (Cond.code y bytes maxL none).before a0 Z = true) (hy : y.cls ≠ "java/lang/invoke/MethodHandle" ∧ y.cls ≠ "java/lang/invoke/VarHandle")
    {Rm : Room} {Q : Option Value → Heap → List Loc → Prop} {b : Addr} (argsL rest : List Value) (C : Ctr l Z y bytes maxL none Rm (.ref b :: argsL).toArray h Q) (eT : T.heap = h) {pc : Nat} {Ls : Array Slot} {st : List Value} (hst : st = argsL.reverse ++ .ref b :: rest) (hsz : Ls.size = c.maxLocals) {ps : List FieldType} {r : Option FieldType} (hpd : parseMethodDescriptor y.desc = some ⟨ps, r⟩) (hln : argsL.length = ps.length)
    (hd : decode c.code pc = .ok (.invokespecial index, 3)) (hfr : Rm.frames + 1 ≤ R.frames) (hlo : (rest.map fun v => v.category).sum + (maxL + 11) + Rm.locals ≤ R.locals) (hc : cells + Rm.cells ≤ R.cells) (hs : slots + Rm.slots ≤ R.slots)
    (K : ∀ v T' L, Stand p l e R s m args below meth c T' (locs ++ L) (cells + Rm.cells) (slots + Rm.slots) → Q v T'.heap L → Go p e below P T' (mkF m (pc + 3) Ls (v.toList ++ rest))) : Go p e below P T (mkF m pc Ls st) := by
  subst hst
  obtain ⟨v, _, ⟨T', L', k', n'⟩, -, X', ⟨L, hQ, l1, l2, l3⟩, st⟩ := X.specialBack hx (y := y) hyn hown (mvT hZ w1) (mvT hZ w2) (mvT hZ w4) hy (backOf (W := (rest.map fun v => v.category).sum) (Q := Q) (C []) hZ w4 w3 hfr hlo) (g := mkF m pc Ls (argsL.reverse ++ .ref b :: rest)) rfl hsz (Steps.refl _) (a := b) (argsL := argsL) (rest := rest) (lenOf hpd hln) rfl (by show 2 * 0 + _ ≤ _; omega) hd (fun _ _ => ⟨rfl, eT, hc, hs⟩)
  dsimp only [Pt.U, Pt.locs, Pt.cells, Pt.slots] at X' l1 l2 l3 st hQ
  subst l1 l2 l3
  exact Go.of (fun _ k => st.trans k) (K v T' L X' hQ)
end Own
theorem own_nf {args : Array Value} {s : State} {C : String} {y y' : MethodName} (hc : y.cls = y'.cls) (hsel : (Cond.selects C y' y').before args s = true) : NotFace s y := fun r0 h0 => by
  obtain ⟨c2, r2, m2, q1, q2, q3, q4, kP, hkP, hkPi⟩ := Cond.selects_spec hsel
  have e1 := findClass_of_methodNamed h0
  have e2 := findClass_of_methodNamed q3
  rw [hc] at e1
  have e3 : r0.cls = m2.cls := Option.some.inj (e1.symm.trans e2)
  exact ⟨kP, e3 ▸ hkP, hkPi⟩
section OwnWords
variable {args : Array Value} {s : State} {a b t i : Term} {v : Value}
theorem own_eqv (g : (Cond.eq a b).value args s none s [] = some true) (hb : b.eval args s none [] s = some v) : a.eval args s none [] s = some v := by
  cases ha : a.eval args s none [] s with
  | none => simp [Cond.value, ha] at g
  | some x => cases x <;> cases v <;> simp [Cond.value, ha, hb] at g ⊢ <;> exact g
theorem own_len {x : Addr} {cl : Cell} {ty : FieldType} {n : Int32} (A : Arr s s.heap x cl ty) (ht : t.eval args s none [] s = some (.ref x)) (g : (Term.length t).eval args s none [] s = some (.int n)) : cl.slots.size < 2 ^ 31 ∧ cl.slots.size.toInt32 = n := by
  have q := A.fin (Vm.Alike.refl _)
  by_cases hl : cl.slots.size < 2 ^ 31
  · refine ⟨hl, ?_⟩
    have e := len_f (args := args) (first := s) (o := none) (idx := []) ht q hl
    exact Value.int.inj (Option.some.inj (e.symm.trans g))
  · simp [Term.eval, ht, q, hl] at g
theorem own_elem {x : Addr} {cl : Cell} {ty : FieldType} {j : Int32} {k : Nat} (A : Arr s s.heap x cl ty) (ht : t.eval args s none [] s = some (.ref x)) (hk : j.toNatClampNeg = k) (g : (Term.elem t (.int j)).eval args s none [] s = some v) : cl.slots[k]? = some v := by
  have e := (elem_in (j := j) (a := .int j) g ht rfl A.1).2
  rw [hk] at e; exact e
end OwnWords
section OwnSteps
variable {p : Program} {l : Launch} {e : Env} {R : Room} {s Z : State} {m : MethodId} {args a0 : Array Value} {below : List Frame} {meth : Method} {c : Code} {T : State} {locs : List Loc} {cells slots : Nat} {h : Heap} {P : Outcome → State → Prop} {pc pc0 : Nat} {Ls : Array Slot} {st : List Value}
theorem Go.iload (X : Stand p l e R s m args below meth c T locs cells slots) (hx : p.tables.exec = Jvm.exec) {k : Nat} {v : Int32} (hd : decode c.code pc0 = .ok (.iload k, 2)) (hpc : pc = pc0) (hl : Ls[k]? = some (.val (.int v))) (K : Go p e below P T (mkF m (pc0 + 2) Ls (.int v :: st))) : Go p e below P T (mkF m pc Ls (st)) := by
  subst hpc
  exact Go.of (fun _ q => XS.iload X.here hx rfl hd hl q) K
theorem Go.iloadN (X : Stand p l e R s m args below meth c T locs cells slots) (hx : p.tables.exec = Jvm.exec) {k : Fin 4} {v : Int32} (hd : decode c.code pc0 = .ok (.iload_n k, 1)) (hpc : pc = pc0) (hl : Ls[k.val]? = some (.val (.int v))) (K : Go p e below P T (mkF m (pc0 + 1) Ls (.int v :: st))) : Go p e below P T (mkF m pc Ls (st)) := by
  subst hpc
  exact Go.of (fun _ q => XS.iloadN X.here hx rfl hd hl q) K
theorem Go.istore (X : Stand p l e R s m args below meth c T locs cells slots) (hx : p.tables.exec = Jvm.exec) {k : Nat} {v : Int32} (hd : decode c.code pc0 = .ok (.istore k, 2)) (hpc : pc = pc0) (l' : Array Slot) (hl : storeLocals Ls k (.int v) = some l') (K : Go p e below P T (mkF m (pc0 + 2) l' (st))) : Go p e below P T (mkF m pc Ls (.int v :: st)) := by
  subst hpc
  exact Go.of (fun _ q => XS.istore X.here hx rfl hd rfl hl q) K
theorem Go.istoreN (X : Stand p l e R s m args below meth c T locs cells slots) (hx : p.tables.exec = Jvm.exec) {k : Fin 4} {v : Int32} (hd : decode c.code pc0 = .ok (.istore_n k, 1)) (hpc : pc = pc0) (l' : Array Slot) (hl : storeLocals Ls k.val (.int v) = some l') (K : Go p e below P T (mkF m (pc0 + 1) l' (st))) : Go p e below P T (mkF m pc Ls (.int v :: st)) := by
  subst hpc
  exact Go.of (fun _ q => XS.istoreN X.here hx rfl hd rfl hl q) K
theorem Go.lload (X : Stand p l e R s m args below meth c T locs cells slots) (hx : p.tables.exec = Jvm.exec) {k : Nat} {v : Int64} (hd : decode c.code pc0 = .ok (.lload k, 2)) (hpc : pc = pc0) (hl : Ls[k]? = some (.val (.long v))) (K : Go p e below P T (mkF m (pc0 + 2) Ls (.long v :: st))) : Go p e below P T (mkF m pc Ls (st)) := by
  subst hpc
  exact Go.of (fun _ q => XS.lload X.here hx rfl hd hl q) K
theorem Go.lloadN (X : Stand p l e R s m args below meth c T locs cells slots) (hx : p.tables.exec = Jvm.exec) {k : Fin 4} {v : Int64} (hd : decode c.code pc0 = .ok (.lload_n k, 1)) (hpc : pc = pc0) (hl : Ls[k.val]? = some (.val (.long v))) (K : Go p e below P T (mkF m (pc0 + 1) Ls (.long v :: st))) : Go p e below P T (mkF m pc Ls (st)) := by
  subst hpc
  exact Go.of (fun _ q => XS.lloadN X.here hx rfl hd hl q) K
theorem Go.lstore (X : Stand p l e R s m args below meth c T locs cells slots) (hx : p.tables.exec = Jvm.exec) {k : Nat} {v : Int64} (hd : decode c.code pc0 = .ok (.lstore k, 2)) (hpc : pc = pc0) (l' : Array Slot) (hl : storeLocals Ls k (.long v) = some l') (K : Go p e below P T (mkF m (pc0 + 2) l' (st))) : Go p e below P T (mkF m pc Ls (.long v :: st)) := by
  subst hpc
  exact Go.of (fun _ q => XS.lstore X.here hx rfl hd rfl hl q) K
theorem Go.lstoreN (X : Stand p l e R s m args below meth c T locs cells slots) (hx : p.tables.exec = Jvm.exec) {k : Fin 4} {v : Int64} (hd : decode c.code pc0 = .ok (.lstore_n k, 1)) (hpc : pc = pc0) (l' : Array Slot) (hl : storeLocals Ls k.val (.long v) = some l') (K : Go p e below P T (mkF m (pc0 + 1) l' (st))) : Go p e below P T (mkF m pc Ls (.long v :: st)) := by
  subst hpc
  exact Go.of (fun _ q => XS.lstoreN X.here hx rfl hd rfl hl q) K
theorem Go.aload (X : Stand p l e R s m args below meth c T locs cells slots) (hx : p.tables.exec = Jvm.exec) {k : Nat} {v : Value} (hd : decode c.code pc0 = .ok (.aload k, 2)) (hpc : pc = pc0) (hl : Ls[k]? = some (.val v)) (hv : v.isRef = true) (K : Go p e below P T (mkF m (pc0 + 2) Ls (v :: st))) : Go p e below P T (mkF m pc Ls (st)) := by
  subst hpc
  exact Go.of (fun _ q => XS.aload X.here hx rfl hd hl hv q) K
theorem Go.aloadN (X : Stand p l e R s m args below meth c T locs cells slots) (hx : p.tables.exec = Jvm.exec) {k : Fin 4} {v : Value} (hd : decode c.code pc0 = .ok (.aload_n k, 1)) (hpc : pc = pc0) (hl : Ls[k.val]? = some (.val v)) (hv : v.isRef = true) (K : Go p e below P T (mkF m (pc0 + 1) Ls (v :: st))) : Go p e below P T (mkF m pc Ls (st)) := by
  subst hpc
  exact Go.of (fun _ q => XS.aloadN X.here hx rfl hd hl hv q) K
theorem Go.astore (X : Stand p l e R s m args below meth c T locs cells slots) (hx : p.tables.exec = Jvm.exec) {k : Nat} {v : Value} (hd : decode c.code pc0 = .ok (.astore k, 2)) (hpc : pc = pc0) (hv : v.isRef = true) (l' : Array Slot) (hl : storeLocals Ls k v = some l') (K : Go p e below P T (mkF m (pc0 + 2) l' (st))) : Go p e below P T (mkF m pc Ls (v :: st)) := by
  subst hpc
  exact Go.of (fun _ q => XS.astore X.here hx rfl hd rfl hv hl q) K
theorem Go.astoreN (X : Stand p l e R s m args below meth c T locs cells slots) (hx : p.tables.exec = Jvm.exec) {k : Fin 4} {v : Value} (hd : decode c.code pc0 = .ok (.astore_n k, 1)) (hpc : pc = pc0) (hv : v.isRef = true) (l' : Array Slot) (hl : storeLocals Ls k.val v = some l') (K : Go p e below P T (mkF m (pc0 + 1) l' (st))) : Go p e below P T (mkF m pc Ls (v :: st)) := by
  subst hpc
  exact Go.of (fun _ q => XS.astoreN X.here hx rfl hd rfl hv hl q) K
theorem Go.iconst (X : Stand p l e R s m args below meth c T locs cells slots) (hx : p.tables.exec = Jvm.exec) {i : Int} (hd : decode c.code pc0 = .ok (.iconst i, 1)) (hpc : pc = pc0) (v : Int32) (hv : Int32.ofInt i = v) (K : Go p e below P T (mkF m (pc0 + 1) Ls (.int v :: st))) : Go p e below P T (mkF m pc Ls (st)) := by
  subst hpc
  subst hv
  exact Go.of (fun _ q => XS.iconst X.here hx rfl hd q) K
theorem Go.bipush (X : Stand p l e R s m args below meth c T locs cells slots) (hx : p.tables.exec = Jvm.exec) {i : Int} (hd : decode c.code pc0 = .ok (.bipush i, 2)) (hpc : pc = pc0) (v : Int32) (hv : (Int8.ofInt i).toInt32 = v) (K : Go p e below P T (mkF m (pc0 + 2) Ls (.int v :: st))) : Go p e below P T (mkF m pc Ls (st)) := by
  subst hpc
  subst hv
  exact Go.of (fun _ q => XS.bipush X.here hx rfl hd q) K
theorem Go.sipush (X : Stand p l e R s m args below meth c T locs cells slots) (hx : p.tables.exec = Jvm.exec) {i : Int} (hd : decode c.code pc0 = .ok (.sipush i, 3)) (hpc : pc = pc0) (v : Int32) (hv : (Int16.ofInt i).toInt32 = v) (K : Go p e below P T (mkF m (pc0 + 3) Ls (.int v :: st))) : Go p e below P T (mkF m pc Ls (st)) := by
  subst hpc
  subst hv
  exact Go.of (fun _ q => XS.sipush X.here hx rfl hd q) K
theorem Go.lconst (X : Stand p l e R s m args below meth c T locs cells slots) (hx : p.tables.exec = Jvm.exec) {k : Fin 2} (hd : decode c.code pc0 = .ok (.lconst k, 1)) (hpc : pc = pc0) (v : Int64) (hv : Int64.ofNat k = v) (K : Go p e below P T (mkF m (pc0 + 1) Ls (.long v :: st))) : Go p e below P T (mkF m pc Ls (st)) := by
  subst hpc
  subst hv
  exact Go.of (fun _ q => XS.lconst X.here hx rfl hd q) K
theorem Go.aconstNull (X : Stand p l e R s m args below meth c T locs cells slots) (hx : p.tables.exec = Jvm.exec)  (hd : decode c.code pc0 = .ok (.aconst_null, 1)) (hpc : pc = pc0)  (K : Go p e below P T (mkF m (pc0 + 1) Ls (.null :: st))) : Go p e below P T (mkF m pc Ls (st)) := by
  subst hpc
  exact Go.of (fun _ q => XS.aconstNull X.here hx rfl hd q) K
theorem Go.iadd (X : Stand p l e R s m args below meth c T locs cells slots) (hx : p.tables.exec = Jvm.exec) {x y : Int32} (hd : decode c.code pc0 = .ok (.iadd, 1)) (hpc : pc = pc0)  (K : Go p e below P T (mkF m (pc0 + 1) Ls (.int (x + y) :: st))) : Go p e below P T (mkF m pc Ls (.int y :: .int x :: st)) := by
  subst hpc
  exact Go.of (fun _ q => XS.iadd X.here hx rfl hd rfl q) K
theorem Go.isub (X : Stand p l e R s m args below meth c T locs cells slots) (hx : p.tables.exec = Jvm.exec) {x y : Int32} (hd : decode c.code pc0 = .ok (.isub, 1)) (hpc : pc = pc0)  (K : Go p e below P T (mkF m (pc0 + 1) Ls (.int (x - y) :: st))) : Go p e below P T (mkF m pc Ls (.int y :: .int x :: st)) := by
  subst hpc
  exact Go.of (fun _ q => XS.isub X.here hx rfl hd rfl q) K
theorem Go.imul (X : Stand p l e R s m args below meth c T locs cells slots) (hx : p.tables.exec = Jvm.exec) {x y : Int32} (hd : decode c.code pc0 = .ok (.imul, 1)) (hpc : pc = pc0)  (K : Go p e below P T (mkF m (pc0 + 1) Ls (.int (x * y) :: st))) : Go p e below P T (mkF m pc Ls (.int y :: .int x :: st)) := by
  subst hpc
  exact Go.of (fun _ q => XS.imul X.here hx rfl hd rfl q) K
theorem Go.iand (X : Stand p l e R s m args below meth c T locs cells slots) (hx : p.tables.exec = Jvm.exec) {x y : Int32} (hd : decode c.code pc0 = .ok (.iand, 1)) (hpc : pc = pc0)  (K : Go p e below P T (mkF m (pc0 + 1) Ls (.int (x &&& y) :: st))) : Go p e below P T (mkF m pc Ls (.int y :: .int x :: st)) := by
  subst hpc
  exact Go.of (fun _ q => XS.iand X.here hx rfl hd rfl q) K
theorem Go.ior (X : Stand p l e R s m args below meth c T locs cells slots) (hx : p.tables.exec = Jvm.exec) {x y : Int32} (hd : decode c.code pc0 = .ok (.ior, 1)) (hpc : pc = pc0)  (K : Go p e below P T (mkF m (pc0 + 1) Ls (.int (x ||| y) :: st))) : Go p e below P T (mkF m pc Ls (.int y :: .int x :: st)) := by
  subst hpc
  exact Go.of (fun _ q => XS.ior X.here hx rfl hd rfl q) K
theorem Go.ixor (X : Stand p l e R s m args below meth c T locs cells slots) (hx : p.tables.exec = Jvm.exec) {x y : Int32} (hd : decode c.code pc0 = .ok (.ixor, 1)) (hpc : pc = pc0)  (K : Go p e below P T (mkF m (pc0 + 1) Ls (.int (x ^^^ y) :: st))) : Go p e below P T (mkF m pc Ls (.int y :: .int x :: st)) := by
  subst hpc
  exact Go.of (fun _ q => XS.ixor X.here hx rfl hd rfl q) K
theorem Go.idiv (X : Stand p l e R s m args below meth c T locs cells slots) (hx : p.tables.exec = Jvm.exec) {x y : Int32} (hd : decode c.code pc0 = .ok (.idiv, 1)) (hpc : pc = pc0) (hy : y ≠ 0) (K : Go p e below P T (mkF m (pc0 + 1) Ls (.int (x / y) :: st))) : Go p e below P T (mkF m pc Ls (.int y :: .int x :: st)) := by
  subst hpc
  exact Go.of (fun _ q => XS.idiv X.here hx rfl hd rfl hy q) K
theorem Go.ineg (X : Stand p l e R s m args below meth c T locs cells slots) (hx : p.tables.exec = Jvm.exec) {x : Int32} (hd : decode c.code pc0 = .ok (.ineg, 1)) (hpc : pc = pc0)  (K : Go p e below P T (mkF m (pc0 + 1) Ls (.int (-x) :: st))) : Go p e below P T (mkF m pc Ls (.int x :: st)) := by
  subst hpc
  exact Go.of (fun _ q => XS.ineg X.here hx rfl hd rfl q) K
theorem Go.ladd (X : Stand p l e R s m args below meth c T locs cells slots) (hx : p.tables.exec = Jvm.exec) {x y : Int64} (hd : decode c.code pc0 = .ok (.ladd, 1)) (hpc : pc = pc0)  (K : Go p e below P T (mkF m (pc0 + 1) Ls (.long (x + y) :: st))) : Go p e below P T (mkF m pc Ls (.long y :: .long x :: st)) := by
  subst hpc
  exact Go.of (fun _ q => XS.ladd X.here hx rfl hd rfl q) K
theorem Go.lsub (X : Stand p l e R s m args below meth c T locs cells slots) (hx : p.tables.exec = Jvm.exec) {x y : Int64} (hd : decode c.code pc0 = .ok (.lsub, 1)) (hpc : pc = pc0)  (K : Go p e below P T (mkF m (pc0 + 1) Ls (.long (x - y) :: st))) : Go p e below P T (mkF m pc Ls (.long y :: .long x :: st)) := by
  subst hpc
  exact Go.of (fun _ q => XS.lsub X.here hx rfl hd rfl q) K
theorem Go.lmul (X : Stand p l e R s m args below meth c T locs cells slots) (hx : p.tables.exec = Jvm.exec) {x y : Int64} (hd : decode c.code pc0 = .ok (.lmul, 1)) (hpc : pc = pc0)  (K : Go p e below P T (mkF m (pc0 + 1) Ls (.long (x * y) :: st))) : Go p e below P T (mkF m pc Ls (.long y :: .long x :: st)) := by
  subst hpc
  exact Go.of (fun _ q => XS.lmul X.here hx rfl hd rfl q) K
theorem Go.land (X : Stand p l e R s m args below meth c T locs cells slots) (hx : p.tables.exec = Jvm.exec) {x y : Int64} (hd : decode c.code pc0 = .ok (.land, 1)) (hpc : pc = pc0)  (K : Go p e below P T (mkF m (pc0 + 1) Ls (.long (x &&& y) :: st))) : Go p e below P T (mkF m pc Ls (.long y :: .long x :: st)) := by
  subst hpc
  exact Go.of (fun _ q => XS.land X.here hx rfl hd rfl q) K
theorem Go.lor (X : Stand p l e R s m args below meth c T locs cells slots) (hx : p.tables.exec = Jvm.exec) {x y : Int64} (hd : decode c.code pc0 = .ok (.lor, 1)) (hpc : pc = pc0)  (K : Go p e below P T (mkF m (pc0 + 1) Ls (.long (x ||| y) :: st))) : Go p e below P T (mkF m pc Ls (.long y :: .long x :: st)) := by
  subst hpc
  exact Go.of (fun _ q => XS.lor X.here hx rfl hd rfl q) K
theorem Go.lxor (X : Stand p l e R s m args below meth c T locs cells slots) (hx : p.tables.exec = Jvm.exec) {x y : Int64} (hd : decode c.code pc0 = .ok (.lxor, 1)) (hpc : pc = pc0)  (K : Go p e below P T (mkF m (pc0 + 1) Ls (.long (x ^^^ y) :: st))) : Go p e below P T (mkF m pc Ls (.long y :: .long x :: st)) := by
  subst hpc
  exact Go.of (fun _ q => XS.lxor X.here hx rfl hd rfl q) K
theorem Go.ldiv (X : Stand p l e R s m args below meth c T locs cells slots) (hx : p.tables.exec = Jvm.exec) {x y : Int64} (hd : decode c.code pc0 = .ok (.ldiv, 1)) (hpc : pc = pc0) (hy : y ≠ 0) (K : Go p e below P T (mkF m (pc0 + 1) Ls (.long (x / y) :: st))) : Go p e below P T (mkF m pc Ls (.long y :: .long x :: st)) := by
  subst hpc
  exact Go.of (fun _ q => XS.ldiv X.here hx rfl hd rfl hy q) K
theorem Go.lneg (X : Stand p l e R s m args below meth c T locs cells slots) (hx : p.tables.exec = Jvm.exec) {x : Int64} (hd : decode c.code pc0 = .ok (.lneg, 1)) (hpc : pc = pc0)  (K : Go p e below P T (mkF m (pc0 + 1) Ls (.long (-x) :: st))) : Go p e below P T (mkF m pc Ls (.long x :: st)) := by
  subst hpc
  exact Go.of (fun _ q => XS.lneg X.here hx rfl hd rfl q) K
theorem Go.irem (X : Stand p l e R s m args below meth c T locs cells slots) (hx : p.tables.exec = Jvm.exec) {x y : Int32} (hd : decode c.code pc0 = .ok (.irem, 1)) (hpc : pc = pc0) (hy : y ≠ 0) (K : Go p e below P T (mkF m (pc0 + 1) Ls (.int (x % y) :: st))) : Go p e below P T (mkF m pc Ls (.int y :: .int x :: st)) := by
  subst hpc
  exact Go.of (fun _ q => iremM X hx rfl hd rfl hy q) K
theorem Go.lrem (X : Stand p l e R s m args below meth c T locs cells slots) (hx : p.tables.exec = Jvm.exec) {x y : Int64} (hd : decode c.code pc0 = .ok (.lrem, 1)) (hpc : pc = pc0) (hy : y ≠ 0) (K : Go p e below P T (mkF m (pc0 + 1) Ls (.long (x - (x / y) * y) :: st))) : Go p e below P T (mkF m pc Ls (.long y :: .long x :: st)) := by
  subst hpc
  exact Go.of (fun _ q => XS.lrem X.here hx rfl hd rfl hy q) K
theorem Go.ishl (X : Stand p l e R s m args below meth c T locs cells slots) (hx : p.tables.exec = Jvm.exec) {x y : Int32} (hd : decode c.code pc0 = .ok (.ishl, 1)) (hpc : pc = pc0)  (K : Go p e below P T (mkF m (pc0 + 1) Ls (.int (x <<< (y &&& 31)) :: st))) : Go p e below P T (mkF m pc Ls (.int y :: .int x :: st)) := by
  subst hpc
  exact Go.of (fun _ q => XS.ishl X.here hx rfl hd rfl q) K
theorem Go.ishr (X : Stand p l e R s m args below meth c T locs cells slots) (hx : p.tables.exec = Jvm.exec) {x y : Int32} (hd : decode c.code pc0 = .ok (.ishr, 1)) (hpc : pc = pc0)  (K : Go p e below P T (mkF m (pc0 + 1) Ls (.int (x >>> (y &&& 31)) :: st))) : Go p e below P T (mkF m pc Ls (.int y :: .int x :: st)) := by
  subst hpc
  exact Go.of (fun _ q => XS.ishr X.here hx rfl hd rfl q) K
theorem Go.iushr (X : Stand p l e R s m args below meth c T locs cells slots) (hx : p.tables.exec = Jvm.exec) {x y : Int32} (hd : decode c.code pc0 = .ok (.iushr, 1)) (hpc : pc = pc0)  (K : Go p e below P T (mkF m (pc0 + 1) Ls (.int ((x.toUInt32 >>> (y &&& 31).toUInt32).toInt32) :: st))) : Go p e below P T (mkF m pc Ls (.int y :: .int x :: st)) := by
  subst hpc
  exact Go.of (fun _ q => XS.iushr X.here hx rfl hd rfl q) K
theorem Go.lshl (X : Stand p l e R s m args below meth c T locs cells slots) (hx : p.tables.exec = Jvm.exec) {x : Int64} {y : Int32} (hd : decode c.code pc0 = .ok (.lshl, 1)) (hpc : pc = pc0)  (K : Go p e below P T (mkF m (pc0 + 1) Ls (.long (x <<< (y &&& 0x3f).toInt64) :: st))) : Go p e below P T (mkF m pc Ls (.int y :: .long x :: st)) := by
  subst hpc
  exact Go.of (fun _ q => XS.lshl X.here hx rfl hd rfl q) K
theorem Go.lshr (X : Stand p l e R s m args below meth c T locs cells slots) (hx : p.tables.exec = Jvm.exec) {x : Int64} {y : Int32} (hd : decode c.code pc0 = .ok (.lshr, 1)) (hpc : pc = pc0)  (K : Go p e below P T (mkF m (pc0 + 1) Ls (.long (x >>> (y &&& 0x3f).toInt64) :: st))) : Go p e below P T (mkF m pc Ls (.int y :: .long x :: st)) := by
  subst hpc
  exact Go.of (fun _ q => XS.lshr X.here hx rfl hd rfl q) K
theorem Go.lushr (X : Stand p l e R s m args below meth c T locs cells slots) (hx : p.tables.exec = Jvm.exec) {x : Int64} {y : Int32} (hd : decode c.code pc0 = .ok (.lushr, 1)) (hpc : pc = pc0)  (K : Go p e below P T (mkF m (pc0 + 1) Ls (.long ((x.toUInt64 >>> (y &&& 0x3f).toInt64.toUInt64).toInt64) :: st))) : Go p e below P T (mkF m pc Ls (.int y :: .long x :: st)) := by
  subst hpc
  exact Go.of (fun _ q => XS.lushr X.here hx rfl hd rfl q) K
theorem Go.i2l (X : Stand p l e R s m args below meth c T locs cells slots) (hx : p.tables.exec = Jvm.exec) {x : Int32} (hd : decode c.code pc0 = .ok (.i2l, 1)) (hpc : pc = pc0)  (K : Go p e below P T (mkF m (pc0 + 1) Ls (.long x.toInt64 :: st))) : Go p e below P T (mkF m pc Ls (.int x :: st)) := by
  subst hpc
  exact Go.of (fun _ q => XS.i2l X.here hx rfl hd rfl q) K
theorem Go.l2i (X : Stand p l e R s m args below meth c T locs cells slots) (hx : p.tables.exec = Jvm.exec) {x : Int64} (hd : decode c.code pc0 = .ok (.l2i, 1)) (hpc : pc = pc0)  (K : Go p e below P T (mkF m (pc0 + 1) Ls (.int x.toInt32 :: st))) : Go p e below P T (mkF m pc Ls (.long x :: st)) := by
  subst hpc
  exact Go.of (fun _ q => XS.l2i X.here hx rfl hd rfl q) K
theorem Go.i2b (X : Stand p l e R s m args below meth c T locs cells slots) (hx : p.tables.exec = Jvm.exec) {x : Int32} (hd : decode c.code pc0 = .ok (.i2b, 1)) (hpc : pc = pc0)  (K : Go p e below P T (mkF m (pc0 + 1) Ls (.int x.toInt8.toInt32 :: st))) : Go p e below P T (mkF m pc Ls (.int x :: st)) := by
  subst hpc
  exact Go.of (fun _ q => XS.i2b X.here hx rfl hd rfl q) K
theorem Go.i2s (X : Stand p l e R s m args below meth c T locs cells slots) (hx : p.tables.exec = Jvm.exec) {x : Int32} (hd : decode c.code pc0 = .ok (.i2s, 1)) (hpc : pc = pc0)  (K : Go p e below P T (mkF m (pc0 + 1) Ls (.int x.toInt16.toInt32 :: st))) : Go p e below P T (mkF m pc Ls (.int x :: st)) := by
  subst hpc
  exact Go.of (fun _ q => XS.i2s X.here hx rfl hd rfl q) K
theorem Go.i2c (X : Stand p l e R s m args below meth c T locs cells slots) (hx : p.tables.exec = Jvm.exec) {x : Int32} (hd : decode c.code pc0 = .ok (.i2c, 1)) (hpc : pc = pc0)  (K : Go p e below P T (mkF m (pc0 + 1) Ls (.int x.toUInt32.toUInt16.toUInt32.toInt32 :: st))) : Go p e below P T (mkF m pc Ls (.int x :: st)) := by
  subst hpc
  exact Go.of (fun _ q => XS.i2c X.here hx rfl hd rfl q) K
theorem Go.lcmp (X : Stand p l e R s m args below meth c T locs cells slots) (hx : p.tables.exec = Jvm.exec) {x y : Int64} (hd : decode c.code pc0 = .ok (.lcmp, 1)) (hpc : pc = pc0)  (K : Go p e below P T (mkF m (pc0 + 1) Ls (.int (lcmpW x y) :: st))) : Go p e below P T (mkF m pc Ls (.long y :: .long x :: st)) := by
  subst hpc
  exact Go.of (fun _ q => XS.lcmp X.here hx rfl hd rfl q) K
theorem Go.dup (X : Stand p l e R s m args below meth c T locs cells slots) (hx : p.tables.exec = Jvm.exec) {x : Value} (hd : decode c.code pc0 = .ok (.dup, 1)) (hpc : pc = pc0) (hc : x.category = 1) (K : Go p e below P T (mkF m (pc0 + 1) Ls (x :: x :: st))) : Go p e below P T (mkF m pc Ls (x :: st)) := by
  subst hpc
  exact Go.of (fun _ q => XS.dup X.here hx rfl hd rfl hc q) K
theorem Go.dupX1 (X : Stand p l e R s m args below meth c T locs cells slots) (hx : p.tables.exec = Jvm.exec) {x y : Value} (hd : decode c.code pc0 = .ok (.dup_x1, 1)) (hpc : pc = pc0) (hc : x.category = 1) (hc' : y.category = 1) (K : Go p e below P T (mkF m (pc0 + 1) Ls (x :: y :: x :: st))) : Go p e below P T (mkF m pc Ls (x :: y :: st)) := by
  subst hpc
  exact Go.of (fun _ q => XS.dupX1 X.here hx rfl hd rfl hc hc' q) K
theorem Go.dup2 (X : Stand p l e R s m args below meth c T locs cells slots) (hx : p.tables.exec = Jvm.exec) {x y : Value} (hd : decode c.code pc0 = .ok (.dup2, 1)) (hpc : pc = pc0) (hc : x.category = 1) (hc' : y.category = 1) (K : Go p e below P T (mkF m (pc0 + 1) Ls (x :: y :: x :: y :: st))) : Go p e below P T (mkF m pc Ls (x :: y :: st)) := by
  subst hpc
  exact Go.of (fun _ q => XT.dup2 X.here hx rfl hd rfl hc hc' q) K
theorem Go.pop (X : Stand p l e R s m args below meth c T locs cells slots) (hx : p.tables.exec = Jvm.exec) {x : Value} (hd : decode c.code pc0 = .ok (.pop, 1)) (hpc : pc = pc0) (hc : x.category = 1) (K : Go p e below P T (mkF m (pc0 + 1) Ls (st))) : Go p e below P T (mkF m pc Ls (x :: st)) := by
  subst hpc
  exact Go.of (fun _ q => XS.pop X.here hx rfl hd rfl hc q) K
theorem Go.iinc (X : Stand p l e R s m args below meth c T locs cells slots) (hx : p.tables.exec = Jvm.exec) {k : Nat} {cst : Int} {x : Int32} (hd : decode c.code pc0 = .ok (.iinc k cst, 3)) (hpc : pc = pc0) (hl : Ls[k]? = some (.val (.int x))) (l' : Array Slot) (hl' : storeLocals Ls k (.int (x + Int32.ofInt cst)) = some l') (K : Go p e below P T (mkF m (pc0 + 3) l' (st))) : Go p e below P T (mkF m pc Ls (st)) := by
  subst hpc
  exact Go.of (fun _ q => XS.iinc X.here hx rfl hd hl hl' q) K
theorem Go.goto (X : Stand p l e R s m args below meth c T locs cells slots) (hx : p.tables.exec = Jvm.exec)  {o : Int} (hd : decode c.code pc0 = .ok (.goto o, 3)) (hpc : pc = pc0) (pc' : Nat)  (ho : 0 ≤ (pc0 : Int) + o) (hp : ((pc0 : Int) + o).toNat = pc') (K : Go p e below P T (mkF m pc' Ls st)) : Go p e below P T (mkF m pc Ls (st)) := by
  subst hpc
  exact Go.of (fun _ q => XS.goto X.here hx rfl rfl hd ho hp q) K
theorem Go.ifYes (X : Stand p l e R s m args below meth c T locs cells slots) (hx : p.tables.exec = Jvm.exec) {cd : ClassFile.Cond} {x : Int32} {o : Int} (hd : decode c.code pc0 = .ok (.ifCond cd o, 3)) (hpc : pc = pc0) (pc' : Nat) (hc : ifCond.holds cd x = true) (ho : 0 ≤ (pc0 : Int) + o) (hp : ((pc0 : Int) + o).toNat = pc') (K : Go p e below P T (mkF m pc' Ls st)) : Go p e below P T (mkF m pc Ls (.int x :: st)) := by
  subst hpc
  exact Go.of (fun _ q => XS.ifYes X.here hx rfl rfl hd rfl hc ho hp q) K
theorem Go.icmpYes (X : Stand p l e R s m args below meth c T locs cells slots) (hx : p.tables.exec = Jvm.exec) {cd : ClassFile.Cond} {x y : Int32} {o : Int} (hd : decode c.code pc0 = .ok (.if_icmp cd o, 3)) (hpc : pc = pc0) (pc' : Nat) (hc : if_icmp.holds cd x y = true) (ho : 0 ≤ (pc0 : Int) + o) (hp : ((pc0 : Int) + o).toNat = pc') (K : Go p e below P T (mkF m pc' Ls st)) : Go p e below P T (mkF m pc Ls (.int y :: .int x :: st)) := by
  subst hpc
  exact Go.of (fun _ q => XS.icmpYes X.here hx rfl rfl hd rfl hc ho hp q) K
theorem Go.ifnullYes (X : Stand p l e R s m args below meth c T locs cells slots) (hx : p.tables.exec = Jvm.exec)  {o : Int} (hd : decode c.code pc0 = .ok (.ifnull o, 3)) (hpc : pc = pc0) (pc' : Nat)  (ho : 0 ≤ (pc0 : Int) + o) (hp : ((pc0 : Int) + o).toNat = pc') (K : Go p e below P T (mkF m pc' Ls st)) : Go p e below P T (mkF m pc Ls (.null :: st)) := by
  subst hpc
  exact Go.of (fun _ q => XS.ifnullYes X.here hx rfl rfl hd rfl ho hp q) K
theorem Go.ifnonnullYes (X : Stand p l e R s m args below meth c T locs cells slots) (hx : p.tables.exec = Jvm.exec) {b : Addr} {o : Int} (hd : decode c.code pc0 = .ok (.ifnonnull o, 3)) (hpc : pc = pc0) (pc' : Nat)  (ho : 0 ≤ (pc0 : Int) + o) (hp : ((pc0 : Int) + o).toNat = pc') (K : Go p e below P T (mkF m pc' Ls st)) : Go p e below P T (mkF m pc Ls (.ref b :: st)) := by
  subst hpc
  exact Go.of (fun _ q => XS.ifnonnullYes X.here hx rfl rfl hd rfl ho hp q) K
theorem Go.ifNo (X : Stand p l e R s m args below meth c T locs cells slots) (hx : p.tables.exec = Jvm.exec) {cd : ClassFile.Cond} {o : Int} {x : Int32} (hd : decode c.code pc0 = .ok (.ifCond cd o, 3)) (hpc : pc = pc0) (hc : ifCond.holds cd x = false) (K : Go p e below P T (mkF m (pc0 + 3) Ls (st))) : Go p e below P T (mkF m pc Ls (.int x :: st)) := by
  subst hpc
  exact Go.of (fun _ q => XS.ifNo X.here hx rfl hd rfl hc q) K
theorem Go.icmpNo (X : Stand p l e R s m args below meth c T locs cells slots) (hx : p.tables.exec = Jvm.exec) {cd : ClassFile.Cond} {o : Int} {x y : Int32} (hd : decode c.code pc0 = .ok (.if_icmp cd o, 3)) (hpc : pc = pc0) (hc : if_icmp.holds cd x y = false) (K : Go p e below P T (mkF m (pc0 + 3) Ls (st))) : Go p e below P T (mkF m pc Ls (.int y :: .int x :: st)) := by
  subst hpc
  exact Go.of (fun _ q => XS.icmpNo X.here hx rfl hd rfl hc q) K
theorem Go.ifnullNo (X : Stand p l e R s m args below meth c T locs cells slots) (hx : p.tables.exec = Jvm.exec) {o : Int} {b : Addr} (hd : decode c.code pc0 = .ok (.ifnull o, 3)) (hpc : pc = pc0)  (K : Go p e below P T (mkF m (pc0 + 3) Ls (st))) : Go p e below P T (mkF m pc Ls (.ref b :: st)) := by
  subst hpc
  exact Go.of (fun _ q => XS.ifnullNo X.here hx rfl hd rfl q) K
theorem Go.ifnonnullNo (X : Stand p l e R s m args below meth c T locs cells slots) (hx : p.tables.exec = Jvm.exec) {o : Int} (hd : decode c.code pc0 = .ok (.ifnonnull o, 3)) (hpc : pc = pc0)  (K : Go p e below P T (mkF m (pc0 + 3) Ls (st))) : Go p e below P T (mkF m pc Ls (.null :: st)) := by
  subst hpc
  exact Go.of (fun _ q => XS.ifnonnullNo X.here hx rfl hd rfl q) K
theorem Go.acmp (X : Stand p l e R s m args below meth c T locs cells slots) (hx : p.tables.exec = Jvm.exec) {cd : ACond} {x y : Value} {o : Int} (hd : decode c.code pc0 = .ok (.if_acmp cd o, 3)) (hpc : pc = pc0) (h1 : x.isRef = true) (h2 : y.isRef = true) (same : Bool) (hq : decide (x = y) = same) (pc' : Nat) (ho : 0 ≤ (pc0 : Int) + o) (hp : pc' = if acV cd same = true then ((pc0 : Int) + o).toNat else pc0 + 3) (K : Go p e below P T (mkF m pc' Ls st)) : Go p e below P T (mkF m pc Ls (y :: x :: st)) := by
  subst hpc
  exact Go.of (fun _ q => Jvm.RoadKit.acmp X hx rfl h1 h2 rfl hd rfl hq ho hp q) K
theorem Go.tswIn (X : Stand p l e R s m args below meth c T locs cells slots) (hx : p.tables.exec = Jvm.exec) {dflt low high : Int} {offs : Array Int} {len : Nat} {o : Int} {i : Int32} (hd : decode c.code pc0 = .ok (.tableswitch dflt low high offs, len)) (hpc : pc = pc0) (pc' : Nat) (hin : ¬ (i.toInt < low ∨ i.toInt > high)) (hoff : offs[(i.toInt - low).toNat]? = some o) (ho : 0 ≤ (pc0 : Int) + o) (hp : ((pc0 : Int) + o).toNat = pc') (K : Go p e below P T (mkF m pc' Ls st)) : Go p e below P T (mkF m pc Ls (.int i :: st)) := by
  subst hpc
  exact Go.of (fun _ q => XS.tswIn X.here hx rfl rfl hd rfl hin hoff ho hp q) K
theorem Go.ldc (X : Stand p l e R s m args below meth c T locs cells slots) (hx : p.tables.exec = Jvm.exec) (hZ : Z.Warmed39 s.vm) {own : String} {index : Nat} (hown : s.vm.findClass own = some m.cls) {v : Int32} (w : (Cond.constant own index v).before a0 Z = true) (hd : decode c.code pc0 = .ok (.ldc index, 2)) (hpc : pc = pc0) (K : Go p e below P T (mkF m (pc0 + 2) Ls (.int v :: st))) : Go p e below P T (mkF m pc Ls st) := by
  subst hpc
  exact Go.of (fun _ q => X.ldcInt hx hown (mvT hZ w) (g := mkF m pc Ls st) rfl hd _ q) K
theorem Go.ldc_w (X : Stand p l e R s m args below meth c T locs cells slots) (hx : p.tables.exec = Jvm.exec) (hZ : Z.Warmed39 s.vm) {own : String} {index : Nat} (hown : s.vm.findClass own = some m.cls) {v : Int32} (w : (Cond.constant own index v).before a0 Z = true) (hd : decode c.code pc0 = .ok (.ldc_w index, 3)) (hpc : pc = pc0) (K : Go p e below P T (mkF m (pc0 + 3) Ls (.int v :: st))) : Go p e below P T (mkF m pc Ls st) := by
  subst hpc
  exact Go.of (fun _ q => X.ldcwInt hx hown (mvT hZ w) (g := mkF m pc Ls st) rfl hd _ q) K
theorem Go.ldc2_w (X : Stand p l e R s m args below meth c T locs cells slots) (hx : p.tables.exec = Jvm.exec) (hZ : Z.Warmed39 s.vm) {own : String} {index : Nat} (hown : s.vm.findClass own = some m.cls) {v : Int64} (w : (Cond.constantLong own index v).before a0 Z = true) (hd : decode c.code pc0 = .ok (.ldc2_w index, 3)) (hpc : pc = pc0) (K : Go p e below P T (mkF m (pc0 + 3) Ls (.long v :: st))) : Go p e below P T (mkF m pc Ls st) := by
  subst hpc
  exact Go.of (fun _ q => X.ldc2Long hx hown (mvT hZ w) (g := mkF m pc Ls st) rfl hd _ q) K
theorem Go.getS (X : Stand p l e R s m args below meth c T locs cells slots) (hx : p.tables.exec = Jvm.exec) (hZ : Z.Warmed39 s.vm) {own : String} {index : Nat} (hown : s.vm.findClass own = some m.cls) {R0 O n d host : String} {v : Value} (w : (Cond.fieldLink own index R0 n d).before a0 Z = true ∨ (Cond.fieldLinkNest own index R0 n d host).before a0 Z = true) (via : Via Z R0 O n d) (eT : T.heap = h) (F : Sta Z h O n d v) (hd : decode c.code pc0 = .ok (.getstatic index, 3)) (hpc : pc = pc0) (K : ∀ T', Stand p l e R s m args below meth c T' locs cells slots → T'.heap = h → Go p e below P T' (mkF m (pc0 + 3) Ls (v :: st))) : Go p e below P T (mkF m pc Ls st) := by
  subst hpc
  obtain ⟨T', X', e', q⟩ := getS2 X hx hZ hown w via eT F (g := mkF m pc Ls st) rfl hd
  exact Go.of q (K T' X' e')
theorem Go.getF (X : Stand p l e R s m args below meth c T locs cells slots) (hx : p.tables.exec = Jvm.exec) (hZ : Z.Warmed39 s.vm) {own : String} {index : Nat} (hown : s.vm.findClass own = some m.cls) {R0 O n d host : String} {a : Addr} {v : Value} (w : (Cond.fieldLink own index R0 n d).before a0 Z = true ∨ (Cond.fieldLinkNest own index R0 n d host).before a0 Z = true) (via : Via Z R0 O n d) (eT : T.heap = h) (F : Fld Z h a O n d v) (hd : decode c.code pc0 = .ok (.getfield index, 3)) (hpc : pc = pc0) (K : ∀ T', Stand p l e R s m args below meth c T' locs cells slots → T'.heap = h → Go p e below P T' (mkF m (pc0 + 3) Ls (v :: st))) : Go p e below P T (mkF m pc Ls (.ref a :: st)) := by
  subst hpc
  obtain ⟨T', X', e', q⟩ := Jvm.RoadKit.getF X hx hZ hown w via eT F (g := mkF m pc Ls (.ref a :: st)) rfl rfl hd
  exact Go.of q (K T' X' e')
theorem Go.putF (X : Stand p l e R s m args below meth c T locs cells slots) (hx : p.tables.exec = Jvm.exec) (hZ : Z.Warmed39 s.vm) {own : String} {index : Nat} (hown : s.vm.findClass own = some m.cls) {R0 O n d host C : String} {kk : Nat} {a : Addr} {v old : Value} {ty : FieldType} (w : (Cond.fieldLink own index R0 n d).before a0 Z = true ∨ (Cond.fieldLinkNest own index R0 n d host).before a0 Z = true) (via : Via Z R0 O n d) (eT : T.heap = h) (F : Fld Z h a O n d old) (E : Exa Z h a C) (L : (Cond.lays C O n d).before a0 Z = true ∨ ((Cond.laysFinal C O n d).before a0 Z = true ∧ own = O ∧ meth.name = "<init>")) (wi : (Cond.instantiable C kk).before a0 Z = true) (hty : parseFieldDescriptor d = some ty) (hn : narrow ty v = v) (hf : fits ty v = true) (hd : decode c.code pc0 = .ok (.putfield index, 3)) (hpc : pc = pc0)
    (K : ∀ T' h', Stand p l e R s m args below meth c T' (locs ++ [⟨a, Jvm.RoadKit.slotOf Z O n d⟩]) cells slots → T'.heap = h' → Wr h h' a (Jvm.RoadKit.slotOf Z O n d) v → Fld Z h' a O n d v → Go p e below P T' (mkF m (pc0 + 3) Ls st)) : Go p e below P T (mkF m pc Ls (v :: .ref a :: st)) := by
  subst hpc
  obtain ⟨T', h', X', e', W, q⟩ := Jvm.RoadKit.putF X hx hZ hown w via eT F E L wi hty hn hf (g := mkF m pc Ls (v :: .ref a :: st)) rfl rfl hd
  exact Go.of q (K T' h' X' e' W (F.same W))
theorem Go.newO (X : Stand p l e R s m args below meth c T locs cells slots) (hx : p.tables.exec = Jvm.exec) (hZ : Z.Warmed39 s.vm) {own : String} {index : Nat} (hown : s.vm.findClass own = some m.cls) {C : String} {n : Nat} (w : (Cond.classLink own index C).before a0 Z = true) (wi : (Cond.instantiable C n).before a0 Z = true) (wz : (Cond.initialized C).before a0 Z = true) (eT : T.heap = h) (hd : decode c.code pc0 = .ok (.new index, 3)) (hpc : pc = pc0) (hc : cells + 1 ≤ R.cells) (hl : slots + n ≤ R.slots)
    (K : ∀ T' h' b, b = h.size → Stand p l e R s m args below meth c T' locs (cells + 1) (slots + n) → T'.heap = h' → Ext h h' → Exa Z h' b C → (∀ {O nm d : String} {ty : FieldType}, Laid Z a0 C O nm d → parseFieldDescriptor d = some ty → Fld Z h' b O nm d (defaultValue ty)) → Go p e below P T' (mkF m (pc0 + 3) Ls (.ref b :: st))) : Go p e below P T (mkF m pc Ls st) := by
  subst hpc
  obtain ⟨T', h', X', e', E, A, D, -, q⟩ := Jvm.RoadKit.newO X hx hZ hown w wi wz eT (g := mkF m pc Ls st) rfl hd hc hl
  exact Go.of q (K T' h' _ rfl X' e' E A D)
theorem Go.initO (X : Stand p l e R s m args below meth c T locs cells slots) (hx : p.tables.exec = Jvm.exec) (hZ : Z.Warmed39 s.vm) {own : String} {index : Nat} (hown : s.vm.findClass own = some m.cls) (w1 : (Cond.methodLink own index Lib.objectInit).before a0 Z = true) (w2 : (Cond.instanceMethod Lib.objectInit).before a0 Z = true) (w3 : (Cond.code Lib.objectInit ⟨#[0xb1]⟩ 1 none).before a0 Z = true) (eT : T.heap = h) (hsz : Ls.size = c.maxLocals) {a : Addr} (hd : decode c.code pc0 = .ok (.invokespecial index, 3)) (hpc : pc = pc0) (hf : 1 ≤ R.frames) (hl : (st.map fun v => v.category).sum + 12 ≤ R.locals) (K : ∀ T', Stand p l e R s m args below meth c T' locs cells slots → T'.heap = h → Go p e below P T' (mkF m (pc0 + 3) Ls (st))) : Go p e below P T (mkF m pc Ls (.ref a :: st)) := by
  subst hpc
  obtain ⟨T', X', e', q⟩ := Jvm.RoadKit.initO X hx hZ hown w1 w2 w3 eT (g := mkF m pc Ls (.ref a :: st)) rfl hsz rfl hd hf (W := (st.map fun v => v.category).sum) (by show 2 * 0 + _ ≤ _; omega) hl
  exact Go.of q (K T' X' e')
theorem Go.alen (X : Stand p l e R s m args below meth c T locs cells slots) (hx : p.tables.exec = Jvm.exec) (hZ : Z.Warmed39 s.vm) {a : Addr} {k : ClassId} {ty : FieldType} {n : Int32} {vs : List Value} {dv : Value} (A : Arv Z h a k ty n vs dv) (eT : T.heap = h) (hd : decode c.code pc0 = .ok (.arraylength, 1)) (hpc : pc = pc0) (K : Go p e below P T (mkF m (pc0 + 1) Ls (.int n :: st))) : Go p e below P T (mkF m pc Ls (.ref a :: st)) := by
  subst hpc
  obtain ⟨cl, Ar, -, Sz, Ng, -, -⟩ := A
  refine Go.of (fun _ q => X.arraylength hx (by rw [eT]; exact Ar.1) (State.isArrayOf_alike hZ.alike Ar.2.1) (g := mkF m pc Ls (.ref a :: st)) rfl rfl hd _ q) ?_
  rw [len_of Sz Ng]
  exact K
theorem Go.iaload (X : Stand p l e R s m args below meth c T locs cells slots) (hx : p.tables.exec = Jvm.exec) (hZ : Z.Warmed39 s.vm) {a : Addr} {k : ClassId} {n : Int32} {vs : List Value} {dv : Value} {j : Int32} (v : Value) (A : Arv Z h a k .int n vs dv) (eT : T.heap = h) (hj : ¬ j < 0 ∧ j < n) (hv : vs.getD j.toNatClampNeg dv = v) (hd : decode c.code pc0 = .ok (.iaload, 1)) (hpc : pc = pc0) (K : Go p e below P T (mkF m (pc0 + 1) Ls (v :: st))) : Go p e below P T (mkF m pc Ls (.int j :: .ref a :: st)) := by
  subst hpc
  obtain ⟨cl, Ar, -, Sz, Ng, Hs, -⟩ := A
  have hin : ¬ (j < 0 ∨ cl.slots.size ≤ j.toNatClampNeg) := inb_of Sz hj
  exact Go.of (fun _ q => X.iaload hx (j := j) (v := v) (by rw [eT]; exact Ar.1) (State.isArrayOf_alike hZ.alike Ar.2.1) Ar.2.2 hin (Has.at Hs hin hv) (g := mkF m pc Ls (.int j :: .ref a :: st)) rfl rfl hd _ q) K
theorem Go.laload (X : Stand p l e R s m args below meth c T locs cells slots) (hx : p.tables.exec = Jvm.exec) (hZ : Z.Warmed39 s.vm) {a : Addr} {k : ClassId} {n : Int32} {vs : List Value} {dv : Value} {j : Int32} (v : Value) (A : Arv Z h a k .long n vs dv) (eT : T.heap = h) (hj : ¬ j < 0 ∧ j < n) (hv : vs.getD j.toNatClampNeg dv = v) (hd : decode c.code pc0 = .ok (.laload, 1)) (hpc : pc = pc0) (K : Go p e below P T (mkF m (pc0 + 1) Ls (v :: st))) : Go p e below P T (mkF m pc Ls (.int j :: .ref a :: st)) := by
  subst hpc
  obtain ⟨cl, Ar, -, Sz, Ng, Hs, -⟩ := A
  have hin : ¬ (j < 0 ∨ cl.slots.size ≤ j.toNatClampNeg) := inb_of Sz hj
  exact Go.of (fun _ q => X.laload hx (j := j) (v := v) (by rw [eT]; exact Ar.1) (State.isArrayOf_alike hZ.alike Ar.2.1) Ar.2.2 hin (Has.at Hs hin hv) (g := mkF m pc Ls (.int j :: .ref a :: st)) rfl rfl hd _ q) K
theorem Go.aaload (X : Stand p l e R s m args below meth c T locs cells slots) (hx : p.tables.exec = Jvm.exec) (hZ : Z.Warmed39 s.vm) {a : Addr} {k : ClassId} {ty : FieldType} {n : Int32} {vs : List Value} {dv : Value} {j : Int32} (v : Value) (A : Arv Z h a k ty n vs dv) (eT : T.heap = h) (hty : ty.isReference = true) (hj : ¬ j < 0 ∧ j < n) (hv : vs.getD j.toNatClampNeg dv = v) (hd : decode c.code pc0 = .ok (.aaload, 1)) (hpc : pc = pc0) (K : Go p e below P T (mkF m (pc0 + 1) Ls (v :: st))) : Go p e below P T (mkF m pc Ls (.int j :: .ref a :: st)) := by
  subst hpc
  obtain ⟨cl, Ar, -, Sz, Ng, Hs, -⟩ := A
  have hin : ¬ (j < 0 ∨ cl.slots.size ≤ j.toNatClampNeg) := inb_of Sz hj
  exact Go.of (fun _ q => X.aaload hx (j := j) (v := v) (by rw [eT]; exact Ar.1) (State.isArrayOf_alike hZ.alike Ar.2.1) hty Ar.2.2 hin (Has.at Hs hin hv) (g := mkF m pc Ls (.int j :: .ref a :: st)) rfl rfl hd _ q) K
theorem Go.iastore (X : Stand p l e R s m args below meth c T locs cells slots) (hx : p.tables.exec = Jvm.exec) (hZ : Z.Warmed39 s.vm) {a : Addr} {k : ClassId} {n : Int32} {vs : List Value} {dv : Value} {j : Int32} {x : Int32} (A : Arv Z h a k .int n vs dv) (eT : T.heap = h) (hj : ¬ j < 0 ∧ j < n) (i : Nat) (hi : j.toNatClampNeg = i) (hl : i < vs.length) (hd : decode c.code pc0 = .ok (.iastore, 1)) (hpc : pc = pc0)
    (K : ∀ T' h', Stand p l e R s m args below meth c T' (locs ++ [⟨a, j.toNatClampNeg⟩]) cells slots → T'.heap = h' → Wr h h' a j.toNatClampNeg (.int x) → Arv Z h' a k .int n (vs.set i (.int x)) dv → Go p e below P T' (mkF m (pc0 + 1) Ls st)) : Go p e below P T (mkF m pc Ls (.int x :: .int j :: .ref a :: st)) := by
  subst hpc
  obtain ⟨cl, Ar, cq, Sz, Ng, Hs, Gs⟩ := A
  have hin : ¬ (j < 0 ∨ cl.slots.size ≤ j.toNatClampNeg) := inb_of Sz hj
  obtain ⟨T', h', X', e', W, q⟩ := stI X hx hZ eT Ar (j := j) hin (g := mkF m pc Ls (.int x :: .int j :: .ref a :: st)) rfl rfl hd
  exact Go.of q (K T' h' X' e' W (Arv.set Ar cq Sz Ng Hs Gs rfl W i hi hl))
theorem Go.lastore (X : Stand p l e R s m args below meth c T locs cells slots) (hx : p.tables.exec = Jvm.exec) (hZ : Z.Warmed39 s.vm) {a : Addr} {k : ClassId} {n : Int32} {vs : List Value} {dv : Value} {j : Int32} {x : Int64} (A : Arv Z h a k .long n vs dv) (eT : T.heap = h) (hj : ¬ j < 0 ∧ j < n) (i : Nat) (hi : j.toNatClampNeg = i) (hl : i < vs.length) (hd : decode c.code pc0 = .ok (.lastore, 1)) (hpc : pc = pc0)
    (K : ∀ T' h', Stand p l e R s m args below meth c T' (locs ++ [⟨a, j.toNatClampNeg⟩]) cells slots → T'.heap = h' → Wr h h' a j.toNatClampNeg (.long x) → Arv Z h' a k .long n (vs.set i (.long x)) dv → Go p e below P T' (mkF m (pc0 + 1) Ls st)) : Go p e below P T (mkF m pc Ls (.long x :: .int j :: .ref a :: st)) := by
  subst hpc
  obtain ⟨cl, Ar, cq, Sz, Ng, Hs, Gs⟩ := A
  have hin : ¬ (j < 0 ∨ cl.slots.size ≤ j.toNatClampNeg) := inb_of Sz hj
  obtain ⟨T', h', X', e', W, q⟩ := stJ X hx hZ eT Ar (j := j) hin (g := mkF m pc Ls (.long x :: .int j :: .ref a :: st)) rfl rfl hd
  exact Go.of q (K T' h' X' e' W (Arv.set Ar cq Sz Ng Hs Gs rfl W i hi hl))
theorem Go.aastore (X : Stand p l e R s m args below meth c T locs cells slots) (hx : p.tables.exec = Jvm.exec) (hZ : Z.Warmed39 s.vm) {a : Addr} {k : ClassId} {ty : FieldType} {n : Int32} {vs : List Value} {dv : Value} {j : Int32} {v : Value} (A : Arv Z h a k ty n vs dv) (eT : T.heap = h) (hj : ¬ j < 0 ∧ j < n) (i : Nat) (hi : j.toNatClampNeg = i) (hl : i < vs.length) (hty : ty.isReference = true) (hfv : fits ty v = true) (F : ∀ cl, Arr Z h a cl ty → cl.cls = k → Sto Z h a v) (hd : decode c.code pc0 = .ok (.aastore, 1)) (hpc : pc = pc0)
    (K : ∀ T' h', Stand p l e R s m args below meth c T' (locs ++ [⟨a, j.toNatClampNeg⟩]) cells slots → T'.heap = h' → Wr h h' a j.toNatClampNeg (v) → Arv Z h' a k ty n (vs.set i (v)) dv → Go p e below P T' (mkF m (pc0 + 1) Ls st)) : Go p e below P T (mkF m pc Ls (v :: .int j :: .ref a :: st)) := by
  subst hpc
  obtain ⟨cl, Ar, cq, Sz, Ng, Hs, Gs⟩ := A
  have hin : ¬ (j < 0 ∨ cl.slots.size ≤ j.toNatClampNeg) := inb_of Sz hj
  obtain ⟨T', h', X', e', W, q⟩ := stR X hx hZ eT Ar (j := j) hin hty (F cl Ar cq) (g := mkF m pc Ls (v :: .int j :: .ref a :: st)) rfl rfl hd
  exact Go.of q (K T' h' X' e' W (Arv.set Ar cq Sz Ng Hs Gs hfv W i hi hl))
theorem Go.newP (X : Stand p l e R s m args below meth c T locs cells slots) (hx : p.tables.exec = Jvm.exec) (hZ : Z.Warmed39 s.vm) {aty : ArrayType} {n : Int32} (w : (Cond.arrayClass (newarray.typeOf aty)).before a0 Z = true) (eT : T.heap = h) (u : Nat) (hn : ¬ n < 0) (cap : Nat) (hcap : n.toNatClampNeg ≤ cap) (hb : cap * 8 ≤ 536870912) (hc : cells + 1 ≤ R.cells) (hl : slots + cap ≤ R.slots) (ad : String) (had : "[" ++ (newarray.typeOf aty).toString = ad) (hd : decode c.code pc0 = .ok (.newarray aty, 2)) (hpc : pc = pc0)
    (K : ∀ T' h' b k, b = h.size → Stand p l e R s m args below meth c T' locs (cells + 1) (slots + cap) → T'.heap = h' → Ext h h' → Arv Z h' b k (newarray.typeOf aty) n ([] ++ List.replicate u (defaultValue (newarray.typeOf aty))) (defaultValue (newarray.typeOf aty)) → Exa Z h' b ad → Go p e below P T' (mkF m (pc0 + 2) Ls (.ref b :: st))) : Go p e below P T (mkF m pc Ls (.int n :: st)) := by
  subst hpc
  obtain ⟨T', h', cA, X', e', E, A, A', q⟩ := newPE X hx hZ w eT (g := mkF m pc Ls (.int n :: st)) rfl hd rfl hn (cap := cap) hcap hb hc hl had
  exact Go.of q (K T' h' _ cA rfl X' e' E ((Arv.new A hn).pad (pad_rep [] _ u)) A')
theorem Go.newR (X : Stand p l e R s m args below meth c T locs cells slots) (hx : p.tables.exec = Jvm.exec) (hZ : Z.Warmed39 s.vm) {own : String} {index : Nat} (hown : s.vm.findClass own = some m.cls) {C : String} {n : Int32} (w1 : (Cond.classLink own index C).before a0 Z = true) (w2 : (Cond.arrayOver (.object C)).before a0 Z = true) (eT : T.heap = h) (u : Nat) (hn : ¬ n < 0) (cap : Nat) (hcap : n.toNatClampNeg ≤ cap) (hb : cap * 8 ≤ 536870912) (hc : cells + 1 ≤ R.cells) (hl : slots + cap ≤ R.slots) (hd : decode c.code pc0 = .ok (.anewarray index, 3)) (hpc : pc = pc0)
    (K : ∀ T' h' b k, b = h.size → Stand p l e R s m args below meth c T' locs (cells + 1) (slots + cap) → T'.heap = h' → Ext h h' → Arv Z h' b k (.object C) n ([] ++ List.replicate u (.null)) (.null) → Ovr Z k C → Go p e below P T' (mkF m (pc0 + 3) Ls (.ref b :: st))) : Go p e below P T (mkF m pc Ls (.int n :: st)) := by
  subst hpc
  obtain ⟨T', h', cA, X', e', E, A, O, q⟩ := Jvm.RoadKit.newR X hx hZ hown w1 w2 eT (g := mkF m pc Ls (.int n :: st)) rfl hd rfl hn (cap := cap) hcap hb hc hl
  exact Go.of q (K T' h' _ cA rfl X' e' E ((Arv.new A hn).pad (pad_rep [] _ u)) O)
theorem Go.newRA (X : Stand p l e R s m args below meth c T locs cells slots) (hx : p.tables.exec = Jvm.exec) (hZ : Z.Warmed39 s.vm) {own : String} {index : Nat} (hown : s.vm.findClass own = some m.cls) {C : String} {ty : FieldType} {n : Int32} (hC : (FieldType.array ty).toString = C) (w1 : (Cond.classLink own index C).before a0 Z = true) (w2 : (Cond.arrayOver (.array ty)).before a0 Z = true) (eT : T.heap = h) (u : Nat) (hn : ¬ n < 0) (cap : Nat) (hcap : n.toNatClampNeg ≤ cap) (hb : cap * 8 ≤ 536870912) (hc : cells + 1 ≤ R.cells) (hl : slots + cap ≤ R.slots) (hd : decode c.code pc0 = .ok (.anewarray index, 3)) (hpc : pc = pc0)
    (K : ∀ T' h' b k, b = h.size → Stand p l e R s m args below meth c T' locs (cells + 1) (slots + cap) → T'.heap = h' → Ext h h' → Arv Z h' b k (.array ty) n ([] ++ List.replicate u (.null)) (.null) → OvrA Z k ty C → Go p e below P T' (mkF m (pc0 + 3) Ls (.ref b :: st))) : Go p e below P T (mkF m pc Ls (.int n :: st)) := by
  subst hpc
  obtain ⟨T', h', cA, X', e', E, A, -, O, q⟩ := Jvm.RoadKit.newRA X hx hZ hown hC w1 w2 eT (g := mkF m pc Ls (.int n :: st)) rfl hd rfl hn (cap := cap) hcap hb hc hl rfl
  exact Go.of q (K T' h' _ cA rfl X' e' E ((Arv.new A hn).pad (pad_rep [] _ u)) O)
end OwnSteps
theorem own_i32 {k n : Int32} {v : Int} (h : k.toInt = v) (hv : n.toInt = v) : k = n := Int32.toInt_inj.mp (h.trans hv.symm)
theorem own_rem7 (x : Int32) : (x &&& (2147483647 : Int32)) % (7 : Int32) = 0 ∨ (x &&& (2147483647 : Int32)) % (7 : Int32) = 1 ∨ (x &&& (2147483647 : Int32)) % (7 : Int32) = 2 ∨ (x &&& (2147483647 : Int32)) % (7 : Int32) = 3 ∨ (x &&& (2147483647 : Int32)) % (7 : Int32) = 4 ∨ (x &&& (2147483647 : Int32)) % (7 : Int32) = 5 ∨ (x &&& (2147483647 : Int32)) % (7 : Int32) = 6 := by
  have e1 : (x &&& (2147483647 : Int32)).toInt = x.toInt % 2 ^ 31 := Jvm.Kit.i32_mask x 2147483647 (k := 31) (by decide) (by decide)
  have e2 := Jvm.Kit.i32_rem_nonneg (x := x &&& (2147483647 : Int32)) (y := 7) (by omega)
  rw [show (7 : Int32).toInt = 7 from by decide] at e2
  generalize (x &&& (2147483647 : Int32)) % (7 : Int32) = k at *
  have e3 : k.toInt = 0 ∨ k.toInt = 1 ∨ k.toInt = 2 ∨ k.toInt = 3 ∨ k.toInt = 4 ∨ k.toInt = 5 ∨ k.toInt = 6 := by omega
  rcases e3 with h | h | h | h | h | h | h
  · exact Or.inl (own_i32 h (by decide))
  · exact Or.inr (Or.inl (own_i32 h (by decide)))
  · exact Or.inr (Or.inr (Or.inl (own_i32 h (by decide))))
  · exact Or.inr (Or.inr (Or.inr (Or.inl (own_i32 h (by decide)))))
  · exact Or.inr (Or.inr (Or.inr (Or.inr (Or.inl (own_i32 h (by decide))))))
  · exact Or.inr (Or.inr (Or.inr (Or.inr (Or.inr (Or.inl (own_i32 h (by decide)))))))
  · exact Or.inr (Or.inr (Or.inr (Or.inr (Or.inr (Or.inr (own_i32 h (by decide)))))))
theorem own_rem6 (x : Int32) : (x &&& (2147483647 : Int32)) % (6 : Int32) = 0 ∨ (x &&& (2147483647 : Int32)) % (6 : Int32) = 1 ∨ (x &&& (2147483647 : Int32)) % (6 : Int32) = 2 ∨ (x &&& (2147483647 : Int32)) % (6 : Int32) = 3 ∨ (x &&& (2147483647 : Int32)) % (6 : Int32) = 4 ∨ (x &&& (2147483647 : Int32)) % (6 : Int32) = 5 := by
  have e1 : (x &&& (2147483647 : Int32)).toInt = x.toInt % 2 ^ 31 := Jvm.Kit.i32_mask x 2147483647 (k := 31) (by decide) (by decide)
  have e2 := Jvm.Kit.i32_rem_nonneg (x := x &&& (2147483647 : Int32)) (y := 6) (by omega)
  rw [show (6 : Int32).toInt = 6 from by decide] at e2
  generalize (x &&& (2147483647 : Int32)) % (6 : Int32) = k at *
  have e3 : k.toInt = 0 ∨ k.toInt = 1 ∨ k.toInt = 2 ∨ k.toInt = 3 ∨ k.toInt = 4 ∨ k.toInt = 5 := by omega
  rcases e3 with h | h | h | h | h | h
  · exact Or.inl (own_i32 h (by decide))
  · exact Or.inr (Or.inl (own_i32 h (by decide)))
  · exact Or.inr (Or.inr (Or.inl (own_i32 h (by decide))))
  · exact Or.inr (Or.inr (Or.inr (Or.inl (own_i32 h (by decide)))))
  · exact Or.inr (Or.inr (Or.inr (Or.inr (Or.inl (own_i32 h (by decide))))))
  · exact Or.inr (Or.inr (Or.inr (Or.inr (Or.inr (own_i32 h (by decide))))))
def hfv (w : Int64) : Int32 := if ((w &&& (((w).toUInt64 >>> ((1 : Int32) &&& 0x3f).toInt64.toUInt64).toInt64)) &&& ((((w &&& (((w).toUInt64 >>> ((1 : Int32) &&& 0x3f).toInt64.toUInt64).toInt64))).toUInt64 >>> ((2 : Int32) &&& 0x3f).toInt64.toUInt64).toInt64)) = (0 : Int64) then (if ((w &&& (((w).toUInt64 >>> ((7 : Int32) &&& 0x3f).toInt64.toUInt64).toInt64)) &&& ((((w &&& (((w).toUInt64 >>> ((7 : Int32) &&& 0x3f).toInt64.toUInt64).toInt64))).toUInt64 >>> ((14 : Int32) &&& 0x3f).toInt64.toUInt64).toInt64)) = (0 : Int64) then (if ((w &&& (((w).toUInt64 >>> ((8 : Int32) &&& 0x3f).toInt64.toUInt64).toInt64)) &&& ((((w &&& (((w).toUInt64 >>> ((8 : Int32) &&& 0x3f).toInt64.toUInt64).toInt64))).toUInt64 >>> ((16 : Int32) &&& 0x3f).toInt64.toUInt64).toInt64)) = (0 : Int64) then (if ((w &&& (((w).toUInt64 >>> ((6 : Int32) &&& 0x3f).toInt64.toUInt64).toInt64)) &&& ((((w &&& (((w).toUInt64 >>> ((6 : Int32) &&& 0x3f).toInt64.toUInt64).toInt64))).toUInt64 >>> ((12 : Int32) &&& 0x3f).toInt64.toUInt64).toInt64)) = (0 : Int64) then (0) else 1) else 1) else 1) else 1
def tb (w : Int64) (s t : Int32) : Int64 := ((w <<< (s &&& 0x3f).toInt64) &&& (w <<< (t &&& 0x3f).toInt64))
def ta (w : Int64) (s t : Int32) : Int64 := ((((w).toUInt64 >>> (s &&& 0x3f).toInt64.toUInt64).toInt64) &&& (((w).toUInt64 >>> (t &&& 0x3f).toInt64.toUInt64).toInt64))
def thr (w a : Int64) (s t u : Int32) : Int64 := ((((a ||| (tb w s t &&& (w <<< (u &&& 0x3f).toInt64))) ||| (tb w s t &&& (((w).toUInt64 >>> (s &&& 0x3f).toInt64.toUInt64).toInt64))) ||| (ta w s t &&& (w <<< (s &&& 0x3f).toInt64))) ||| (ta w s t &&& (((w).toUInt64 >>> (u &&& 0x3f).toInt64.toUInt64).toInt64)))
def thrv (o tk : Int64) : Int64 := ((thr o (thr o (thr o (thr o (0 : Int64) (1 : Int32) (2 : Int32) (3 : Int32)) (7 : Int32) (14 : Int32) (21 : Int32)) (8 : Int32) (16 : Int32) (24 : Int32)) (6 : Int32) (12 : Int32) (18 : Int32)) &&& ((279258638311359 : Int64) ^^^ tk))
def ra (x : Int64) (s : Int32) (b : Int64) : Int64 := ((x <<< (s &&& 0x3f).toInt64) &&& b)
def rb (x : Int64) (s : Int32) (b : Int64) : Int64 := ((((x).toUInt64 >>> (s &&& 0x3f).toInt64.toUInt64).toInt64) &&& b)
def rayv (x : Int64) (s : Int32) (b : Int64) : Int64 := (((((ra x s b ||| ra (ra x s b) s b) ||| ra (ra (ra x s b) s b) s b) ||| rb x s b) ||| rb (rb x s b) s b) ||| rb (rb (rb x s b) s b) s b)
def ow (a : Int64) : Int64 := (a &&& (279258638311359 : Int64))
def tkn (a b : Int64) : Int64 := ((b &&& (279258638311359 : Int64)) ||| ow a)
def ps (c r : Int32) : Int32 := (((7 : Int32) * ((c &&& (2147483647 : Int32)) % (7 : Int32))) + ((r &&& (2147483647 : Int32)) % (6 : Int32)))
def xb (c r : Int32) : Int64 := ((1 : Int64) <<< (ps c r &&& 0x3f).toInt64)
def star (x : Int64) : Int64 := (((rayv x (1 : Int32) (279258638311359 : Int64) ||| rayv x (7 : Int32) (279258638311359 : Int64)) ||| rayv x (8 : Int32) (279258638311359 : Int64)) ||| rayv x (6 : Int32) (279258638311359 : Int64))
def expv (o t x : Int64) : Int32 := if (t &&& x) = (0 : Int64) then (if hfv ((o &&& star x) ||| x) = (0 : Int32) then 0 else 1) else 0
def actv (t x : Int64) : Int32 := if (t &&& x) = (0 : Int64) then 0 else 1
/-! bits of longs (own work) -/
def bt (w : Int64) (i : Nat) : Bool := w.toBitVec.getLsbD i
theorem bt_and (a b : Int64) (i : Nat) : bt (a &&& b) i = (bt a i && bt b i) := by simp [bt]
theorem bt_or (a b : Int64) (i : Nat) : bt (a ||| b) i = (bt a i || bt b i) := by simp [bt]
theorem bt_sr (w : Int64) (k : Int32) (n : Nat) (hk : ((k &&& 0x3f).toInt64.toUInt64.toBitVec % 64#64).toNat = n) (i : Nat) : bt ((w.toUInt64 >>> (k &&& 0x3f).toInt64.toUInt64).toInt64) i = bt w (n + i) := by
  show ((w.toUInt64 >>> (k &&& 0x3f).toInt64.toUInt64).toInt64).toBitVec.getLsbD i = w.toBitVec.getLsbD (n + i)
  rw [UInt64.toBitVec_toInt64, UInt64.toBitVec_shiftRight, BitVec.ushiftRight_eq', BitVec.getLsbD_ushiftRight]
  have e : (((k &&& 0x3f).toInt64.toUInt64.toBitVec) % (64 : BitVec 64)).toNat = n := hk
  rw [e]; rfl
theorem bt_sl (w : Int64) (k : Int32) (n : Nat) (hk : ((k &&& 0x3f).toInt64.toBitVec.smod 64#64).toNat = n) (i : Nat) : bt (w <<< (k &&& 0x3f).toInt64) i = (decide (i < 64) && (!decide (i < n)) && bt w (i - n)) := by
  show (w <<< (k &&& 0x3f).toInt64).toBitVec.getLsbD i = (decide (i < 64) && (!decide (i < n)) && w.toBitVec.getLsbD (i - n))
  rw [Int64.toBitVec_shiftLeft, BitVec.shiftLeft_eq', BitVec.getLsbD_shiftLeft]
  have e : ((k &&& 0x3f).toInt64.toBitVec.smod (64 : BitVec 64)).toNat = n := hk
  rw [e]
theorem bt_lt (w : Int64) {i : Nat} (h : bt w i = true) : i < 64 := BitVec.lt_of_getLsbD h
theorem eq0_iff (w : Int64) : w = 0 ↔ ∀ i, bt w i = false := by
  constructor
  · intro h i; subst h; simp [bt]
  · intro h
    apply Int64.toBitVec_inj.mp
    apply BitVec.eq_of_getLsbD_eq
    intro i hi
    have := h i
    simpa [bt] using this
def hf4 (w : Int64) (s : Nat) : Prop := ∃ i, bt w i = true ∧ bt w (s + i) = true ∧ bt w (2 * s + i) = true ∧ bt w (3 * s + i) = true
theorem four0 (w : Int64) (k k2 : Int32) (s : Nat) (h1 : ((k &&& 0x3f).toInt64.toUInt64.toBitVec % 64#64).toNat = s) (h2 : ((k2 &&& 0x3f).toInt64.toUInt64.toBitVec % 64#64).toNat = 2 * s) :
    (((w &&& ((w.toUInt64 >>> (k &&& 0x3f).toInt64.toUInt64).toInt64)) &&& (((w &&& ((w.toUInt64 >>> (k &&& 0x3f).toInt64.toUInt64).toInt64)).toUInt64 >>> (k2 &&& 0x3f).toInt64.toUInt64).toInt64)) = (0 : Int64)) ↔ ¬ hf4 w s := by
  rw [eq0_iff]
  constructor
  · rintro h ⟨i, g1, g2, g3, g4⟩
    have := h i
    rw [bt_and, bt_sr _ k2 _ h2, bt_and, bt_and, bt_sr _ k _ h1, bt_sr _ k _ h1, g1, g2, g3] at this
    have e : s + (2 * s + i) = 3 * s + i := by omega
    rw [e, g4] at this
    simp at this
  · intro h i
    cases q : bt _ i with
    | false => rfl
    | true =>
      exfalso
      rw [bt_and, bt_sr _ k2 _ h2, bt_and, bt_and, bt_sr _ k _ h1, bt_sr _ k _ h1] at q
      have e : s + (2 * s + i) = 3 * s + i := by omega
      rw [e] at q
      simp only [Bool.and_eq_true] at q
      exact h ⟨i, q.1.1, q.1.2, q.2.1, q.2.2⟩
theorem hfv_spec (w : Int64) : (hfv w = 1 ∧ (hf4 w 1 ∨ hf4 w 7 ∨ hf4 w 8 ∨ hf4 w 6)) ∨ (hfv w = 0 ∧ ¬ hf4 w 1 ∧ ¬ hf4 w 7 ∧ ¬ hf4 w 8 ∧ ¬ hf4 w 6) := by
  have e1 := four0 w (1 : Int32) (2 : Int32) 1 (by decide) (by decide)
  have e7 := four0 w (7 : Int32) (14 : Int32) 7 (by decide) (by decide)
  have e8 := four0 w (8 : Int32) (16 : Int32) 8 (by decide) (by decide)
  have e6 := four0 w (6 : Int32) (12 : Int32) 6 (by decide) (by decide)
  unfold hfv
  by_cases q1 : hf4 w 1
  · left; rw [if_neg (fun z => (e1.mp z) q1)]; exact ⟨rfl, Or.inl q1⟩
  rw [if_pos (e1.mpr q1)]
  by_cases q7 : hf4 w 7
  · left; rw [if_neg (fun z => (e7.mp z) q7)]; exact ⟨rfl, Or.inr (Or.inl q7)⟩
  rw [if_pos (e7.mpr q7)]
  by_cases q8 : hf4 w 8
  · left; rw [if_neg (fun z => (e8.mp z) q8)]; exact ⟨rfl, Or.inr (Or.inr (Or.inl q8))⟩
  rw [if_pos (e8.mpr q8)]
  by_cases q6 : hf4 w 6
  · left; rw [if_neg (fun z => (e6.mp z) q6)]; exact ⟨rfl, Or.inr (Or.inr (Or.inr q6))⟩
  rw [if_pos (e6.mpr q6)]
  right; exact ⟨rfl, q1, q7, q8, q6⟩
theorem hf4_mono {a b : Int64} {s : Nat} (h : ∀ i, bt a i = true → bt b i = true) (q : hf4 a s) : hf4 b s := by
  obtain ⟨i, g1, g2, g3, g4⟩ := q
  exact ⟨i, h _ g1, h _ g2, h _ g3, h _ g4⟩
theorem hfv_mono {a b : Int64} (h : ∀ i, bt a i = true → bt b i = true) (q : hfv a = 1) : hfv b = 1 := by
  rcases hfv_spec b with ⟨g, -⟩ | ⟨g, n1, n7, n8, n6⟩
  · exact g
  · exfalso
    rcases hfv_spec a with ⟨-, u | u | u | u⟩ | ⟨u, -⟩
    · exact n1 (hf4_mono h u)
    · exact n7 (hf4_mono h u)
    · exact n8 (hf4_mono h u)
    · exact n6 (hf4_mono h u)
    · rw [q] at u; exact absurd u (by decide)
theorem bt_xor (a b : Int64) (i : Nat) : bt (a ^^^ b) i = (bt a i ^^ bt b i) := by simp [bt]
def cellN (p : Nat) : Bool := decide (p < 49) && decide (p % 7 < 6)
def starP : List (Nat × Nat) := [(0, 18956686), (1, 37913501), (2, 75843387), (3, 19566135), (4, 38083630), (5, 76159004), (7, 2426455811), (8, 4852928135), (9, 9707953550), (10, 2504465308), (11, 4874704696), (12, 9748352560), (14, 310586343813), (15, 621174801290), (16, 1242618054421), (17, 320571559466), (18, 623962201108), (19, 1247789127720), (21, 39755052008073), (22, 79510374565138), (23, 159055110965924), (24, 41033159611657), (25, 79867161741842), (26, 159717008348196), (28, 22097076241536), (29, 44228782754048), (30, 92855880471040), (31, 185694849500288), (32, 89897541372160), (33, 177578745401856), (35, 13675991810048), (36, 31784658305024), (37, 63603678445568), (38, 125042692341760), (39, 247886227210240), (40, 212081274585088), (42, 61677091422208), (43, 127786589093888), (44, 259971493134336), (45, 242865923948544), (46, 204239691317248), (47, 124805382668288)]
def four : List Nat := [0, 1, 2, 3]
def dirs : List Nat := [1, 7, 8, 6]
def chkA : Bool := starP.all fun q => dirs.all fun s => four.all fun k => !(decide (k * s ≤ q.1)) || !(four.all fun m => m == k || cellN (q.1 - k * s + m * s)) || (four.all fun m => m == k || q.2.testBit (q.1 - k * s + m * s))
set_option maxRecDepth 65536 in
theorem chkA_ok : chkA = true := by decide +kernel
def chkB : Bool := starP.all fun q => dirs.all fun s => (List.range 64).all fun i => !(four.all fun m => q.2.testBit (i + m * s) || i + m * s == q.1) || (four.any fun m => i + m * s == q.1)
set_option maxRecDepth 65536 in
theorem chkB_ok : chkB = true := by decide +kernel
def chkC : Bool := starP.all fun q => cellN q.1
theorem chkC_ok : chkC = true := by decide +kernel
theorem own_p1 {x2 x3 c r : Int32} (h : (x2 &&& (2147483647 : Int32)) % (7 : Int32) = c) (h' : (x3 &&& (2147483647 : Int32)) % (6 : Int32) = r) (X : Int64) (p S : Nat) (e1 : ((1 : Int64) <<< ((((7 : Int32) * c) + r) &&& 0x3f).toInt64) = X) (e2 : X.toBitVec = BitVec.twoPow 64 p) (e3 : (star X).toBitVec = BitVec.ofNat 64 S) (hm : (p, S) ∈ starP) :
    ∃ p S, (p, S) ∈ starP ∧ (xb x2 x3).toBitVec = BitVec.twoPow 64 p ∧ (star (xb x2 x3)).toBitVec = BitVec.ofNat 64 S := by
  have e : xb x2 x3 = X := by unfold xb ps; rw [h, h']; exact e1
  exact ⟨p, S, hm, by rw [e]; exact e2, by rw [e]; exact e3⟩
set_option maxRecDepth 65536 in
theorem own_pos (x2 x3 : Int32) : ∃ p S, (p, S) ∈ starP ∧ (xb x2 x3).toBitVec = BitVec.twoPow 64 p ∧ (star (xb x2 x3)).toBitVec = BitVec.ofNat 64 S := by
  rcases own_rem7 x2 with h | h | h | h | h | h | h <;> rcases own_rem6 x3 with h' | h' | h' | h' | h' | h'
  · exact own_p1 h h' (1 : Int64) 0 18956686 (by decide +kernel) (by decide +kernel) (by decide +kernel) (List.mem_of_getElem? (i := 0) rfl)
  · exact own_p1 h h' (2 : Int64) 1 37913501 (by decide +kernel) (by decide +kernel) (by decide +kernel) (List.mem_of_getElem? (i := 1) rfl)
  · exact own_p1 h h' (4 : Int64) 2 75843387 (by decide +kernel) (by decide +kernel) (by decide +kernel) (List.mem_of_getElem? (i := 2) rfl)
  · exact own_p1 h h' (8 : Int64) 3 19566135 (by decide +kernel) (by decide +kernel) (by decide +kernel) (List.mem_of_getElem? (i := 3) rfl)
  · exact own_p1 h h' (16 : Int64) 4 38083630 (by decide +kernel) (by decide +kernel) (by decide +kernel) (List.mem_of_getElem? (i := 4) rfl)
  · exact own_p1 h h' (32 : Int64) 5 76159004 (by decide +kernel) (by decide +kernel) (by decide +kernel) (List.mem_of_getElem? (i := 5) rfl)
  · exact own_p1 h h' (128 : Int64) 7 2426455811 (by decide +kernel) (by decide +kernel) (by decide +kernel) (List.mem_of_getElem? (i := 6) rfl)
  · exact own_p1 h h' (256 : Int64) 8 4852928135 (by decide +kernel) (by decide +kernel) (by decide +kernel) (List.mem_of_getElem? (i := 7) rfl)
  · exact own_p1 h h' (512 : Int64) 9 9707953550 (by decide +kernel) (by decide +kernel) (by decide +kernel) (List.mem_of_getElem? (i := 8) rfl)
  · exact own_p1 h h' (1024 : Int64) 10 2504465308 (by decide +kernel) (by decide +kernel) (by decide +kernel) (List.mem_of_getElem? (i := 9) rfl)
  · exact own_p1 h h' (2048 : Int64) 11 4874704696 (by decide +kernel) (by decide +kernel) (by decide +kernel) (List.mem_of_getElem? (i := 10) rfl)
  · exact own_p1 h h' (4096 : Int64) 12 9748352560 (by decide +kernel) (by decide +kernel) (by decide +kernel) (List.mem_of_getElem? (i := 11) rfl)
  · exact own_p1 h h' (16384 : Int64) 14 310586343813 (by decide +kernel) (by decide +kernel) (by decide +kernel) (List.mem_of_getElem? (i := 12) rfl)
  · exact own_p1 h h' (32768 : Int64) 15 621174801290 (by decide +kernel) (by decide +kernel) (by decide +kernel) (List.mem_of_getElem? (i := 13) rfl)
  · exact own_p1 h h' (65536 : Int64) 16 1242618054421 (by decide +kernel) (by decide +kernel) (by decide +kernel) (List.mem_of_getElem? (i := 14) rfl)
  · exact own_p1 h h' (131072 : Int64) 17 320571559466 (by decide +kernel) (by decide +kernel) (by decide +kernel) (List.mem_of_getElem? (i := 15) rfl)
  · exact own_p1 h h' (262144 : Int64) 18 623962201108 (by decide +kernel) (by decide +kernel) (by decide +kernel) (List.mem_of_getElem? (i := 16) rfl)
  · exact own_p1 h h' (524288 : Int64) 19 1247789127720 (by decide +kernel) (by decide +kernel) (by decide +kernel) (List.mem_of_getElem? (i := 17) rfl)
  · exact own_p1 h h' (2097152 : Int64) 21 39755052008073 (by decide +kernel) (by decide +kernel) (by decide +kernel) (List.mem_of_getElem? (i := 18) rfl)
  · exact own_p1 h h' (4194304 : Int64) 22 79510374565138 (by decide +kernel) (by decide +kernel) (by decide +kernel) (List.mem_of_getElem? (i := 19) rfl)
  · exact own_p1 h h' (8388608 : Int64) 23 159055110965924 (by decide +kernel) (by decide +kernel) (by decide +kernel) (List.mem_of_getElem? (i := 20) rfl)
  · exact own_p1 h h' (16777216 : Int64) 24 41033159611657 (by decide +kernel) (by decide +kernel) (by decide +kernel) (List.mem_of_getElem? (i := 21) rfl)
  · exact own_p1 h h' (33554432 : Int64) 25 79867161741842 (by decide +kernel) (by decide +kernel) (by decide +kernel) (List.mem_of_getElem? (i := 22) rfl)
  · exact own_p1 h h' (67108864 : Int64) 26 159717008348196 (by decide +kernel) (by decide +kernel) (by decide +kernel) (List.mem_of_getElem? (i := 23) rfl)
  · exact own_p1 h h' (268435456 : Int64) 28 22097076241536 (by decide +kernel) (by decide +kernel) (by decide +kernel) (List.mem_of_getElem? (i := 24) rfl)
  · exact own_p1 h h' (536870912 : Int64) 29 44228782754048 (by decide +kernel) (by decide +kernel) (by decide +kernel) (List.mem_of_getElem? (i := 25) rfl)
  · exact own_p1 h h' (1073741824 : Int64) 30 92855880471040 (by decide +kernel) (by decide +kernel) (by decide +kernel) (List.mem_of_getElem? (i := 26) rfl)
  · exact own_p1 h h' (2147483648 : Int64) 31 185694849500288 (by decide +kernel) (by decide +kernel) (by decide +kernel) (List.mem_of_getElem? (i := 27) rfl)
  · exact own_p1 h h' (4294967296 : Int64) 32 89897541372160 (by decide +kernel) (by decide +kernel) (by decide +kernel) (List.mem_of_getElem? (i := 28) rfl)
  · exact own_p1 h h' (8589934592 : Int64) 33 177578745401856 (by decide +kernel) (by decide +kernel) (by decide +kernel) (List.mem_of_getElem? (i := 29) rfl)
  · exact own_p1 h h' (34359738368 : Int64) 35 13675991810048 (by decide +kernel) (by decide +kernel) (by decide +kernel) (List.mem_of_getElem? (i := 30) rfl)
  · exact own_p1 h h' (68719476736 : Int64) 36 31784658305024 (by decide +kernel) (by decide +kernel) (by decide +kernel) (List.mem_of_getElem? (i := 31) rfl)
  · exact own_p1 h h' (137438953472 : Int64) 37 63603678445568 (by decide +kernel) (by decide +kernel) (by decide +kernel) (List.mem_of_getElem? (i := 32) rfl)
  · exact own_p1 h h' (274877906944 : Int64) 38 125042692341760 (by decide +kernel) (by decide +kernel) (by decide +kernel) (List.mem_of_getElem? (i := 33) rfl)
  · exact own_p1 h h' (549755813888 : Int64) 39 247886227210240 (by decide +kernel) (by decide +kernel) (by decide +kernel) (List.mem_of_getElem? (i := 34) rfl)
  · exact own_p1 h h' (1099511627776 : Int64) 40 212081274585088 (by decide +kernel) (by decide +kernel) (by decide +kernel) (List.mem_of_getElem? (i := 35) rfl)
  · exact own_p1 h h' (4398046511104 : Int64) 42 61677091422208 (by decide +kernel) (by decide +kernel) (by decide +kernel) (List.mem_of_getElem? (i := 36) rfl)
  · exact own_p1 h h' (8796093022208 : Int64) 43 127786589093888 (by decide +kernel) (by decide +kernel) (by decide +kernel) (List.mem_of_getElem? (i := 37) rfl)
  · exact own_p1 h h' (17592186044416 : Int64) 44 259971493134336 (by decide +kernel) (by decide +kernel) (by decide +kernel) (List.mem_of_getElem? (i := 38) rfl)
  · exact own_p1 h h' (35184372088832 : Int64) 45 242865923948544 (by decide +kernel) (by decide +kernel) (by decide +kernel) (List.mem_of_getElem? (i := 39) rfl)
  · exact own_p1 h h' (70368744177664 : Int64) 46 204239691317248 (by decide +kernel) (by decide +kernel) (by decide +kernel) (List.mem_of_getElem? (i := 40) rfl)
  · exact own_p1 h h' (140737488355328 : Int64) 47 124805382668288 (by decide +kernel) (by decide +kernel) (by decide +kernel) (List.mem_of_getElem? (i := 41) rfl)
theorem and0 {t x : Int64} {p : Nat} (hp : p < 64) (hx : x.toBitVec = BitVec.twoPow 64 p) : t &&& x = 0 ↔ bt t p = false := by
  have bx : ∀ i, bt x i = decide (p = i) := fun i => by
    show x.toBitVec.getLsbD i = _
    rw [hx, BitVec.getLsbD_twoPow]; simp [hp]
  rw [eq0_iff]
  constructor
  · intro h
    have := h p
    rw [bt_and, bx] at this
    simpa using this
  · intro h i
    rw [bt_and, bx]
    by_cases q : p = i
    · subst q; rw [h]; rfl
    · simp [q]
def Lb (w : Int64) (p n : Nat) : Bool := decide (p < 64) && (!decide (p < n)) && bt w (p - n)
def thB (w : Int64) (p s : Nat) : Bool := (Lb w p s && Lb w p (2 * s) && Lb w p (3 * s)) || (Lb w p s && Lb w p (2 * s) && bt w (s + p)) || (bt w (s + p) && bt w (2 * s + p) && Lb w p s) || (bt w (s + p) && bt w (2 * s + p) && bt w (3 * s + p))
theorem bt_thr (w a : Int64) (s t u : Int32) (n : Nat) (p : Nat) (h1 : ((s &&& 0x3f).toInt64.toUInt64.toBitVec % 64#64).toNat = n) (h2 : ((t &&& 0x3f).toInt64.toUInt64.toBitVec % 64#64).toNat = 2 * n) (h3 : ((u &&& 0x3f).toInt64.toUInt64.toBitVec % 64#64).toNat = 3 * n)
    (k1 : ((s &&& 0x3f).toInt64.toBitVec.smod 64#64).toNat = n) (k2 : ((t &&& 0x3f).toInt64.toBitVec.smod 64#64).toNat = 2 * n) (k3 : ((u &&& 0x3f).toInt64.toBitVec.smod 64#64).toNat = 3 * n) : bt (thr w a s t u) p = (bt a p || thB w p n) := by
  unfold thr tb ta thB Lb
  simp only [bt_or, bt_and, bt_sr _ _ _ h1, bt_sr _ _ _ h2, bt_sr _ _ _ h3, bt_sl _ _ _ k1, bt_sl _ _ _ k2, bt_sl _ _ _ k3, Bool.or_assoc]
theorem bt_thrv (o tk : Int64) (p : Nat) : bt (thrv o tk) p = ((thB o p 1 || thB o p 7 || thB o p 8 || thB o p 6) && (bt (279258638311359 : Int64) p ^^ bt tk p)) := by
  unfold thrv
  rw [bt_and, bt_xor, bt_thr _ _ _ _ _ 6 p (by decide) (by decide) (by decide) (by decide) (by decide) (by decide), bt_thr _ _ _ _ _ 8 p (by decide) (by decide) (by decide) (by decide) (by decide) (by decide), bt_thr _ _ _ _ _ 7 p (by decide) (by decide) (by decide) (by decide) (by decide) (by decide), bt_thr _ _ _ _ _ 1 p (by decide) (by decide) (by decide) (by decide) (by decide) (by decide)]
  have z : bt (0 : Int64) p = false := by simp [bt]
  rw [z, Bool.false_or]
theorem brd_cell : ∀ i, i < 64 → (bt (279258638311359 : Int64) i = cellN i) := by decide +kernel
theorem own_compl : ∀ i, i < 64 → bt (-279258638311360 : Int64) i = !bt (279258638311359 : Int64) i := by decide +kernel
theorem Lb_true {w : Int64} {p n : Nat} : Lb w p n = true ↔ p < 64 ∧ n ≤ p ∧ bt w (p - n) = true := by
  unfold Lb; simp [and_assoc]
theorem Lb_of {w : Int64} {p n i : Nat} (hp : p < 64) (e : p = n + i) (h : bt w i = true) : Lb w p n = true := by
  rw [Lb_true]; subst e; exact ⟨hp, by omega, by rw [Nat.add_sub_cancel_left]; exact h⟩
theorem main_dir {o x st : Int64} {p S : Nat} (hm : (p, S) ∈ starP) (hx : x.toBitVec = BitVec.twoPow 64 p) (hs : st.toBitVec = BitVec.ofNat 64 S) (ho : ∀ i, bt o i = true → cellN i = true) (s : Nat) (hd : s ∈ dirs) :
    thB o p s = true ↔ hf4 ((o &&& st) ||| x) s := by
  have hA := List.all_eq_true.mp (List.all_eq_true.mp (List.all_eq_true.mp chkA_ok _ hm) s hd)
  have hB := List.all_eq_true.mp (List.all_eq_true.mp (List.all_eq_true.mp chkB_ok _ hm) s hd)
  have hC := List.all_eq_true.mp chkC_ok _ hm
  have hp : p < 49 := by simp only [cellN, Bool.and_eq_true, decide_eq_true_eq] at hC; exact hC.1
  have s0 : 0 < s := by simp only [dirs, List.mem_cons, List.not_mem_nil, or_false] at hd; omega
  have bx : ∀ i, bt x i = decide (p = i) := fun i => by
    show x.toBitVec.getLsbD i = _
    rw [hx, BitVec.getLsbD_twoPow]; simp [show p < 64 by omega]
  have bs : ∀ i, i < 64 → bt st i = S.testBit i := fun i hi => by
    show st.toBitVec.getLsbD i = _
    rw [hs, BitVec.getLsbD_ofNat]; simp [hi]
  have bW : ∀ i, bt ((o &&& st) ||| x) i = ((bt o i && bt st i) || decide (p = i)) := fun i => by rw [bt_or, bt_and, bx]
  have Wp : bt ((o &&& st) ||| x) p = true := by rw [bW]; simp
  have Wo : ∀ i, bt o i = true → S.testBit i = true → bt ((o &&& st) ||| x) i = true := fun i h1 h2 => by rw [bW, h1, bs i (bt_lt _ h1), h2]; rfl
  have win : ∀ k ∈ four, k * s ≤ p → (∀ m ∈ four, m ≠ k → bt o (p - k * s + m * s) = true) → hf4 ((o &&& st) ||| x) s := by
    intro k hk hkp H
    have q := hA k hk
    simp only [Bool.or_eq_true, Bool.not_eq_true', decide_eq_false_iff_not] at q
    have St : ∀ m ∈ four, m ≠ k → S.testBit (p - k * s + m * s) = true := by
      rcases q with (q | q) | q
      · exact absurd hkp q
      · exfalso
        have : (four.all fun m => m == k || cellN (p - k * s + m * s)) = true := List.all_eq_true.mpr fun m hm' => by
          by_cases e : m = k
          · simp [e]
          · simp [ho _ (H m hm' e)]
        rw [this] at q; cases q
      · intro m hm' e
        have := List.all_eq_true.mp q m hm'
        simpa [e] using this
    have A : ∀ m ∈ four, bt ((o &&& st) ||| x) (p - k * s + m * s) = true := by
      intro m hm'
      by_cases e : m = k
      · subst e; rw [Nat.sub_add_cancel hkp]; exact Wp
      · exact Wo _ (H m hm' e) (St m hm' e)
    refine ⟨p - k * s, ?_, ?_, ?_, ?_⟩
    · have := A 0 (by decide); rw [Nat.zero_mul, Nat.add_zero] at this; exact this
    · have := A 1 (by decide); rw [Nat.one_mul, Nat.add_comm] at this; exact this
    · have := A 2 (by decide); rw [Nat.add_comm] at this; exact this
    · have := A 3 (by decide); rw [Nat.add_comm] at this; exact this
  constructor
  · intro h
    unfold thB at h
    simp only [Bool.or_eq_true, Bool.and_eq_true] at h
    rcases h with ((⟨⟨a1, a2⟩, a3⟩ | ⟨⟨a1, a2⟩, a3⟩) | ⟨⟨a1, a2⟩, a3⟩) | ⟨⟨a1, a2⟩, a3⟩
    · rw [Lb_true] at a1 a2 a3
      refine win 3 (by decide) (by omega) fun m hm' hne => ?_
      simp only [four, List.mem_cons, List.not_mem_nil, or_false] at hm'
      rcases hm' with rfl | rfl | rfl | rfl
      · rw [show p - 3 * s + 0 * s = p - 3 * s by omega]; exact a3.2.2
      · rw [show p - 3 * s + 1 * s = p - 2 * s by omega]; exact a2.2.2
      · rw [show p - 3 * s + 2 * s = p - s by omega]; exact a1.2.2
      · exact absurd rfl hne
    · rw [Lb_true] at a1 a2
      refine win 2 (by decide) (by omega) fun m hm' hne => ?_
      simp only [four, List.mem_cons, List.not_mem_nil, or_false] at hm'
      rcases hm' with rfl | rfl | rfl | rfl
      · rw [show p - 2 * s + 0 * s = p - 2 * s by omega]; exact a2.2.2
      · rw [show p - 2 * s + 1 * s = p - s by omega]; exact a1.2.2
      · exact absurd rfl hne
      · rw [show p - 2 * s + 3 * s = s + p by omega]; exact a3
    · rw [Lb_true] at a3
      refine win 1 (by decide) (by omega) fun m hm' hne => ?_
      simp only [four, List.mem_cons, List.not_mem_nil, or_false] at hm'
      rcases hm' with rfl | rfl | rfl | rfl
      · rw [show p - 1 * s + 0 * s = p - s by omega]; exact a3.2.2
      · exact absurd rfl hne
      · rw [show p - 1 * s + 2 * s = s + p by omega]; exact a1
      · rw [show p - 1 * s + 3 * s = 2 * s + p by omega]; exact a2
    · refine win 0 (by decide) (by omega) fun m hm' hne => ?_
      simp only [four, List.mem_cons, List.not_mem_nil, or_false] at hm'
      rcases hm' with rfl | rfl | rfl | rfl
      · exact absurd rfl hne
      · rw [show p - 0 * s + 1 * s = s + p by omega]; exact a1
      · rw [show p - 0 * s + 2 * s = 2 * s + p by omega]; exact a2
      · rw [show p - 0 * s + 3 * s = 3 * s + p by omega]; exact a3
  · rintro ⟨i, g1, g2, g3, g4⟩
    have G : ∀ m ∈ four, bt ((o &&& st) ||| x) (i + m * s) = true := by
      intro m hm'
      simp only [four, List.mem_cons, List.not_mem_nil, or_false] at hm'
      rcases hm' with rfl | rfl | rfl | rfl
      · rw [show i + 0 * s = i by omega]; exact g1
      · rw [show i + 1 * s = s + i by omega]; exact g2
      · rw [show i + 2 * s = 2 * s + i by omega]; exact g3
      · rw [show i + 3 * s = 3 * s + i by omega]; exact g4
    have q := hB i (List.mem_range.mpr (bt_lt _ g1))
    simp only [Bool.or_eq_true, Bool.not_eq_true'] at q
    have Q : (four.any fun m => i + m * s == p) = true := by
      rcases q with q | q
      · exfalso
        have : (four.all fun m => S.testBit (i + m * s) || i + m * s == p) = true := List.all_eq_true.mpr fun m hm' => by
          have g := G m hm'
          have hl := bt_lt _ g
          rw [bW, bs _ hl] at g
          by_cases e : p = i + m * s
          · simp [← e]
          · simp only [e, decide_false, Bool.or_false, Bool.and_eq_true] at g; simp [g.2]
        rw [this] at q; cases q
      · exact q
    obtain ⟨k, hk, e⟩ := List.any_eq_true.mp Q
    have e' : i + k * s = p := by simpa using e
    have O : ∀ m ∈ four, m ≠ k → bt o (i + m * s) = true := by
      intro m hm' hne
      have g := G m hm'
      have hne' : ¬ p = i + m * s := by
        intro z
        have : k * s = m * s := by omega
        exact hne (Nat.eq_of_mul_eq_mul_right s0 this).symm
      rw [bW] at g
      simp only [hne', decide_false, Bool.or_false, Bool.and_eq_true] at g
      exact g.1
    have p64 : p < 64 := by omega
    simp only [four, List.mem_cons, List.not_mem_nil, or_false] at hk
    unfold thB
    rcases hk with rfl | rfl | rfl | rfl
    · have o1 := O 1 (by decide) (by decide)
      have o2 := O 2 (by decide) (by decide)
      have o3 := O 3 (by decide) (by decide)
      rw [show i + 1 * s = s + p by omega] at o1
      rw [show i + 2 * s = 2 * s + p by omega] at o2
      rw [show i + 3 * s = 3 * s + p by omega] at o3
      simp [o1, o2, o3]
    · have o1 := O 0 (by decide) (by decide)
      have o2 := O 2 (by decide) (by decide)
      have o3 := O 3 (by decide) (by decide)
      rw [show i + 2 * s = s + p by omega] at o2
      rw [show i + 3 * s = 2 * s + p by omega] at o3
      simp [o2, o3, Lb_of (n := s) p64 (by omega) o1]
    · have o1 := O 0 (by decide) (by decide)
      have o2 := O 1 (by decide) (by decide)
      have o3 := O 3 (by decide) (by decide)
      rw [show i + 3 * s = s + p by omega] at o3
      simp [o3, Lb_of (n := 2 * s) p64 (by omega) o1, Lb_of (n := s) p64 (by omega) o2]
    · have o1 := O 0 (by decide) (by decide)
      have o2 := O 1 (by decide) (by decide)
      have o3 := O 2 (by decide) (by decide)
      simp [Lb_of (n := 3 * s) p64 (by omega) o1, Lb_of (n := 2 * s) p64 (by omega) o2, Lb_of (n := s) p64 (by omega) o3]
theorem bt_ow (x0 : Int64) (i : Nat) (h : bt (ow x0) i = true) : cellN i = true := by
  have hl := bt_lt _ h
  unfold ow at h
  rw [bt_and, brd_cell i hl] at h
  simp only [Bool.and_eq_true] at h
  exact h.2
theorem own_main (x0 x1 : Int64) (x2 x3 : Int32) : actv (thrv (ow x0) (tkn x0 x1)) (xb x2 x3) = expv (ow x0) (tkn x0 x1) (xb x2 x3) := by
  obtain ⟨p, S, hm, hx, hs⟩ := own_pos x2 x3
  have hC := List.all_eq_true.mp chkC_ok _ hm
  have hp : p < 49 := by simp only [cellN, Bool.and_eq_true, decide_eq_true_eq] at hC; exact hC.1
  have p64 : p < 64 := by omega
  have M := main_dir hm hx hs (bt_ow x0)
  unfold actv expv
  have bb : bt (279258638311359 : Int64) p = true := by rw [brd_cell p p64]; exact hC
  have ht : bt (thrv (ow x0) (tkn x0 x1)) p = ((thB (ow x0) p 1 || thB (ow x0) p 7 || thB (ow x0) p 8 || thB (ow x0) p 6) && !bt (tkn x0 x1) p) := by rw [bt_thrv, bb, Bool.true_xor]
  by_cases q : (tkn x0 x1 &&& xb x2 x3) = (0 : Int64)
  · have q' := (and0 p64 hx).mp q
    rw [if_pos q]
    rw [q', Bool.not_false, Bool.and_true] at ht
    rcases hfv_spec ((ow x0 &&& star (xb x2 x3)) ||| xb x2 x3) with ⟨g, u⟩ | ⟨g, n1, n7, n8, n6⟩
    · rw [g, if_neg (show ¬ ((1 : Int32) = (0 : Int32)) from by decide)]
      have : bt (thrv (ow x0) (tkn x0 x1)) p = true := by
        rw [ht]
        rcases u with u | u | u | u
        · rw [(M 1 (by decide)).mpr u]; simp
        · rw [(M 7 (by decide)).mpr u]; simp
        · rw [(M 8 (by decide)).mpr u]; simp
        · rw [(M 6 (by decide)).mpr u]; simp
      rw [if_neg fun z => by rw [(and0 p64 hx).mp z] at this; cases this]
    · rw [g, if_pos (show (0 : Int32) = (0 : Int32) from rfl)]
      have : bt (thrv (ow x0) (tkn x0 x1)) p = false := by
        rw [ht]
        rw [Bool.eq_false_iff.mpr fun z => n1 ((M 1 (by decide)).mp z), Bool.eq_false_iff.mpr fun z => n7 ((M 7 (by decide)).mp z), Bool.eq_false_iff.mpr fun z => n8 ((M 8 (by decide)).mp z), Bool.eq_false_iff.mpr fun z => n6 ((M 6 (by decide)).mp z)]
        rfl
      rw [if_pos ((and0 p64 hx).mpr this)]
  · rw [if_neg q]
    have q' : bt (tkn x0 x1) p = true := by
      cases z : bt (tkn x0 x1) p with
      | true => rfl
      | false => exact absurd ((and0 p64 hx).mpr z) q
    rw [q', Bool.not_true, Bool.and_false] at ht
    rw [if_pos ((and0 p64 hx).mpr ht)]
theorem own_in (x0 x1 : Int64) : (thrv (ow x0) (tkn x0 x1) &&& (-279258638311360 : Int64)) = (0 : Int64) := by
  rw [eq0_iff]
  intro i
  cases z : bt (thrv (ow x0) (tkn x0 x1) &&& (-279258638311360 : Int64)) i with
  | false => rfl
  | true =>
    exfalso
    have hl := bt_lt _ z
    rw [bt_and, bt_thrv] at z
    have cm : bt (-279258638311360 : Int64) i = !bt (279258638311359 : Int64) i := own_compl i hl
    unfold tkn ow at z
    rw [cm, bt_or, bt_and, bt_and] at z
    cases u : bt (279258638311359 : Int64) i <;> rw [u] at z <;> simp at z

theorem pd_0 : parseMethodDescriptor "(JJ)J" = some ⟨[.long, .long], some .long⟩ := by decide +kernel
theorem pd_1 : parseMethodDescriptor "(JIJ)J" = some ⟨[.long, .int, .long], some .long⟩ := by decide +kernel
theorem pd_2 : parseMethodDescriptor "(J)Z" = some ⟨[.long], some .boolean⟩ := by decide +kernel
def Facts (Z : State) (a_DIRECTIONS : Addr) (k_DIRECTIONS : ClassId) : Prop := (Sta Z Z.heap "com/example/afterstate/afterstate/connect4/Bitboard" "BOARD" "J" (.long (279258638311359 : Int64))) ∧ (Sta Z Z.heap "com/example/afterstate/afterstate/connect4/Bitboard" "DIRECTIONS" "[I" (.ref a_DIRECTIONS)) ∧ (Arv Z Z.heap a_DIRECTIONS k_DIRECTIONS .int (4 : Int32) [(.int (1 : Int32)), (.int (7 : Int32)), (.int (8 : Int32)), (.int (6 : Int32))] (.int (0 : Int32)))
theorem d3_0 : decode prog_22_method_5_code 0 = .ok (.getstatic 20, 3) := by decide +kernel
theorem d3_3 : decode prog_22_method_5_code 3 = .ok (.astore_n 2, 1) := by decide +kernel
theorem d3_4 : decode prog_22_method_5_code 4 = .ok (.aload_n 2, 1) := by decide +kernel
theorem d3_5 : decode prog_22_method_5_code 5 = .ok (.arraylength, 1) := by decide +kernel
theorem d3_6 : decode prog_22_method_5_code 6 = .ok (.istore_n 3, 1) := by decide +kernel
theorem d3_7 : decode prog_22_method_5_code 7 = .ok (.iconst 0, 1) := by decide +kernel
theorem d3_8 : decode prog_22_method_5_code 8 = .ok (.istore 4, 2) := by decide +kernel
theorem d3_10 : decode prog_22_method_5_code 10 = .ok (.iload 4, 2) := by decide +kernel
theorem d3_12 : decode prog_22_method_5_code 12 = .ok (.iload_n 3, 1) := by decide +kernel
theorem d3_13 : decode prog_22_method_5_code 13 = .ok (.if_icmp .ge 40, 3) := by decide +kernel
theorem d3_16 : decode prog_22_method_5_code 16 = .ok (.aload_n 2, 1) := by decide +kernel
theorem d3_17 : decode prog_22_method_5_code 17 = .ok (.iload 4, 2) := by decide +kernel
theorem d3_19 : decode prog_22_method_5_code 19 = .ok (.iaload, 1) := by decide +kernel
theorem d3_20 : decode prog_22_method_5_code 20 = .ok (.istore 5, 2) := by decide +kernel
theorem d3_22 : decode prog_22_method_5_code 22 = .ok (.lload_n 0, 1) := by decide +kernel
theorem d3_23 : decode prog_22_method_5_code 23 = .ok (.lload_n 0, 1) := by decide +kernel
theorem d3_24 : decode prog_22_method_5_code 24 = .ok (.iload 5, 2) := by decide +kernel
theorem d3_26 : decode prog_22_method_5_code 26 = .ok (.lushr, 1) := by decide +kernel
theorem d3_27 : decode prog_22_method_5_code 27 = .ok (.land, 1) := by decide +kernel
theorem d3_28 : decode prog_22_method_5_code 28 = .ok (.lstore 6, 2) := by decide +kernel
theorem d3_30 : decode prog_22_method_5_code 30 = .ok (.lload 6, 2) := by decide +kernel
theorem d3_32 : decode prog_22_method_5_code 32 = .ok (.lload 6, 2) := by decide +kernel
theorem d3_34 : decode prog_22_method_5_code 34 = .ok (.iconst 2, 1) := by decide +kernel
theorem d3_35 : decode prog_22_method_5_code 35 = .ok (.iload 5, 2) := by decide +kernel
theorem d3_37 : decode prog_22_method_5_code 37 = .ok (.imul, 1) := by decide +kernel
theorem d3_38 : decode prog_22_method_5_code 38 = .ok (.lushr, 1) := by decide +kernel
theorem d3_39 : decode prog_22_method_5_code 39 = .ok (.land, 1) := by decide +kernel
theorem d3_40 : decode prog_22_method_5_code 40 = .ok (.lconst 0, 1) := by decide +kernel
theorem d3_41 : decode prog_22_method_5_code 41 = .ok (.lcmp, 1) := by decide +kernel
theorem d3_42 : decode prog_22_method_5_code 42 = .ok (.ifCond .eq 5, 3) := by decide +kernel
theorem d3_45 : decode prog_22_method_5_code 45 = .ok (.iconst 1, 1) := by decide +kernel
theorem d3_46 : decode prog_22_method_5_code 46 = .ok (.ireturn, 1) := by decide +kernel
theorem d3_47 : decode prog_22_method_5_code 47 = .ok (.iinc 4 1, 3) := by decide +kernel
theorem d3_50 : decode prog_22_method_5_code 50 = .ok (.goto (-40), 3) := by decide +kernel
theorem d3_53 : decode prog_22_method_5_code 53 = .ok (.iconst 0, 1) := by decide +kernel
theorem d3_54 : decode prog_22_method_5_code 54 = .ok (.ireturn, 1) := by decide +kernel
theorem pn_3 : plainName "com/example/afterstate/afterstate/connect4/Bitboard" = true := by first | (simp [plainName, overriddenIn]; done) | decide +kernel
theorem ef_3 (m : MethodId) (x0 : Int64) : entryFrame m #[(.long x0)] 8 = mkF m 0 #[.val (.long x0), .second, .unset, .unset, .unset, .unset, .unset, .unset] [] := by first | (simp [entryFrame, mkF, argsToLocals, Value.category]; done) | rfl
set_option maxRecDepth 65536 in
set_option maxHeartbeats 40000000 in
theorem rmH (l : Launch) (Z : State) (a0 : Array Value) (hw : ∀ d ∈ tables_1, d.before a0 Z = true) (w : Int64) (a_DIRECTIONS : Addr) (k_DIRECTIONS : ClassId) (h0 : Heap) (O0 : Old Z Z.heap.size h0) (FF : Facts Z a_DIRECTIONS k_DIRECTIONS) : Pur l Z (⟨"com/example/afterstate/afterstate/connect4/Bitboard", "hasFour", "(J)Z"⟩ : MethodName) prog_22_method_5_code 8 (some .boolean) 0 0 #[(.long w)] h0 (some (.int (hfv w))) := by
  refine Ctr.of (plainFor_of_name pn_3) ?_
  have wd : ∀ {d : Jvm.Cond} (i : Nat), tables_1[i]? = some d → d.before a0 Z = true := fun i q => hw _ (List.mem_of_getElem? q)
  intro p e s m below meth c s₁ hx hby hml hown hnm hret hlk hZ X0 e0
  have FF' := FF
  obtain ⟨S_BOARD, S_DIRECTIONS, V_DIRECTIONS⟩ := FF'
  refine Go.cast (ef_3 m w) ?_
  show Go p e below _ s₁ (mkF m 0 #[.val (.long w), .second, .unset, .unset, .unset, .unset, .unset, .unset] [])
  refine Go.getS X0 hx hZ hown (host := "") (Or.inl (wd 7 rfl)) Via.refl e0 (S_DIRECTIONS.ext O0.2) (hb hby d3_0) rfl ?_
  intro T1 X1 e1
  refine Go.astoreN X1 hx (hb hby d3_3) rfl rfl #[.val (.long w), .second, .val (.ref a_DIRECTIONS), .unset, .unset, .unset, .unset, .unset] rfl ?_
  refine Go.aloadN X1 hx (hb hby d3_4) rfl rfl rfl ?_
  refine Go.alen X1 hx hZ (V_DIRECTIONS.ext O0.2) e1 (hb hby d3_5) rfl ?_
  refine Go.istoreN X1 hx (hb hby d3_6) rfl  #[.val (.long w), .second, .val (.ref a_DIRECTIONS), .val (.int (4 : Int32)), .unset, .unset, .unset, .unset] rfl ?_
  refine Go.iconst X1 hx (hb hby d3_7) rfl (0 : Int32) rfl ?_
  refine Go.istore X1 hx (hb hby d3_8) rfl  #[.val (.long w), .second, .val (.ref a_DIRECTIONS), .val (.int (4 : Int32)), .val (.int (0 : Int32)), .unset, .unset, .unset] rfl ?_
  refine Go.iload X1 hx (hb hby d3_10) rfl rfl  ?_
  refine Go.iloadN X1 hx (hb hby d3_12) rfl rfl  ?_
  refine Go.icmpNo X1 hx (hb hby d3_13) rfl (tlt (by decide : (0 : Int32) < (4 : Int32))).2.1 ?_
  refine Go.aloadN X1 hx (hb hby d3_16) rfl rfl rfl ?_
  refine Go.iload X1 hx (hb hby d3_17) rfl rfl  ?_
  refine Go.iaload X1 hx hZ (.int (1 : Int32)) (V_DIRECTIONS.ext O0.2) e1  ⟨by decide, by decide⟩ rfl (hb hby d3_19) rfl ?_
  refine Go.istore X1 hx (hb hby d3_20) rfl  #[.val (.long w), .second, .val (.ref a_DIRECTIONS), .val (.int (4 : Int32)), .val (.int (0 : Int32)), .val (.int (1 : Int32)), .unset, .unset] rfl ?_
  refine Go.lloadN X1 hx (hb hby d3_22) rfl rfl  ?_
  refine Go.lloadN X1 hx (hb hby d3_23) rfl rfl  ?_
  refine Go.iload X1 hx (hb hby d3_24) rfl rfl  ?_
  refine Go.lushr X1 hx (hb hby d3_26) rfl ?_
  refine Go.land X1 hx (hb hby d3_27) rfl ?_
  refine Go.lstore X1 hx (hb hby d3_28) rfl  #[.val (.long w), .second, .val (.ref a_DIRECTIONS), .val (.int (4 : Int32)), .val (.int (0 : Int32)), .val (.int (1 : Int32)), .val (.long (w &&& (((w).toUInt64 >>> ((1 : Int32) &&& 0x3f).toInt64.toUInt64).toInt64))), .second] rfl ?_
  refine Go.lload X1 hx (hb hby d3_30) rfl rfl  ?_
  refine Go.lload X1 hx (hb hby d3_32) rfl rfl  ?_
  refine Go.iconst X1 hx (hb hby d3_34) rfl (2 : Int32) rfl ?_
  refine Go.iload X1 hx (hb hby d3_35) rfl rfl  ?_
  refine Go.imul X1 hx (hb hby d3_37) rfl ?_
  show Go p e below _ T1 (mkF m 38 #[.val (.long w), .second, .val (.ref a_DIRECTIONS), .val (.int (4 : Int32)), .val (.int (0 : Int32)), .val (.int (1 : Int32)), .val (.long (w &&& (((w).toUInt64 >>> ((1 : Int32) &&& 0x3f).toInt64.toUInt64).toInt64))), .second] [(.int ((2 : Int32) * (1 : Int32))), (.long (w &&& (((w).toUInt64 >>> ((1 : Int32) &&& 0x3f).toInt64.toUInt64).toInt64))), (.long (w &&& (((w).toUInt64 >>> ((1 : Int32) &&& 0x3f).toInt64.toUInt64).toInt64)))])
  rw [show ((2 : Int32) * (1 : Int32)) = (2 : Int32) from by decide]
  refine Go.lushr X1 hx (hb hby d3_38) rfl ?_
  refine Go.land X1 hx (hb hby d3_39) rfl ?_
  refine Go.lconst X1 hx (hb hby d3_40) rfl (0 : Int64) rfl ?_
  refine Go.lcmp X1 hx (hb hby d3_41) rfl ?_
  by_cases hc2 : ((w &&& (((w).toUInt64 >>> ((1 : Int32) &&& 0x3f).toInt64.toUInt64).toInt64)) &&& ((((w &&& (((w).toUInt64 >>> ((1 : Int32) &&& 0x3f).toInt64.toUInt64).toInt64))).toUInt64 >>> ((2 : Int32) &&& 0x3f).toInt64.toUInt64).toInt64)) = (0 : Int64)
  · refine Go.ifYes X1 hx (hb hby d3_42) rfl 47 ((if0 _ _).trans (teq ((lw_eq ((w &&& (((w).toUInt64 >>> ((1 : Int32) &&& 0x3f).toInt64.toUInt64).toInt64)) &&& ((((w &&& (((w).toUInt64 >>> ((1 : Int32) &&& 0x3f).toInt64.toUInt64).toInt64))).toUInt64 >>> ((2 : Int32) &&& 0x3f).toInt64.toUInt64).toInt64)) (0 : Int64)).mpr hc2)).1) (by decide) (by decide) ?_
    refine Go.iinc X1 hx (hb hby d3_47) rfl rfl #[.val (.long w), .second, .val (.ref a_DIRECTIONS), .val (.int (4 : Int32)), .val (.int ((0 : Int32) + (1 : Int32))), .val (.int (1 : Int32)), .val (.long (w &&& (((w).toUInt64 >>> ((1 : Int32) &&& 0x3f).toInt64.toUInt64).toInt64))), .second] rfl ?_
    show Go p e below _ T1 (mkF m 50 #[.val (.long w), .second, .val (.ref a_DIRECTIONS), .val (.int (4 : Int32)), .val (.int ((0 : Int32) + (1 : Int32))), .val (.int (1 : Int32)), .val (.long (w &&& (((w).toUInt64 >>> ((1 : Int32) &&& 0x3f).toInt64.toUInt64).toInt64))), .second] [])
    rw [show ((0 : Int32) + (1 : Int32)) = (1 : Int32) from by decide]
    show Go p e below _ T1 (mkF m 50 #[.val (.long w), .second, .val (.ref a_DIRECTIONS), .val (.int (4 : Int32)), .val (.int (1 : Int32)), .val (.int (1 : Int32)), .val (.long (w &&& (((w).toUInt64 >>> ((1 : Int32) &&& 0x3f).toInt64.toUInt64).toInt64))), .second] [])
    refine Go.goto X1 hx (hb hby d3_50) rfl 10 (by decide) (by decide) ?_
    refine Go.iload X1 hx (hb hby d3_10) rfl rfl  ?_
    refine Go.iloadN X1 hx (hb hby d3_12) rfl rfl  ?_
    refine Go.icmpNo X1 hx (hb hby d3_13) rfl (tlt (by decide : (1 : Int32) < (4 : Int32))).2.1 ?_
    refine Go.aloadN X1 hx (hb hby d3_16) rfl rfl rfl ?_
    refine Go.iload X1 hx (hb hby d3_17) rfl rfl  ?_
    refine Go.iaload X1 hx hZ (.int (7 : Int32)) (V_DIRECTIONS.ext O0.2) e1  ⟨by decide, by decide⟩ rfl (hb hby d3_19) rfl ?_
    refine Go.istore X1 hx (hb hby d3_20) rfl  #[.val (.long w), .second, .val (.ref a_DIRECTIONS), .val (.int (4 : Int32)), .val (.int (1 : Int32)), .val (.int (7 : Int32)), .val (.long (w &&& (((w).toUInt64 >>> ((1 : Int32) &&& 0x3f).toInt64.toUInt64).toInt64))), .second] rfl ?_
    refine Go.lloadN X1 hx (hb hby d3_22) rfl rfl  ?_
    refine Go.lloadN X1 hx (hb hby d3_23) rfl rfl  ?_
    refine Go.iload X1 hx (hb hby d3_24) rfl rfl  ?_
    refine Go.lushr X1 hx (hb hby d3_26) rfl ?_
    refine Go.land X1 hx (hb hby d3_27) rfl ?_
    refine Go.lstore X1 hx (hb hby d3_28) rfl  #[.val (.long w), .second, .val (.ref a_DIRECTIONS), .val (.int (4 : Int32)), .val (.int (1 : Int32)), .val (.int (7 : Int32)), .val (.long (w &&& (((w).toUInt64 >>> ((7 : Int32) &&& 0x3f).toInt64.toUInt64).toInt64))), .second] rfl ?_
    refine Go.lload X1 hx (hb hby d3_30) rfl rfl  ?_
    refine Go.lload X1 hx (hb hby d3_32) rfl rfl  ?_
    refine Go.iconst X1 hx (hb hby d3_34) rfl (2 : Int32) rfl ?_
    refine Go.iload X1 hx (hb hby d3_35) rfl rfl  ?_
    refine Go.imul X1 hx (hb hby d3_37) rfl ?_
    show Go p e below _ T1 (mkF m 38 #[.val (.long w), .second, .val (.ref a_DIRECTIONS), .val (.int (4 : Int32)), .val (.int (1 : Int32)), .val (.int (7 : Int32)), .val (.long (w &&& (((w).toUInt64 >>> ((7 : Int32) &&& 0x3f).toInt64.toUInt64).toInt64))), .second] [(.int ((2 : Int32) * (7 : Int32))), (.long (w &&& (((w).toUInt64 >>> ((7 : Int32) &&& 0x3f).toInt64.toUInt64).toInt64))), (.long (w &&& (((w).toUInt64 >>> ((7 : Int32) &&& 0x3f).toInt64.toUInt64).toInt64)))])
    rw [show ((2 : Int32) * (7 : Int32)) = (14 : Int32) from by decide]
    refine Go.lushr X1 hx (hb hby d3_38) rfl ?_
    refine Go.land X1 hx (hb hby d3_39) rfl ?_
    refine Go.lconst X1 hx (hb hby d3_40) rfl (0 : Int64) rfl ?_
    refine Go.lcmp X1 hx (hb hby d3_41) rfl ?_
    by_cases hc3 : ((w &&& (((w).toUInt64 >>> ((7 : Int32) &&& 0x3f).toInt64.toUInt64).toInt64)) &&& ((((w &&& (((w).toUInt64 >>> ((7 : Int32) &&& 0x3f).toInt64.toUInt64).toInt64))).toUInt64 >>> ((14 : Int32) &&& 0x3f).toInt64.toUInt64).toInt64)) = (0 : Int64)
    · refine Go.ifYes X1 hx (hb hby d3_42) rfl 47 ((if0 _ _).trans (teq ((lw_eq ((w &&& (((w).toUInt64 >>> ((7 : Int32) &&& 0x3f).toInt64.toUInt64).toInt64)) &&& ((((w &&& (((w).toUInt64 >>> ((7 : Int32) &&& 0x3f).toInt64.toUInt64).toInt64))).toUInt64 >>> ((14 : Int32) &&& 0x3f).toInt64.toUInt64).toInt64)) (0 : Int64)).mpr hc3)).1) (by decide) (by decide) ?_
      refine Go.iinc X1 hx (hb hby d3_47) rfl rfl #[.val (.long w), .second, .val (.ref a_DIRECTIONS), .val (.int (4 : Int32)), .val (.int ((1 : Int32) + (1 : Int32))), .val (.int (7 : Int32)), .val (.long (w &&& (((w).toUInt64 >>> ((7 : Int32) &&& 0x3f).toInt64.toUInt64).toInt64))), .second] rfl ?_
      show Go p e below _ T1 (mkF m 50 #[.val (.long w), .second, .val (.ref a_DIRECTIONS), .val (.int (4 : Int32)), .val (.int ((1 : Int32) + (1 : Int32))), .val (.int (7 : Int32)), .val (.long (w &&& (((w).toUInt64 >>> ((7 : Int32) &&& 0x3f).toInt64.toUInt64).toInt64))), .second] [])
      rw [show ((1 : Int32) + (1 : Int32)) = (2 : Int32) from by decide]
      show Go p e below _ T1 (mkF m 50 #[.val (.long w), .second, .val (.ref a_DIRECTIONS), .val (.int (4 : Int32)), .val (.int (2 : Int32)), .val (.int (7 : Int32)), .val (.long (w &&& (((w).toUInt64 >>> ((7 : Int32) &&& 0x3f).toInt64.toUInt64).toInt64))), .second] [])
      refine Go.goto X1 hx (hb hby d3_50) rfl 10 (by decide) (by decide) ?_
      refine Go.iload X1 hx (hb hby d3_10) rfl rfl  ?_
      refine Go.iloadN X1 hx (hb hby d3_12) rfl rfl  ?_
      refine Go.icmpNo X1 hx (hb hby d3_13) rfl (tlt (by decide : (2 : Int32) < (4 : Int32))).2.1 ?_
      refine Go.aloadN X1 hx (hb hby d3_16) rfl rfl rfl ?_
      refine Go.iload X1 hx (hb hby d3_17) rfl rfl  ?_
      refine Go.iaload X1 hx hZ (.int (8 : Int32)) (V_DIRECTIONS.ext O0.2) e1  ⟨by decide, by decide⟩ rfl (hb hby d3_19) rfl ?_
      refine Go.istore X1 hx (hb hby d3_20) rfl  #[.val (.long w), .second, .val (.ref a_DIRECTIONS), .val (.int (4 : Int32)), .val (.int (2 : Int32)), .val (.int (8 : Int32)), .val (.long (w &&& (((w).toUInt64 >>> ((7 : Int32) &&& 0x3f).toInt64.toUInt64).toInt64))), .second] rfl ?_
      refine Go.lloadN X1 hx (hb hby d3_22) rfl rfl  ?_
      refine Go.lloadN X1 hx (hb hby d3_23) rfl rfl  ?_
      refine Go.iload X1 hx (hb hby d3_24) rfl rfl  ?_
      refine Go.lushr X1 hx (hb hby d3_26) rfl ?_
      refine Go.land X1 hx (hb hby d3_27) rfl ?_
      refine Go.lstore X1 hx (hb hby d3_28) rfl  #[.val (.long w), .second, .val (.ref a_DIRECTIONS), .val (.int (4 : Int32)), .val (.int (2 : Int32)), .val (.int (8 : Int32)), .val (.long (w &&& (((w).toUInt64 >>> ((8 : Int32) &&& 0x3f).toInt64.toUInt64).toInt64))), .second] rfl ?_
      refine Go.lload X1 hx (hb hby d3_30) rfl rfl  ?_
      refine Go.lload X1 hx (hb hby d3_32) rfl rfl  ?_
      refine Go.iconst X1 hx (hb hby d3_34) rfl (2 : Int32) rfl ?_
      refine Go.iload X1 hx (hb hby d3_35) rfl rfl  ?_
      refine Go.imul X1 hx (hb hby d3_37) rfl ?_
      show Go p e below _ T1 (mkF m 38 #[.val (.long w), .second, .val (.ref a_DIRECTIONS), .val (.int (4 : Int32)), .val (.int (2 : Int32)), .val (.int (8 : Int32)), .val (.long (w &&& (((w).toUInt64 >>> ((8 : Int32) &&& 0x3f).toInt64.toUInt64).toInt64))), .second] [(.int ((2 : Int32) * (8 : Int32))), (.long (w &&& (((w).toUInt64 >>> ((8 : Int32) &&& 0x3f).toInt64.toUInt64).toInt64))), (.long (w &&& (((w).toUInt64 >>> ((8 : Int32) &&& 0x3f).toInt64.toUInt64).toInt64)))])
      rw [show ((2 : Int32) * (8 : Int32)) = (16 : Int32) from by decide]
      refine Go.lushr X1 hx (hb hby d3_38) rfl ?_
      refine Go.land X1 hx (hb hby d3_39) rfl ?_
      refine Go.lconst X1 hx (hb hby d3_40) rfl (0 : Int64) rfl ?_
      refine Go.lcmp X1 hx (hb hby d3_41) rfl ?_
      by_cases hc4 : ((w &&& (((w).toUInt64 >>> ((8 : Int32) &&& 0x3f).toInt64.toUInt64).toInt64)) &&& ((((w &&& (((w).toUInt64 >>> ((8 : Int32) &&& 0x3f).toInt64.toUInt64).toInt64))).toUInt64 >>> ((16 : Int32) &&& 0x3f).toInt64.toUInt64).toInt64)) = (0 : Int64)
      · refine Go.ifYes X1 hx (hb hby d3_42) rfl 47 ((if0 _ _).trans (teq ((lw_eq ((w &&& (((w).toUInt64 >>> ((8 : Int32) &&& 0x3f).toInt64.toUInt64).toInt64)) &&& ((((w &&& (((w).toUInt64 >>> ((8 : Int32) &&& 0x3f).toInt64.toUInt64).toInt64))).toUInt64 >>> ((16 : Int32) &&& 0x3f).toInt64.toUInt64).toInt64)) (0 : Int64)).mpr hc4)).1) (by decide) (by decide) ?_
        refine Go.iinc X1 hx (hb hby d3_47) rfl rfl #[.val (.long w), .second, .val (.ref a_DIRECTIONS), .val (.int (4 : Int32)), .val (.int ((2 : Int32) + (1 : Int32))), .val (.int (8 : Int32)), .val (.long (w &&& (((w).toUInt64 >>> ((8 : Int32) &&& 0x3f).toInt64.toUInt64).toInt64))), .second] rfl ?_
        show Go p e below _ T1 (mkF m 50 #[.val (.long w), .second, .val (.ref a_DIRECTIONS), .val (.int (4 : Int32)), .val (.int ((2 : Int32) + (1 : Int32))), .val (.int (8 : Int32)), .val (.long (w &&& (((w).toUInt64 >>> ((8 : Int32) &&& 0x3f).toInt64.toUInt64).toInt64))), .second] [])
        rw [show ((2 : Int32) + (1 : Int32)) = (3 : Int32) from by decide]
        show Go p e below _ T1 (mkF m 50 #[.val (.long w), .second, .val (.ref a_DIRECTIONS), .val (.int (4 : Int32)), .val (.int (3 : Int32)), .val (.int (8 : Int32)), .val (.long (w &&& (((w).toUInt64 >>> ((8 : Int32) &&& 0x3f).toInt64.toUInt64).toInt64))), .second] [])
        refine Go.goto X1 hx (hb hby d3_50) rfl 10 (by decide) (by decide) ?_
        refine Go.iload X1 hx (hb hby d3_10) rfl rfl  ?_
        refine Go.iloadN X1 hx (hb hby d3_12) rfl rfl  ?_
        refine Go.icmpNo X1 hx (hb hby d3_13) rfl (tlt (by decide : (3 : Int32) < (4 : Int32))).2.1 ?_
        refine Go.aloadN X1 hx (hb hby d3_16) rfl rfl rfl ?_
        refine Go.iload X1 hx (hb hby d3_17) rfl rfl  ?_
        refine Go.iaload X1 hx hZ (.int (6 : Int32)) (V_DIRECTIONS.ext O0.2) e1  ⟨by decide, by decide⟩ rfl (hb hby d3_19) rfl ?_
        refine Go.istore X1 hx (hb hby d3_20) rfl  #[.val (.long w), .second, .val (.ref a_DIRECTIONS), .val (.int (4 : Int32)), .val (.int (3 : Int32)), .val (.int (6 : Int32)), .val (.long (w &&& (((w).toUInt64 >>> ((8 : Int32) &&& 0x3f).toInt64.toUInt64).toInt64))), .second] rfl ?_
        refine Go.lloadN X1 hx (hb hby d3_22) rfl rfl  ?_
        refine Go.lloadN X1 hx (hb hby d3_23) rfl rfl  ?_
        refine Go.iload X1 hx (hb hby d3_24) rfl rfl  ?_
        refine Go.lushr X1 hx (hb hby d3_26) rfl ?_
        refine Go.land X1 hx (hb hby d3_27) rfl ?_
        refine Go.lstore X1 hx (hb hby d3_28) rfl  #[.val (.long w), .second, .val (.ref a_DIRECTIONS), .val (.int (4 : Int32)), .val (.int (3 : Int32)), .val (.int (6 : Int32)), .val (.long (w &&& (((w).toUInt64 >>> ((6 : Int32) &&& 0x3f).toInt64.toUInt64).toInt64))), .second] rfl ?_
        refine Go.lload X1 hx (hb hby d3_30) rfl rfl  ?_
        refine Go.lload X1 hx (hb hby d3_32) rfl rfl  ?_
        refine Go.iconst X1 hx (hb hby d3_34) rfl (2 : Int32) rfl ?_
        refine Go.iload X1 hx (hb hby d3_35) rfl rfl  ?_
        refine Go.imul X1 hx (hb hby d3_37) rfl ?_
        show Go p e below _ T1 (mkF m 38 #[.val (.long w), .second, .val (.ref a_DIRECTIONS), .val (.int (4 : Int32)), .val (.int (3 : Int32)), .val (.int (6 : Int32)), .val (.long (w &&& (((w).toUInt64 >>> ((6 : Int32) &&& 0x3f).toInt64.toUInt64).toInt64))), .second] [(.int ((2 : Int32) * (6 : Int32))), (.long (w &&& (((w).toUInt64 >>> ((6 : Int32) &&& 0x3f).toInt64.toUInt64).toInt64))), (.long (w &&& (((w).toUInt64 >>> ((6 : Int32) &&& 0x3f).toInt64.toUInt64).toInt64)))])
        rw [show ((2 : Int32) * (6 : Int32)) = (12 : Int32) from by decide]
        refine Go.lushr X1 hx (hb hby d3_38) rfl ?_
        refine Go.land X1 hx (hb hby d3_39) rfl ?_
        refine Go.lconst X1 hx (hb hby d3_40) rfl (0 : Int64) rfl ?_
        refine Go.lcmp X1 hx (hb hby d3_41) rfl ?_
        by_cases hc5 : ((w &&& (((w).toUInt64 >>> ((6 : Int32) &&& 0x3f).toInt64.toUInt64).toInt64)) &&& ((((w &&& (((w).toUInt64 >>> ((6 : Int32) &&& 0x3f).toInt64.toUInt64).toInt64))).toUInt64 >>> ((12 : Int32) &&& 0x3f).toInt64.toUInt64).toInt64)) = (0 : Int64)
        · refine Go.ifYes X1 hx (hb hby d3_42) rfl 47 ((if0 _ _).trans (teq ((lw_eq ((w &&& (((w).toUInt64 >>> ((6 : Int32) &&& 0x3f).toInt64.toUInt64).toInt64)) &&& ((((w &&& (((w).toUInt64 >>> ((6 : Int32) &&& 0x3f).toInt64.toUInt64).toInt64))).toUInt64 >>> ((12 : Int32) &&& 0x3f).toInt64.toUInt64).toInt64)) (0 : Int64)).mpr hc5)).1) (by decide) (by decide) ?_
          refine Go.iinc X1 hx (hb hby d3_47) rfl rfl #[.val (.long w), .second, .val (.ref a_DIRECTIONS), .val (.int (4 : Int32)), .val (.int ((3 : Int32) + (1 : Int32))), .val (.int (6 : Int32)), .val (.long (w &&& (((w).toUInt64 >>> ((6 : Int32) &&& 0x3f).toInt64.toUInt64).toInt64))), .second] rfl ?_
          show Go p e below _ T1 (mkF m 50 #[.val (.long w), .second, .val (.ref a_DIRECTIONS), .val (.int (4 : Int32)), .val (.int ((3 : Int32) + (1 : Int32))), .val (.int (6 : Int32)), .val (.long (w &&& (((w).toUInt64 >>> ((6 : Int32) &&& 0x3f).toInt64.toUInt64).toInt64))), .second] [])
          rw [show ((3 : Int32) + (1 : Int32)) = (4 : Int32) from by decide]
          show Go p e below _ T1 (mkF m 50 #[.val (.long w), .second, .val (.ref a_DIRECTIONS), .val (.int (4 : Int32)), .val (.int (4 : Int32)), .val (.int (6 : Int32)), .val (.long (w &&& (((w).toUInt64 >>> ((6 : Int32) &&& 0x3f).toInt64.toUInt64).toInt64))), .second] [])
          refine Go.goto X1 hx (hb hby d3_50) rfl 10 (by decide) (by decide) ?_
          refine Go.iload X1 hx (hb hby d3_10) rfl rfl  ?_
          refine Go.iloadN X1 hx (hb hby d3_12) rfl rfl  ?_
          refine Go.icmpYes X1 hx (hb hby d3_13) rfl 53 (flt (by decide : ¬ ((4 : Int32) < (4 : Int32)))).2.1 (by decide) (by decide) ?_
          refine Go.iconst X1 hx (hb hby d3_53) rfl (0 : Int32) rfl ?_
          exact Go.retZ X1 hx (z' := (0 : Int32)) hret hlk (hb hby d3_54) rfl (by decide) (by rw [e1]; exact ⟨congrArg (fun z => some (Value.int z)) (by unfold hfv; rw [if_pos hc2, if_pos hc3, if_pos hc4, if_pos hc5]), rfl, rfl⟩) (Nat.le_of_ble_eq_true rfl) (Nat.le_of_ble_eq_true rfl)
        · refine Go.ifNo X1 hx (hb hby d3_42) rfl ((if0 _ _).trans (feq (fun q => hc5 ((lw_eq ((w &&& (((w).toUInt64 >>> ((6 : Int32) &&& 0x3f).toInt64.toUInt64).toInt64)) &&& ((((w &&& (((w).toUInt64 >>> ((6 : Int32) &&& 0x3f).toInt64.toUInt64).toInt64))).toUInt64 >>> ((12 : Int32) &&& 0x3f).toInt64.toUInt64).toInt64)) (0 : Int64)).mp q))).1) ?_
          refine Go.iconst X1 hx (hb hby d3_45) rfl (1 : Int32) rfl ?_
          exact Go.retZ X1 hx (z' := (1 : Int32)) hret hlk (hb hby d3_46) rfl (by decide) (by rw [e1]; exact ⟨congrArg (fun z => some (Value.int z)) (by unfold hfv; rw [if_pos hc2, if_pos hc3, if_pos hc4, if_neg hc5]), rfl, rfl⟩) (Nat.le_of_ble_eq_true rfl) (Nat.le_of_ble_eq_true rfl)
      · refine Go.ifNo X1 hx (hb hby d3_42) rfl ((if0 _ _).trans (feq (fun q => hc4 ((lw_eq ((w &&& (((w).toUInt64 >>> ((8 : Int32) &&& 0x3f).toInt64.toUInt64).toInt64)) &&& ((((w &&& (((w).toUInt64 >>> ((8 : Int32) &&& 0x3f).toInt64.toUInt64).toInt64))).toUInt64 >>> ((16 : Int32) &&& 0x3f).toInt64.toUInt64).toInt64)) (0 : Int64)).mp q))).1) ?_
        refine Go.iconst X1 hx (hb hby d3_45) rfl (1 : Int32) rfl ?_
        exact Go.retZ X1 hx (z' := (1 : Int32)) hret hlk (hb hby d3_46) rfl (by decide) (by rw [e1]; exact ⟨congrArg (fun z => some (Value.int z)) (by unfold hfv; rw [if_pos hc2, if_pos hc3, if_neg hc4]), rfl, rfl⟩) (Nat.le_of_ble_eq_true rfl) (Nat.le_of_ble_eq_true rfl)
    · refine Go.ifNo X1 hx (hb hby d3_42) rfl ((if0 _ _).trans (feq (fun q => hc3 ((lw_eq ((w &&& (((w).toUInt64 >>> ((7 : Int32) &&& 0x3f).toInt64.toUInt64).toInt64)) &&& ((((w &&& (((w).toUInt64 >>> ((7 : Int32) &&& 0x3f).toInt64.toUInt64).toInt64))).toUInt64 >>> ((14 : Int32) &&& 0x3f).toInt64.toUInt64).toInt64)) (0 : Int64)).mp q))).1) ?_
      refine Go.iconst X1 hx (hb hby d3_45) rfl (1 : Int32) rfl ?_
      exact Go.retZ X1 hx (z' := (1 : Int32)) hret hlk (hb hby d3_46) rfl (by decide) (by rw [e1]; exact ⟨congrArg (fun z => some (Value.int z)) (by unfold hfv; rw [if_pos hc2, if_neg hc3]), rfl, rfl⟩) (Nat.le_of_ble_eq_true rfl) (Nat.le_of_ble_eq_true rfl)
  · refine Go.ifNo X1 hx (hb hby d3_42) rfl ((if0 _ _).trans (feq (fun q => hc2 ((lw_eq ((w &&& (((w).toUInt64 >>> ((1 : Int32) &&& 0x3f).toInt64.toUInt64).toInt64)) &&& ((((w &&& (((w).toUInt64 >>> ((1 : Int32) &&& 0x3f).toInt64.toUInt64).toInt64))).toUInt64 >>> ((2 : Int32) &&& 0x3f).toInt64.toUInt64).toInt64)) (0 : Int64)).mp q))).1) ?_
    refine Go.iconst X1 hx (hb hby d3_45) rfl (1 : Int32) rfl ?_
    exact Go.retZ X1 hx (z' := (1 : Int32)) hret hlk (hb hby d3_46) rfl (by decide) (by rw [e1]; exact ⟨congrArg (fun z => some (Value.int z)) (by unfold hfv; rw [if_neg hc2]), rfl, rfl⟩) (Nat.le_of_ble_eq_true rfl) (Nat.le_of_ble_eq_true rfl)
theorem d1_0 : decode prog_22_method_6_code 0 = .ok (.lconst 0, 1) := by decide +kernel
theorem d1_1 : decode prog_22_method_6_code 1 = .ok (.lstore 4, 2) := by decide +kernel
theorem d1_3 : decode prog_22_method_6_code 3 = .ok (.getstatic 20, 3) := by decide +kernel
theorem d1_6 : decode prog_22_method_6_code 6 = .ok (.astore 6, 2) := by decide +kernel
theorem d1_8 : decode prog_22_method_6_code 8 = .ok (.aload 6, 2) := by decide +kernel
theorem d1_10 : decode prog_22_method_6_code 10 = .ok (.arraylength, 1) := by decide +kernel
theorem d1_11 : decode prog_22_method_6_code 11 = .ok (.istore 7, 2) := by decide +kernel
theorem d1_13 : decode prog_22_method_6_code 13 = .ok (.iconst 0, 1) := by decide +kernel
theorem d1_14 : decode prog_22_method_6_code 14 = .ok (.istore 8, 2) := by decide +kernel
theorem d1_16 : decode prog_22_method_6_code 16 = .ok (.iload 8, 2) := by decide +kernel
theorem d1_18 : decode prog_22_method_6_code 18 = .ok (.iload 7, 2) := by decide +kernel
theorem d1_20 : decode prog_22_method_6_code 20 = .ok (.if_icmp .ge 94, 3) := by decide +kernel
theorem d1_23 : decode prog_22_method_6_code 23 = .ok (.aload 6, 2) := by decide +kernel
theorem d1_25 : decode prog_22_method_6_code 25 = .ok (.iload 8, 2) := by decide +kernel
theorem d1_27 : decode prog_22_method_6_code 27 = .ok (.iaload, 1) := by decide +kernel
theorem d1_28 : decode prog_22_method_6_code 28 = .ok (.istore 9, 2) := by decide +kernel
theorem d1_30 : decode prog_22_method_6_code 30 = .ok (.lload_n 0, 1) := by decide +kernel
theorem d1_31 : decode prog_22_method_6_code 31 = .ok (.iload 9, 2) := by decide +kernel
theorem d1_33 : decode prog_22_method_6_code 33 = .ok (.lshl, 1) := by decide +kernel
theorem d1_34 : decode prog_22_method_6_code 34 = .ok (.lload_n 0, 1) := by decide +kernel
theorem d1_35 : decode prog_22_method_6_code 35 = .ok (.iconst 2, 1) := by decide +kernel
theorem d1_36 : decode prog_22_method_6_code 36 = .ok (.iload 9, 2) := by decide +kernel
theorem d1_38 : decode prog_22_method_6_code 38 = .ok (.imul, 1) := by decide +kernel
theorem d1_39 : decode prog_22_method_6_code 39 = .ok (.lshl, 1) := by decide +kernel
theorem d1_40 : decode prog_22_method_6_code 40 = .ok (.land, 1) := by decide +kernel
theorem d1_41 : decode prog_22_method_6_code 41 = .ok (.lstore 10, 2) := by decide +kernel
theorem d1_43 : decode prog_22_method_6_code 43 = .ok (.lload 4, 2) := by decide +kernel
theorem d1_45 : decode prog_22_method_6_code 45 = .ok (.lload 10, 2) := by decide +kernel
theorem d1_47 : decode prog_22_method_6_code 47 = .ok (.lload_n 0, 1) := by decide +kernel
theorem d1_48 : decode prog_22_method_6_code 48 = .ok (.iconst 3, 1) := by decide +kernel
theorem d1_49 : decode prog_22_method_6_code 49 = .ok (.iload 9, 2) := by decide +kernel
theorem d1_51 : decode prog_22_method_6_code 51 = .ok (.imul, 1) := by decide +kernel
theorem d1_52 : decode prog_22_method_6_code 52 = .ok (.lshl, 1) := by decide +kernel
theorem d1_53 : decode prog_22_method_6_code 53 = .ok (.land, 1) := by decide +kernel
theorem d1_54 : decode prog_22_method_6_code 54 = .ok (.lor, 1) := by decide +kernel
theorem d1_55 : decode prog_22_method_6_code 55 = .ok (.lstore 4, 2) := by decide +kernel
theorem d1_57 : decode prog_22_method_6_code 57 = .ok (.lload 4, 2) := by decide +kernel
theorem d1_59 : decode prog_22_method_6_code 59 = .ok (.lload 10, 2) := by decide +kernel
theorem d1_61 : decode prog_22_method_6_code 61 = .ok (.lload_n 0, 1) := by decide +kernel
theorem d1_62 : decode prog_22_method_6_code 62 = .ok (.iload 9, 2) := by decide +kernel
theorem d1_64 : decode prog_22_method_6_code 64 = .ok (.lushr, 1) := by decide +kernel
theorem d1_65 : decode prog_22_method_6_code 65 = .ok (.land, 1) := by decide +kernel
theorem d1_66 : decode prog_22_method_6_code 66 = .ok (.lor, 1) := by decide +kernel
theorem d1_67 : decode prog_22_method_6_code 67 = .ok (.lstore 4, 2) := by decide +kernel
theorem d1_69 : decode prog_22_method_6_code 69 = .ok (.lload_n 0, 1) := by decide +kernel
theorem d1_70 : decode prog_22_method_6_code 70 = .ok (.iload 9, 2) := by decide +kernel
theorem d1_72 : decode prog_22_method_6_code 72 = .ok (.lushr, 1) := by decide +kernel
theorem d1_73 : decode prog_22_method_6_code 73 = .ok (.lload_n 0, 1) := by decide +kernel
theorem d1_74 : decode prog_22_method_6_code 74 = .ok (.iconst 2, 1) := by decide +kernel
theorem d1_75 : decode prog_22_method_6_code 75 = .ok (.iload 9, 2) := by decide +kernel
theorem d1_77 : decode prog_22_method_6_code 77 = .ok (.imul, 1) := by decide +kernel
theorem d1_78 : decode prog_22_method_6_code 78 = .ok (.lushr, 1) := by decide +kernel
theorem d1_79 : decode prog_22_method_6_code 79 = .ok (.land, 1) := by decide +kernel
theorem d1_80 : decode prog_22_method_6_code 80 = .ok (.lstore 12, 2) := by decide +kernel
theorem d1_82 : decode prog_22_method_6_code 82 = .ok (.lload 4, 2) := by decide +kernel
theorem d1_84 : decode prog_22_method_6_code 84 = .ok (.lload 12, 2) := by decide +kernel
theorem d1_86 : decode prog_22_method_6_code 86 = .ok (.lload_n 0, 1) := by decide +kernel
theorem d1_87 : decode prog_22_method_6_code 87 = .ok (.iload 9, 2) := by decide +kernel
theorem d1_89 : decode prog_22_method_6_code 89 = .ok (.lshl, 1) := by decide +kernel
theorem d1_90 : decode prog_22_method_6_code 90 = .ok (.land, 1) := by decide +kernel
theorem d1_91 : decode prog_22_method_6_code 91 = .ok (.lor, 1) := by decide +kernel
theorem d1_92 : decode prog_22_method_6_code 92 = .ok (.lstore 4, 2) := by decide +kernel
theorem d1_94 : decode prog_22_method_6_code 94 = .ok (.lload 4, 2) := by decide +kernel
theorem d1_96 : decode prog_22_method_6_code 96 = .ok (.lload 12, 2) := by decide +kernel
theorem d1_98 : decode prog_22_method_6_code 98 = .ok (.lload_n 0, 1) := by decide +kernel
theorem d1_99 : decode prog_22_method_6_code 99 = .ok (.iconst 3, 1) := by decide +kernel
theorem d1_100 : decode prog_22_method_6_code 100 = .ok (.iload 9, 2) := by decide +kernel
theorem d1_102 : decode prog_22_method_6_code 102 = .ok (.imul, 1) := by decide +kernel
theorem d1_103 : decode prog_22_method_6_code 103 = .ok (.lushr, 1) := by decide +kernel
theorem d1_104 : decode prog_22_method_6_code 104 = .ok (.land, 1) := by decide +kernel
theorem d1_105 : decode prog_22_method_6_code 105 = .ok (.lor, 1) := by decide +kernel
theorem d1_106 : decode prog_22_method_6_code 106 = .ok (.lstore 4, 2) := by decide +kernel
theorem d1_108 : decode prog_22_method_6_code 108 = .ok (.iinc 8 1, 3) := by decide +kernel
theorem d1_111 : decode prog_22_method_6_code 111 = .ok (.goto (-95), 3) := by decide +kernel
theorem d1_114 : decode prog_22_method_6_code 114 = .ok (.lload 4, 2) := by decide +kernel
theorem d1_116 : decode prog_22_method_6_code 116 = .ok (.getstatic 17, 3) := by decide +kernel
theorem d1_119 : decode prog_22_method_6_code 119 = .ok (.lload_n 2, 1) := by decide +kernel
theorem d1_120 : decode prog_22_method_6_code 120 = .ok (.lxor, 1) := by decide +kernel
theorem d1_121 : decode prog_22_method_6_code 121 = .ok (.land, 1) := by decide +kernel
theorem d1_122 : decode prog_22_method_6_code 122 = .ok (.lreturn, 1) := by decide +kernel
theorem ef_1 (m : MethodId) (x0 : Int64) (x1 : Int64) : entryFrame m #[(.long x0), (.long x1)] 14 = mkF m 0 #[.val (.long x0), .second, .val (.long x1), .second, .unset, .unset, .unset, .unset, .unset, .unset, .unset, .unset, .unset, .unset] [] := by first | (simp [entryFrame, mkF, argsToLocals, Value.category]; done) | rfl
set_option maxRecDepth 65536 in
set_option maxHeartbeats 40000000 in
theorem rmT (l : Launch) (Z : State) (a0 : Array Value) (hw : ∀ d ∈ tables_1, d.before a0 Z = true) (o tk : Int64) (a_DIRECTIONS : Addr) (k_DIRECTIONS : ClassId) (h0 : Heap) (O0 : Old Z Z.heap.size h0) (FF : Facts Z a_DIRECTIONS k_DIRECTIONS) : Pur l Z (⟨"com/example/afterstate/afterstate/connect4/Bitboard", "threats", "(JJ)J"⟩ : MethodName) prog_22_method_6_code 14 (some .long) 0 0 #[(.long o), (.long tk)] h0 (some (.long (thrv o tk))) := by
  refine Ctr.of (plainFor_of_name pn_3) ?_
  have wd : ∀ {d : Jvm.Cond} (i : Nat), tables_1[i]? = some d → d.before a0 Z = true := fun i q => hw _ (List.mem_of_getElem? q)
  intro p e s m below meth c s₁ hx hby hml hown hnm hret hlk hZ X0 e0
  have FF' := FF
  obtain ⟨S_BOARD, S_DIRECTIONS, V_DIRECTIONS⟩ := FF'
  refine Go.cast (ef_1 m o tk) ?_
  show Go p e below _ s₁ (mkF m 0 #[.val (.long o), .second, .val (.long tk), .second, .unset, .unset, .unset, .unset, .unset, .unset, .unset, .unset, .unset, .unset] [])
  refine Go.lconst X0 hx (hb hby d1_0) rfl (0 : Int64) rfl ?_
  refine Go.lstore X0 hx (hb hby d1_1) rfl  #[.val (.long o), .second, .val (.long tk), .second, .val (.long (0 : Int64)), .second, .unset, .unset, .unset, .unset, .unset, .unset, .unset, .unset] rfl ?_
  refine Go.getS X0 hx hZ hown (host := "") (Or.inl (wd 7 rfl)) Via.refl e0 (S_DIRECTIONS.ext O0.2) (hb hby d1_3) rfl ?_
  intro T1 X1 e1
  refine Go.astore X1 hx (hb hby d1_6) rfl rfl #[.val (.long o), .second, .val (.long tk), .second, .val (.long (0 : Int64)), .second, .val (.ref a_DIRECTIONS), .unset, .unset, .unset, .unset, .unset, .unset, .unset] rfl ?_
  refine Go.aload X1 hx (hb hby d1_8) rfl rfl rfl ?_
  refine Go.alen X1 hx hZ (V_DIRECTIONS.ext O0.2) e1 (hb hby d1_10) rfl ?_
  refine Go.istore X1 hx (hb hby d1_11) rfl  #[.val (.long o), .second, .val (.long tk), .second, .val (.long (0 : Int64)), .second, .val (.ref a_DIRECTIONS), .val (.int (4 : Int32)), .unset, .unset, .unset, .unset, .unset, .unset] rfl ?_
  refine Go.iconst X1 hx (hb hby d1_13) rfl (0 : Int32) rfl ?_
  refine Go.istore X1 hx (hb hby d1_14) rfl  #[.val (.long o), .second, .val (.long tk), .second, .val (.long (0 : Int64)), .second, .val (.ref a_DIRECTIONS), .val (.int (4 : Int32)), .val (.int (0 : Int32)), .unset, .unset, .unset, .unset, .unset] rfl ?_
  refine Go.iload X1 hx (hb hby d1_16) rfl rfl  ?_
  refine Go.iload X1 hx (hb hby d1_18) rfl rfl  ?_
  refine Go.icmpNo X1 hx (hb hby d1_20) rfl (tlt (by decide : (0 : Int32) < (4 : Int32))).2.1 ?_
  refine Go.aload X1 hx (hb hby d1_23) rfl rfl rfl ?_
  refine Go.iload X1 hx (hb hby d1_25) rfl rfl  ?_
  refine Go.iaload X1 hx hZ (.int (1 : Int32)) (V_DIRECTIONS.ext O0.2) e1  ⟨by decide, by decide⟩ rfl (hb hby d1_27) rfl ?_
  refine Go.istore X1 hx (hb hby d1_28) rfl  #[.val (.long o), .second, .val (.long tk), .second, .val (.long (0 : Int64)), .second, .val (.ref a_DIRECTIONS), .val (.int (4 : Int32)), .val (.int (0 : Int32)), .val (.int (1 : Int32)), .unset, .unset, .unset, .unset] rfl ?_
  refine Go.lloadN X1 hx (hb hby d1_30) rfl rfl  ?_
  refine Go.iload X1 hx (hb hby d1_31) rfl rfl  ?_
  refine Go.lshl X1 hx (hb hby d1_33) rfl ?_
  refine Go.lloadN X1 hx (hb hby d1_34) rfl rfl  ?_
  refine Go.iconst X1 hx (hb hby d1_35) rfl (2 : Int32) rfl ?_
  refine Go.iload X1 hx (hb hby d1_36) rfl rfl  ?_
  refine Go.imul X1 hx (hb hby d1_38) rfl ?_
  show Go p e below _ T1 (mkF m 39 #[.val (.long o), .second, .val (.long tk), .second, .val (.long (0 : Int64)), .second, .val (.ref a_DIRECTIONS), .val (.int (4 : Int32)), .val (.int (0 : Int32)), .val (.int (1 : Int32)), .unset, .unset, .unset, .unset] [(.int ((2 : Int32) * (1 : Int32))), (.long o), (.long ((o <<< ((1 : Int32) &&& 0x3f).toInt64)))])
  rw [show ((2 : Int32) * (1 : Int32)) = (2 : Int32) from by decide]
  refine Go.lshl X1 hx (hb hby d1_39) rfl ?_
  refine Go.land X1 hx (hb hby d1_40) rfl ?_
  refine Go.lstore X1 hx (hb hby d1_41) rfl  #[.val (.long o), .second, .val (.long tk), .second, .val (.long (0 : Int64)), .second, .val (.ref a_DIRECTIONS), .val (.int (4 : Int32)), .val (.int (0 : Int32)), .val (.int (1 : Int32)), .val (.long (((o <<< ((1 : Int32) &&& 0x3f).toInt64)) &&& ((o <<< ((2 : Int32) &&& 0x3f).toInt64)))), .second, .unset, .unset] rfl ?_
  show Go p e below _ T1 (mkF m 43 #[.val (.long o), .second, .val (.long tk), .second, .val (.long (0 : Int64)), .second, .val (.ref a_DIRECTIONS), .val (.int (4 : Int32)), .val (.int (0 : Int32)), .val (.int (1 : Int32)), .val (.long (tb o (1 : Int32) (2 : Int32))), .second, .unset, .unset] [])
  refine Go.lload X1 hx (hb hby d1_43) rfl rfl  ?_
  refine Go.lload X1 hx (hb hby d1_45) rfl rfl  ?_
  refine Go.lloadN X1 hx (hb hby d1_47) rfl rfl  ?_
  refine Go.iconst X1 hx (hb hby d1_48) rfl (3 : Int32) rfl ?_
  refine Go.iload X1 hx (hb hby d1_49) rfl rfl  ?_
  refine Go.imul X1 hx (hb hby d1_51) rfl ?_
  show Go p e below _ T1 (mkF m 52 #[.val (.long o), .second, .val (.long tk), .second, .val (.long (0 : Int64)), .second, .val (.ref a_DIRECTIONS), .val (.int (4 : Int32)), .val (.int (0 : Int32)), .val (.int (1 : Int32)), .val (.long (tb o (1 : Int32) (2 : Int32))), .second, .unset, .unset] [(.int ((3 : Int32) * (1 : Int32))), (.long o), (.long (tb o (1 : Int32) (2 : Int32))), (.long (0 : Int64))])
  rw [show ((3 : Int32) * (1 : Int32)) = (3 : Int32) from by decide]
  refine Go.lshl X1 hx (hb hby d1_52) rfl ?_
  refine Go.land X1 hx (hb hby d1_53) rfl ?_
  refine Go.lor X1 hx (hb hby d1_54) rfl ?_
  refine Go.lstore X1 hx (hb hby d1_55) rfl  #[.val (.long o), .second, .val (.long tk), .second, .val (.long ((0 : Int64) ||| ((tb o (1 : Int32) (2 : Int32)) &&& ((o <<< ((3 : Int32) &&& 0x3f).toInt64))))), .second, .val (.ref a_DIRECTIONS), .val (.int (4 : Int32)), .val (.int (0 : Int32)), .val (.int (1 : Int32)), .val (.long (tb o (1 : Int32) (2 : Int32))), .second, .unset, .unset] rfl ?_
  refine Go.lload X1 hx (hb hby d1_57) rfl rfl  ?_
  refine Go.lload X1 hx (hb hby d1_59) rfl rfl  ?_
  refine Go.lloadN X1 hx (hb hby d1_61) rfl rfl  ?_
  refine Go.iload X1 hx (hb hby d1_62) rfl rfl  ?_
  refine Go.lushr X1 hx (hb hby d1_64) rfl ?_
  refine Go.land X1 hx (hb hby d1_65) rfl ?_
  refine Go.lor X1 hx (hb hby d1_66) rfl ?_
  refine Go.lstore X1 hx (hb hby d1_67) rfl  #[.val (.long o), .second, .val (.long tk), .second, .val (.long (((0 : Int64) ||| ((tb o (1 : Int32) (2 : Int32)) &&& ((o <<< ((3 : Int32) &&& 0x3f).toInt64)))) ||| ((tb o (1 : Int32) (2 : Int32)) &&& (((o).toUInt64 >>> ((1 : Int32) &&& 0x3f).toInt64.toUInt64).toInt64)))), .second, .val (.ref a_DIRECTIONS), .val (.int (4 : Int32)), .val (.int (0 : Int32)), .val (.int (1 : Int32)), .val (.long (tb o (1 : Int32) (2 : Int32))), .second, .unset, .unset] rfl ?_
  refine Go.lloadN X1 hx (hb hby d1_69) rfl rfl  ?_
  refine Go.iload X1 hx (hb hby d1_70) rfl rfl  ?_
  refine Go.lushr X1 hx (hb hby d1_72) rfl ?_
  refine Go.lloadN X1 hx (hb hby d1_73) rfl rfl  ?_
  refine Go.iconst X1 hx (hb hby d1_74) rfl (2 : Int32) rfl ?_
  refine Go.iload X1 hx (hb hby d1_75) rfl rfl  ?_
  refine Go.imul X1 hx (hb hby d1_77) rfl ?_
  show Go p e below _ T1 (mkF m 78 #[.val (.long o), .second, .val (.long tk), .second, .val (.long (((0 : Int64) ||| ((tb o (1 : Int32) (2 : Int32)) &&& ((o <<< ((3 : Int32) &&& 0x3f).toInt64)))) ||| ((tb o (1 : Int32) (2 : Int32)) &&& (((o).toUInt64 >>> ((1 : Int32) &&& 0x3f).toInt64.toUInt64).toInt64)))), .second, .val (.ref a_DIRECTIONS), .val (.int (4 : Int32)), .val (.int (0 : Int32)), .val (.int (1 : Int32)), .val (.long (tb o (1 : Int32) (2 : Int32))), .second, .unset, .unset] [(.int ((2 : Int32) * (1 : Int32))), (.long o), (.long (((o).toUInt64 >>> ((1 : Int32) &&& 0x3f).toInt64.toUInt64).toInt64))])
  rw [show ((2 : Int32) * (1 : Int32)) = (2 : Int32) from by decide]
  refine Go.lushr X1 hx (hb hby d1_78) rfl ?_
  refine Go.land X1 hx (hb hby d1_79) rfl ?_
  refine Go.lstore X1 hx (hb hby d1_80) rfl  #[.val (.long o), .second, .val (.long tk), .second, .val (.long (((0 : Int64) ||| ((tb o (1 : Int32) (2 : Int32)) &&& ((o <<< ((3 : Int32) &&& 0x3f).toInt64)))) ||| ((tb o (1 : Int32) (2 : Int32)) &&& (((o).toUInt64 >>> ((1 : Int32) &&& 0x3f).toInt64.toUInt64).toInt64)))), .second, .val (.ref a_DIRECTIONS), .val (.int (4 : Int32)), .val (.int (0 : Int32)), .val (.int (1 : Int32)), .val (.long (tb o (1 : Int32) (2 : Int32))), .second, .val (.long ((((o).toUInt64 >>> ((1 : Int32) &&& 0x3f).toInt64.toUInt64).toInt64) &&& (((o).toUInt64 >>> ((2 : Int32) &&& 0x3f).toInt64.toUInt64).toInt64))), .second] rfl ?_
  show Go p e below _ T1 (mkF m 82 #[.val (.long o), .second, .val (.long tk), .second, .val (.long (((0 : Int64) ||| ((tb o (1 : Int32) (2 : Int32)) &&& ((o <<< ((3 : Int32) &&& 0x3f).toInt64)))) ||| ((tb o (1 : Int32) (2 : Int32)) &&& (((o).toUInt64 >>> ((1 : Int32) &&& 0x3f).toInt64.toUInt64).toInt64)))), .second, .val (.ref a_DIRECTIONS), .val (.int (4 : Int32)), .val (.int (0 : Int32)), .val (.int (1 : Int32)), .val (.long (tb o (1 : Int32) (2 : Int32))), .second, .val (.long (ta o (1 : Int32) (2 : Int32))), .second] [])
  refine Go.lload X1 hx (hb hby d1_82) rfl rfl  ?_
  refine Go.lload X1 hx (hb hby d1_84) rfl rfl  ?_
  refine Go.lloadN X1 hx (hb hby d1_86) rfl rfl  ?_
  refine Go.iload X1 hx (hb hby d1_87) rfl rfl  ?_
  refine Go.lshl X1 hx (hb hby d1_89) rfl ?_
  refine Go.land X1 hx (hb hby d1_90) rfl ?_
  refine Go.lor X1 hx (hb hby d1_91) rfl ?_
  refine Go.lstore X1 hx (hb hby d1_92) rfl  #[.val (.long o), .second, .val (.long tk), .second, .val (.long ((((0 : Int64) ||| ((tb o (1 : Int32) (2 : Int32)) &&& ((o <<< ((3 : Int32) &&& 0x3f).toInt64)))) ||| ((tb o (1 : Int32) (2 : Int32)) &&& (((o).toUInt64 >>> ((1 : Int32) &&& 0x3f).toInt64.toUInt64).toInt64))) ||| ((ta o (1 : Int32) (2 : Int32)) &&& ((o <<< ((1 : Int32) &&& 0x3f).toInt64))))), .second, .val (.ref a_DIRECTIONS), .val (.int (4 : Int32)), .val (.int (0 : Int32)), .val (.int (1 : Int32)), .val (.long (tb o (1 : Int32) (2 : Int32))), .second, .val (.long (ta o (1 : Int32) (2 : Int32))), .second] rfl ?_
  refine Go.lload X1 hx (hb hby d1_94) rfl rfl  ?_
  refine Go.lload X1 hx (hb hby d1_96) rfl rfl  ?_
  refine Go.lloadN X1 hx (hb hby d1_98) rfl rfl  ?_
  refine Go.iconst X1 hx (hb hby d1_99) rfl (3 : Int32) rfl ?_
  refine Go.iload X1 hx (hb hby d1_100) rfl rfl  ?_
  refine Go.imul X1 hx (hb hby d1_102) rfl ?_
  show Go p e below _ T1 (mkF m 103 #[.val (.long o), .second, .val (.long tk), .second, .val (.long ((((0 : Int64) ||| ((tb o (1 : Int32) (2 : Int32)) &&& ((o <<< ((3 : Int32) &&& 0x3f).toInt64)))) ||| ((tb o (1 : Int32) (2 : Int32)) &&& (((o).toUInt64 >>> ((1 : Int32) &&& 0x3f).toInt64.toUInt64).toInt64))) ||| ((ta o (1 : Int32) (2 : Int32)) &&& ((o <<< ((1 : Int32) &&& 0x3f).toInt64))))), .second, .val (.ref a_DIRECTIONS), .val (.int (4 : Int32)), .val (.int (0 : Int32)), .val (.int (1 : Int32)), .val (.long (tb o (1 : Int32) (2 : Int32))), .second, .val (.long (ta o (1 : Int32) (2 : Int32))), .second] [(.int ((3 : Int32) * (1 : Int32))), (.long o), (.long (ta o (1 : Int32) (2 : Int32))), (.long ((((0 : Int64) ||| ((tb o (1 : Int32) (2 : Int32)) &&& ((o <<< ((3 : Int32) &&& 0x3f).toInt64)))) ||| ((tb o (1 : Int32) (2 : Int32)) &&& (((o).toUInt64 >>> ((1 : Int32) &&& 0x3f).toInt64.toUInt64).toInt64))) ||| ((ta o (1 : Int32) (2 : Int32)) &&& ((o <<< ((1 : Int32) &&& 0x3f).toInt64)))))])
  rw [show ((3 : Int32) * (1 : Int32)) = (3 : Int32) from by decide]
  refine Go.lushr X1 hx (hb hby d1_103) rfl ?_
  refine Go.land X1 hx (hb hby d1_104) rfl ?_
  refine Go.lor X1 hx (hb hby d1_105) rfl ?_
  refine Go.lstore X1 hx (hb hby d1_106) rfl  #[.val (.long o), .second, .val (.long tk), .second, .val (.long (((((0 : Int64) ||| ((tb o (1 : Int32) (2 : Int32)) &&& ((o <<< ((3 : Int32) &&& 0x3f).toInt64)))) ||| ((tb o (1 : Int32) (2 : Int32)) &&& (((o).toUInt64 >>> ((1 : Int32) &&& 0x3f).toInt64.toUInt64).toInt64))) ||| ((ta o (1 : Int32) (2 : Int32)) &&& ((o <<< ((1 : Int32) &&& 0x3f).toInt64)))) ||| ((ta o (1 : Int32) (2 : Int32)) &&& (((o).toUInt64 >>> ((3 : Int32) &&& 0x3f).toInt64.toUInt64).toInt64)))), .second, .val (.ref a_DIRECTIONS), .val (.int (4 : Int32)), .val (.int (0 : Int32)), .val (.int (1 : Int32)), .val (.long (tb o (1 : Int32) (2 : Int32))), .second, .val (.long (ta o (1 : Int32) (2 : Int32))), .second] rfl ?_
  show Go p e below _ T1 (mkF m 108 #[.val (.long o), .second, .val (.long tk), .second, .val (.long (thr o (0 : Int64) (1 : Int32) (2 : Int32) (3 : Int32))), .second, .val (.ref a_DIRECTIONS), .val (.int (4 : Int32)), .val (.int (0 : Int32)), .val (.int (1 : Int32)), .val (.long (tb o (1 : Int32) (2 : Int32))), .second, .val (.long (ta o (1 : Int32) (2 : Int32))), .second] [])
  refine Go.iinc X1 hx (hb hby d1_108) rfl rfl #[.val (.long o), .second, .val (.long tk), .second, .val (.long (thr o (0 : Int64) (1 : Int32) (2 : Int32) (3 : Int32))), .second, .val (.ref a_DIRECTIONS), .val (.int (4 : Int32)), .val (.int ((0 : Int32) + (1 : Int32))), .val (.int (1 : Int32)), .val (.long (tb o (1 : Int32) (2 : Int32))), .second, .val (.long (ta o (1 : Int32) (2 : Int32))), .second] rfl ?_
  show Go p e below _ T1 (mkF m 111 #[.val (.long o), .second, .val (.long tk), .second, .val (.long (thr o (0 : Int64) (1 : Int32) (2 : Int32) (3 : Int32))), .second, .val (.ref a_DIRECTIONS), .val (.int (4 : Int32)), .val (.int ((0 : Int32) + (1 : Int32))), .val (.int (1 : Int32)), .val (.long (tb o (1 : Int32) (2 : Int32))), .second, .val (.long (ta o (1 : Int32) (2 : Int32))), .second] [])
  rw [show ((0 : Int32) + (1 : Int32)) = (1 : Int32) from by decide]
  show Go p e below _ T1 (mkF m 111 #[.val (.long o), .second, .val (.long tk), .second, .val (.long (thr o (0 : Int64) (1 : Int32) (2 : Int32) (3 : Int32))), .second, .val (.ref a_DIRECTIONS), .val (.int (4 : Int32)), .val (.int (1 : Int32)), .val (.int (1 : Int32)), .val (.long (tb o (1 : Int32) (2 : Int32))), .second, .val (.long (ta o (1 : Int32) (2 : Int32))), .second] [])
  refine Go.goto X1 hx (hb hby d1_111) rfl 16 (by decide) (by decide) ?_
  refine Go.iload X1 hx (hb hby d1_16) rfl rfl  ?_
  refine Go.iload X1 hx (hb hby d1_18) rfl rfl  ?_
  refine Go.icmpNo X1 hx (hb hby d1_20) rfl (tlt (by decide : (1 : Int32) < (4 : Int32))).2.1 ?_
  refine Go.aload X1 hx (hb hby d1_23) rfl rfl rfl ?_
  refine Go.iload X1 hx (hb hby d1_25) rfl rfl  ?_
  refine Go.iaload X1 hx hZ (.int (7 : Int32)) (V_DIRECTIONS.ext O0.2) e1  ⟨by decide, by decide⟩ rfl (hb hby d1_27) rfl ?_
  refine Go.istore X1 hx (hb hby d1_28) rfl  #[.val (.long o), .second, .val (.long tk), .second, .val (.long (thr o (0 : Int64) (1 : Int32) (2 : Int32) (3 : Int32))), .second, .val (.ref a_DIRECTIONS), .val (.int (4 : Int32)), .val (.int (1 : Int32)), .val (.int (7 : Int32)), .val (.long (tb o (1 : Int32) (2 : Int32))), .second, .val (.long (ta o (1 : Int32) (2 : Int32))), .second] rfl ?_
  refine Go.lloadN X1 hx (hb hby d1_30) rfl rfl  ?_
  refine Go.iload X1 hx (hb hby d1_31) rfl rfl  ?_
  refine Go.lshl X1 hx (hb hby d1_33) rfl ?_
  refine Go.lloadN X1 hx (hb hby d1_34) rfl rfl  ?_
  refine Go.iconst X1 hx (hb hby d1_35) rfl (2 : Int32) rfl ?_
  refine Go.iload X1 hx (hb hby d1_36) rfl rfl  ?_
  refine Go.imul X1 hx (hb hby d1_38) rfl ?_
  show Go p e below _ T1 (mkF m 39 #[.val (.long o), .second, .val (.long tk), .second, .val (.long (thr o (0 : Int64) (1 : Int32) (2 : Int32) (3 : Int32))), .second, .val (.ref a_DIRECTIONS), .val (.int (4 : Int32)), .val (.int (1 : Int32)), .val (.int (7 : Int32)), .val (.long (tb o (1 : Int32) (2 : Int32))), .second, .val (.long (ta o (1 : Int32) (2 : Int32))), .second] [(.int ((2 : Int32) * (7 : Int32))), (.long o), (.long ((o <<< ((7 : Int32) &&& 0x3f).toInt64)))])
  rw [show ((2 : Int32) * (7 : Int32)) = (14 : Int32) from by decide]
  refine Go.lshl X1 hx (hb hby d1_39) rfl ?_
  refine Go.land X1 hx (hb hby d1_40) rfl ?_
  refine Go.lstore X1 hx (hb hby d1_41) rfl  #[.val (.long o), .second, .val (.long tk), .second, .val (.long (thr o (0 : Int64) (1 : Int32) (2 : Int32) (3 : Int32))), .second, .val (.ref a_DIRECTIONS), .val (.int (4 : Int32)), .val (.int (1 : Int32)), .val (.int (7 : Int32)), .val (.long (((o <<< ((7 : Int32) &&& 0x3f).toInt64)) &&& ((o <<< ((14 : Int32) &&& 0x3f).toInt64)))), .second, .val (.long (ta o (1 : Int32) (2 : Int32))), .second] rfl ?_
  show Go p e below _ T1 (mkF m 43 #[.val (.long o), .second, .val (.long tk), .second, .val (.long (thr o (0 : Int64) (1 : Int32) (2 : Int32) (3 : Int32))), .second, .val (.ref a_DIRECTIONS), .val (.int (4 : Int32)), .val (.int (1 : Int32)), .val (.int (7 : Int32)), .val (.long (tb o (7 : Int32) (14 : Int32))), .second, .val (.long (ta o (1 : Int32) (2 : Int32))), .second] [])
  refine Go.lload X1 hx (hb hby d1_43) rfl rfl  ?_
  refine Go.lload X1 hx (hb hby d1_45) rfl rfl  ?_
  refine Go.lloadN X1 hx (hb hby d1_47) rfl rfl  ?_
  refine Go.iconst X1 hx (hb hby d1_48) rfl (3 : Int32) rfl ?_
  refine Go.iload X1 hx (hb hby d1_49) rfl rfl  ?_
  refine Go.imul X1 hx (hb hby d1_51) rfl ?_
  show Go p e below _ T1 (mkF m 52 #[.val (.long o), .second, .val (.long tk), .second, .val (.long (thr o (0 : Int64) (1 : Int32) (2 : Int32) (3 : Int32))), .second, .val (.ref a_DIRECTIONS), .val (.int (4 : Int32)), .val (.int (1 : Int32)), .val (.int (7 : Int32)), .val (.long (tb o (7 : Int32) (14 : Int32))), .second, .val (.long (ta o (1 : Int32) (2 : Int32))), .second] [(.int ((3 : Int32) * (7 : Int32))), (.long o), (.long (tb o (7 : Int32) (14 : Int32))), (.long (thr o (0 : Int64) (1 : Int32) (2 : Int32) (3 : Int32)))])
  rw [show ((3 : Int32) * (7 : Int32)) = (21 : Int32) from by decide]
  refine Go.lshl X1 hx (hb hby d1_52) rfl ?_
  refine Go.land X1 hx (hb hby d1_53) rfl ?_
  refine Go.lor X1 hx (hb hby d1_54) rfl ?_
  refine Go.lstore X1 hx (hb hby d1_55) rfl  #[.val (.long o), .second, .val (.long tk), .second, .val (.long ((thr o (0 : Int64) (1 : Int32) (2 : Int32) (3 : Int32)) ||| ((tb o (7 : Int32) (14 : Int32)) &&& ((o <<< ((21 : Int32) &&& 0x3f).toInt64))))), .second, .val (.ref a_DIRECTIONS), .val (.int (4 : Int32)), .val (.int (1 : Int32)), .val (.int (7 : Int32)), .val (.long (tb o (7 : Int32) (14 : Int32))), .second, .val (.long (ta o (1 : Int32) (2 : Int32))), .second] rfl ?_
  refine Go.lload X1 hx (hb hby d1_57) rfl rfl  ?_
  refine Go.lload X1 hx (hb hby d1_59) rfl rfl  ?_
  refine Go.lloadN X1 hx (hb hby d1_61) rfl rfl  ?_
  refine Go.iload X1 hx (hb hby d1_62) rfl rfl  ?_
  refine Go.lushr X1 hx (hb hby d1_64) rfl ?_
  refine Go.land X1 hx (hb hby d1_65) rfl ?_
  refine Go.lor X1 hx (hb hby d1_66) rfl ?_
  refine Go.lstore X1 hx (hb hby d1_67) rfl  #[.val (.long o), .second, .val (.long tk), .second, .val (.long (((thr o (0 : Int64) (1 : Int32) (2 : Int32) (3 : Int32)) ||| ((tb o (7 : Int32) (14 : Int32)) &&& ((o <<< ((21 : Int32) &&& 0x3f).toInt64)))) ||| ((tb o (7 : Int32) (14 : Int32)) &&& (((o).toUInt64 >>> ((7 : Int32) &&& 0x3f).toInt64.toUInt64).toInt64)))), .second, .val (.ref a_DIRECTIONS), .val (.int (4 : Int32)), .val (.int (1 : Int32)), .val (.int (7 : Int32)), .val (.long (tb o (7 : Int32) (14 : Int32))), .second, .val (.long (ta o (1 : Int32) (2 : Int32))), .second] rfl ?_
  refine Go.lloadN X1 hx (hb hby d1_69) rfl rfl  ?_
  refine Go.iload X1 hx (hb hby d1_70) rfl rfl  ?_
  refine Go.lushr X1 hx (hb hby d1_72) rfl ?_
  refine Go.lloadN X1 hx (hb hby d1_73) rfl rfl  ?_
  refine Go.iconst X1 hx (hb hby d1_74) rfl (2 : Int32) rfl ?_
  refine Go.iload X1 hx (hb hby d1_75) rfl rfl  ?_
  refine Go.imul X1 hx (hb hby d1_77) rfl ?_
  show Go p e below _ T1 (mkF m 78 #[.val (.long o), .second, .val (.long tk), .second, .val (.long (((thr o (0 : Int64) (1 : Int32) (2 : Int32) (3 : Int32)) ||| ((tb o (7 : Int32) (14 : Int32)) &&& ((o <<< ((21 : Int32) &&& 0x3f).toInt64)))) ||| ((tb o (7 : Int32) (14 : Int32)) &&& (((o).toUInt64 >>> ((7 : Int32) &&& 0x3f).toInt64.toUInt64).toInt64)))), .second, .val (.ref a_DIRECTIONS), .val (.int (4 : Int32)), .val (.int (1 : Int32)), .val (.int (7 : Int32)), .val (.long (tb o (7 : Int32) (14 : Int32))), .second, .val (.long (ta o (1 : Int32) (2 : Int32))), .second] [(.int ((2 : Int32) * (7 : Int32))), (.long o), (.long (((o).toUInt64 >>> ((7 : Int32) &&& 0x3f).toInt64.toUInt64).toInt64))])
  rw [show ((2 : Int32) * (7 : Int32)) = (14 : Int32) from by decide]
  refine Go.lushr X1 hx (hb hby d1_78) rfl ?_
  refine Go.land X1 hx (hb hby d1_79) rfl ?_
  refine Go.lstore X1 hx (hb hby d1_80) rfl  #[.val (.long o), .second, .val (.long tk), .second, .val (.long (((thr o (0 : Int64) (1 : Int32) (2 : Int32) (3 : Int32)) ||| ((tb o (7 : Int32) (14 : Int32)) &&& ((o <<< ((21 : Int32) &&& 0x3f).toInt64)))) ||| ((tb o (7 : Int32) (14 : Int32)) &&& (((o).toUInt64 >>> ((7 : Int32) &&& 0x3f).toInt64.toUInt64).toInt64)))), .second, .val (.ref a_DIRECTIONS), .val (.int (4 : Int32)), .val (.int (1 : Int32)), .val (.int (7 : Int32)), .val (.long (tb o (7 : Int32) (14 : Int32))), .second, .val (.long ((((o).toUInt64 >>> ((7 : Int32) &&& 0x3f).toInt64.toUInt64).toInt64) &&& (((o).toUInt64 >>> ((14 : Int32) &&& 0x3f).toInt64.toUInt64).toInt64))), .second] rfl ?_
  show Go p e below _ T1 (mkF m 82 #[.val (.long o), .second, .val (.long tk), .second, .val (.long (((thr o (0 : Int64) (1 : Int32) (2 : Int32) (3 : Int32)) ||| ((tb o (7 : Int32) (14 : Int32)) &&& ((o <<< ((21 : Int32) &&& 0x3f).toInt64)))) ||| ((tb o (7 : Int32) (14 : Int32)) &&& (((o).toUInt64 >>> ((7 : Int32) &&& 0x3f).toInt64.toUInt64).toInt64)))), .second, .val (.ref a_DIRECTIONS), .val (.int (4 : Int32)), .val (.int (1 : Int32)), .val (.int (7 : Int32)), .val (.long (tb o (7 : Int32) (14 : Int32))), .second, .val (.long (ta o (7 : Int32) (14 : Int32))), .second] [])
  refine Go.lload X1 hx (hb hby d1_82) rfl rfl  ?_
  refine Go.lload X1 hx (hb hby d1_84) rfl rfl  ?_
  refine Go.lloadN X1 hx (hb hby d1_86) rfl rfl  ?_
  refine Go.iload X1 hx (hb hby d1_87) rfl rfl  ?_
  refine Go.lshl X1 hx (hb hby d1_89) rfl ?_
  refine Go.land X1 hx (hb hby d1_90) rfl ?_
  refine Go.lor X1 hx (hb hby d1_91) rfl ?_
  refine Go.lstore X1 hx (hb hby d1_92) rfl  #[.val (.long o), .second, .val (.long tk), .second, .val (.long ((((thr o (0 : Int64) (1 : Int32) (2 : Int32) (3 : Int32)) ||| ((tb o (7 : Int32) (14 : Int32)) &&& ((o <<< ((21 : Int32) &&& 0x3f).toInt64)))) ||| ((tb o (7 : Int32) (14 : Int32)) &&& (((o).toUInt64 >>> ((7 : Int32) &&& 0x3f).toInt64.toUInt64).toInt64))) ||| ((ta o (7 : Int32) (14 : Int32)) &&& ((o <<< ((7 : Int32) &&& 0x3f).toInt64))))), .second, .val (.ref a_DIRECTIONS), .val (.int (4 : Int32)), .val (.int (1 : Int32)), .val (.int (7 : Int32)), .val (.long (tb o (7 : Int32) (14 : Int32))), .second, .val (.long (ta o (7 : Int32) (14 : Int32))), .second] rfl ?_
  refine Go.lload X1 hx (hb hby d1_94) rfl rfl  ?_
  refine Go.lload X1 hx (hb hby d1_96) rfl rfl  ?_
  refine Go.lloadN X1 hx (hb hby d1_98) rfl rfl  ?_
  refine Go.iconst X1 hx (hb hby d1_99) rfl (3 : Int32) rfl ?_
  refine Go.iload X1 hx (hb hby d1_100) rfl rfl  ?_
  refine Go.imul X1 hx (hb hby d1_102) rfl ?_
  show Go p e below _ T1 (mkF m 103 #[.val (.long o), .second, .val (.long tk), .second, .val (.long ((((thr o (0 : Int64) (1 : Int32) (2 : Int32) (3 : Int32)) ||| ((tb o (7 : Int32) (14 : Int32)) &&& ((o <<< ((21 : Int32) &&& 0x3f).toInt64)))) ||| ((tb o (7 : Int32) (14 : Int32)) &&& (((o).toUInt64 >>> ((7 : Int32) &&& 0x3f).toInt64.toUInt64).toInt64))) ||| ((ta o (7 : Int32) (14 : Int32)) &&& ((o <<< ((7 : Int32) &&& 0x3f).toInt64))))), .second, .val (.ref a_DIRECTIONS), .val (.int (4 : Int32)), .val (.int (1 : Int32)), .val (.int (7 : Int32)), .val (.long (tb o (7 : Int32) (14 : Int32))), .second, .val (.long (ta o (7 : Int32) (14 : Int32))), .second] [(.int ((3 : Int32) * (7 : Int32))), (.long o), (.long (ta o (7 : Int32) (14 : Int32))), (.long ((((thr o (0 : Int64) (1 : Int32) (2 : Int32) (3 : Int32)) ||| ((tb o (7 : Int32) (14 : Int32)) &&& ((o <<< ((21 : Int32) &&& 0x3f).toInt64)))) ||| ((tb o (7 : Int32) (14 : Int32)) &&& (((o).toUInt64 >>> ((7 : Int32) &&& 0x3f).toInt64.toUInt64).toInt64))) ||| ((ta o (7 : Int32) (14 : Int32)) &&& ((o <<< ((7 : Int32) &&& 0x3f).toInt64)))))])
  rw [show ((3 : Int32) * (7 : Int32)) = (21 : Int32) from by decide]
  refine Go.lushr X1 hx (hb hby d1_103) rfl ?_
  refine Go.land X1 hx (hb hby d1_104) rfl ?_
  refine Go.lor X1 hx (hb hby d1_105) rfl ?_
  refine Go.lstore X1 hx (hb hby d1_106) rfl  #[.val (.long o), .second, .val (.long tk), .second, .val (.long (((((thr o (0 : Int64) (1 : Int32) (2 : Int32) (3 : Int32)) ||| ((tb o (7 : Int32) (14 : Int32)) &&& ((o <<< ((21 : Int32) &&& 0x3f).toInt64)))) ||| ((tb o (7 : Int32) (14 : Int32)) &&& (((o).toUInt64 >>> ((7 : Int32) &&& 0x3f).toInt64.toUInt64).toInt64))) ||| ((ta o (7 : Int32) (14 : Int32)) &&& ((o <<< ((7 : Int32) &&& 0x3f).toInt64)))) ||| ((ta o (7 : Int32) (14 : Int32)) &&& (((o).toUInt64 >>> ((21 : Int32) &&& 0x3f).toInt64.toUInt64).toInt64)))), .second, .val (.ref a_DIRECTIONS), .val (.int (4 : Int32)), .val (.int (1 : Int32)), .val (.int (7 : Int32)), .val (.long (tb o (7 : Int32) (14 : Int32))), .second, .val (.long (ta o (7 : Int32) (14 : Int32))), .second] rfl ?_
  show Go p e below _ T1 (mkF m 108 #[.val (.long o), .second, .val (.long tk), .second, .val (.long (thr o (thr o (0 : Int64) (1 : Int32) (2 : Int32) (3 : Int32)) (7 : Int32) (14 : Int32) (21 : Int32))), .second, .val (.ref a_DIRECTIONS), .val (.int (4 : Int32)), .val (.int (1 : Int32)), .val (.int (7 : Int32)), .val (.long (tb o (7 : Int32) (14 : Int32))), .second, .val (.long (ta o (7 : Int32) (14 : Int32))), .second] [])
  refine Go.iinc X1 hx (hb hby d1_108) rfl rfl #[.val (.long o), .second, .val (.long tk), .second, .val (.long (thr o (thr o (0 : Int64) (1 : Int32) (2 : Int32) (3 : Int32)) (7 : Int32) (14 : Int32) (21 : Int32))), .second, .val (.ref a_DIRECTIONS), .val (.int (4 : Int32)), .val (.int ((1 : Int32) + (1 : Int32))), .val (.int (7 : Int32)), .val (.long (tb o (7 : Int32) (14 : Int32))), .second, .val (.long (ta o (7 : Int32) (14 : Int32))), .second] rfl ?_
  show Go p e below _ T1 (mkF m 111 #[.val (.long o), .second, .val (.long tk), .second, .val (.long (thr o (thr o (0 : Int64) (1 : Int32) (2 : Int32) (3 : Int32)) (7 : Int32) (14 : Int32) (21 : Int32))), .second, .val (.ref a_DIRECTIONS), .val (.int (4 : Int32)), .val (.int ((1 : Int32) + (1 : Int32))), .val (.int (7 : Int32)), .val (.long (tb o (7 : Int32) (14 : Int32))), .second, .val (.long (ta o (7 : Int32) (14 : Int32))), .second] [])
  rw [show ((1 : Int32) + (1 : Int32)) = (2 : Int32) from by decide]
  show Go p e below _ T1 (mkF m 111 #[.val (.long o), .second, .val (.long tk), .second, .val (.long (thr o (thr o (0 : Int64) (1 : Int32) (2 : Int32) (3 : Int32)) (7 : Int32) (14 : Int32) (21 : Int32))), .second, .val (.ref a_DIRECTIONS), .val (.int (4 : Int32)), .val (.int (2 : Int32)), .val (.int (7 : Int32)), .val (.long (tb o (7 : Int32) (14 : Int32))), .second, .val (.long (ta o (7 : Int32) (14 : Int32))), .second] [])
  refine Go.goto X1 hx (hb hby d1_111) rfl 16 (by decide) (by decide) ?_
  refine Go.iload X1 hx (hb hby d1_16) rfl rfl  ?_
  refine Go.iload X1 hx (hb hby d1_18) rfl rfl  ?_
  refine Go.icmpNo X1 hx (hb hby d1_20) rfl (tlt (by decide : (2 : Int32) < (4 : Int32))).2.1 ?_
  refine Go.aload X1 hx (hb hby d1_23) rfl rfl rfl ?_
  refine Go.iload X1 hx (hb hby d1_25) rfl rfl  ?_
  refine Go.iaload X1 hx hZ (.int (8 : Int32)) (V_DIRECTIONS.ext O0.2) e1  ⟨by decide, by decide⟩ rfl (hb hby d1_27) rfl ?_
  refine Go.istore X1 hx (hb hby d1_28) rfl  #[.val (.long o), .second, .val (.long tk), .second, .val (.long (thr o (thr o (0 : Int64) (1 : Int32) (2 : Int32) (3 : Int32)) (7 : Int32) (14 : Int32) (21 : Int32))), .second, .val (.ref a_DIRECTIONS), .val (.int (4 : Int32)), .val (.int (2 : Int32)), .val (.int (8 : Int32)), .val (.long (tb o (7 : Int32) (14 : Int32))), .second, .val (.long (ta o (7 : Int32) (14 : Int32))), .second] rfl ?_
  refine Go.lloadN X1 hx (hb hby d1_30) rfl rfl  ?_
  refine Go.iload X1 hx (hb hby d1_31) rfl rfl  ?_
  refine Go.lshl X1 hx (hb hby d1_33) rfl ?_
  refine Go.lloadN X1 hx (hb hby d1_34) rfl rfl  ?_
  refine Go.iconst X1 hx (hb hby d1_35) rfl (2 : Int32) rfl ?_
  refine Go.iload X1 hx (hb hby d1_36) rfl rfl  ?_
  refine Go.imul X1 hx (hb hby d1_38) rfl ?_
  show Go p e below _ T1 (mkF m 39 #[.val (.long o), .second, .val (.long tk), .second, .val (.long (thr o (thr o (0 : Int64) (1 : Int32) (2 : Int32) (3 : Int32)) (7 : Int32) (14 : Int32) (21 : Int32))), .second, .val (.ref a_DIRECTIONS), .val (.int (4 : Int32)), .val (.int (2 : Int32)), .val (.int (8 : Int32)), .val (.long (tb o (7 : Int32) (14 : Int32))), .second, .val (.long (ta o (7 : Int32) (14 : Int32))), .second] [(.int ((2 : Int32) * (8 : Int32))), (.long o), (.long ((o <<< ((8 : Int32) &&& 0x3f).toInt64)))])
  rw [show ((2 : Int32) * (8 : Int32)) = (16 : Int32) from by decide]
  refine Go.lshl X1 hx (hb hby d1_39) rfl ?_
  refine Go.land X1 hx (hb hby d1_40) rfl ?_
  refine Go.lstore X1 hx (hb hby d1_41) rfl  #[.val (.long o), .second, .val (.long tk), .second, .val (.long (thr o (thr o (0 : Int64) (1 : Int32) (2 : Int32) (3 : Int32)) (7 : Int32) (14 : Int32) (21 : Int32))), .second, .val (.ref a_DIRECTIONS), .val (.int (4 : Int32)), .val (.int (2 : Int32)), .val (.int (8 : Int32)), .val (.long (((o <<< ((8 : Int32) &&& 0x3f).toInt64)) &&& ((o <<< ((16 : Int32) &&& 0x3f).toInt64)))), .second, .val (.long (ta o (7 : Int32) (14 : Int32))), .second] rfl ?_
  show Go p e below _ T1 (mkF m 43 #[.val (.long o), .second, .val (.long tk), .second, .val (.long (thr o (thr o (0 : Int64) (1 : Int32) (2 : Int32) (3 : Int32)) (7 : Int32) (14 : Int32) (21 : Int32))), .second, .val (.ref a_DIRECTIONS), .val (.int (4 : Int32)), .val (.int (2 : Int32)), .val (.int (8 : Int32)), .val (.long (tb o (8 : Int32) (16 : Int32))), .second, .val (.long (ta o (7 : Int32) (14 : Int32))), .second] [])
  refine Go.lload X1 hx (hb hby d1_43) rfl rfl  ?_
  refine Go.lload X1 hx (hb hby d1_45) rfl rfl  ?_
  refine Go.lloadN X1 hx (hb hby d1_47) rfl rfl  ?_
  refine Go.iconst X1 hx (hb hby d1_48) rfl (3 : Int32) rfl ?_
  refine Go.iload X1 hx (hb hby d1_49) rfl rfl  ?_
  refine Go.imul X1 hx (hb hby d1_51) rfl ?_
  show Go p e below _ T1 (mkF m 52 #[.val (.long o), .second, .val (.long tk), .second, .val (.long (thr o (thr o (0 : Int64) (1 : Int32) (2 : Int32) (3 : Int32)) (7 : Int32) (14 : Int32) (21 : Int32))), .second, .val (.ref a_DIRECTIONS), .val (.int (4 : Int32)), .val (.int (2 : Int32)), .val (.int (8 : Int32)), .val (.long (tb o (8 : Int32) (16 : Int32))), .second, .val (.long (ta o (7 : Int32) (14 : Int32))), .second] [(.int ((3 : Int32) * (8 : Int32))), (.long o), (.long (tb o (8 : Int32) (16 : Int32))), (.long (thr o (thr o (0 : Int64) (1 : Int32) (2 : Int32) (3 : Int32)) (7 : Int32) (14 : Int32) (21 : Int32)))])
  rw [show ((3 : Int32) * (8 : Int32)) = (24 : Int32) from by decide]
  refine Go.lshl X1 hx (hb hby d1_52) rfl ?_
  refine Go.land X1 hx (hb hby d1_53) rfl ?_
  refine Go.lor X1 hx (hb hby d1_54) rfl ?_
  refine Go.lstore X1 hx (hb hby d1_55) rfl  #[.val (.long o), .second, .val (.long tk), .second, .val (.long ((thr o (thr o (0 : Int64) (1 : Int32) (2 : Int32) (3 : Int32)) (7 : Int32) (14 : Int32) (21 : Int32)) ||| ((tb o (8 : Int32) (16 : Int32)) &&& ((o <<< ((24 : Int32) &&& 0x3f).toInt64))))), .second, .val (.ref a_DIRECTIONS), .val (.int (4 : Int32)), .val (.int (2 : Int32)), .val (.int (8 : Int32)), .val (.long (tb o (8 : Int32) (16 : Int32))), .second, .val (.long (ta o (7 : Int32) (14 : Int32))), .second] rfl ?_
  refine Go.lload X1 hx (hb hby d1_57) rfl rfl  ?_
  refine Go.lload X1 hx (hb hby d1_59) rfl rfl  ?_
  refine Go.lloadN X1 hx (hb hby d1_61) rfl rfl  ?_
  refine Go.iload X1 hx (hb hby d1_62) rfl rfl  ?_
  refine Go.lushr X1 hx (hb hby d1_64) rfl ?_
  refine Go.land X1 hx (hb hby d1_65) rfl ?_
  refine Go.lor X1 hx (hb hby d1_66) rfl ?_
  refine Go.lstore X1 hx (hb hby d1_67) rfl  #[.val (.long o), .second, .val (.long tk), .second, .val (.long (((thr o (thr o (0 : Int64) (1 : Int32) (2 : Int32) (3 : Int32)) (7 : Int32) (14 : Int32) (21 : Int32)) ||| ((tb o (8 : Int32) (16 : Int32)) &&& ((o <<< ((24 : Int32) &&& 0x3f).toInt64)))) ||| ((tb o (8 : Int32) (16 : Int32)) &&& (((o).toUInt64 >>> ((8 : Int32) &&& 0x3f).toInt64.toUInt64).toInt64)))), .second, .val (.ref a_DIRECTIONS), .val (.int (4 : Int32)), .val (.int (2 : Int32)), .val (.int (8 : Int32)), .val (.long (tb o (8 : Int32) (16 : Int32))), .second, .val (.long (ta o (7 : Int32) (14 : Int32))), .second] rfl ?_
  refine Go.lloadN X1 hx (hb hby d1_69) rfl rfl  ?_
  refine Go.iload X1 hx (hb hby d1_70) rfl rfl  ?_
  refine Go.lushr X1 hx (hb hby d1_72) rfl ?_
  refine Go.lloadN X1 hx (hb hby d1_73) rfl rfl  ?_
  refine Go.iconst X1 hx (hb hby d1_74) rfl (2 : Int32) rfl ?_
  refine Go.iload X1 hx (hb hby d1_75) rfl rfl  ?_
  refine Go.imul X1 hx (hb hby d1_77) rfl ?_
  show Go p e below _ T1 (mkF m 78 #[.val (.long o), .second, .val (.long tk), .second, .val (.long (((thr o (thr o (0 : Int64) (1 : Int32) (2 : Int32) (3 : Int32)) (7 : Int32) (14 : Int32) (21 : Int32)) ||| ((tb o (8 : Int32) (16 : Int32)) &&& ((o <<< ((24 : Int32) &&& 0x3f).toInt64)))) ||| ((tb o (8 : Int32) (16 : Int32)) &&& (((o).toUInt64 >>> ((8 : Int32) &&& 0x3f).toInt64.toUInt64).toInt64)))), .second, .val (.ref a_DIRECTIONS), .val (.int (4 : Int32)), .val (.int (2 : Int32)), .val (.int (8 : Int32)), .val (.long (tb o (8 : Int32) (16 : Int32))), .second, .val (.long (ta o (7 : Int32) (14 : Int32))), .second] [(.int ((2 : Int32) * (8 : Int32))), (.long o), (.long (((o).toUInt64 >>> ((8 : Int32) &&& 0x3f).toInt64.toUInt64).toInt64))])
  rw [show ((2 : Int32) * (8 : Int32)) = (16 : Int32) from by decide]
  refine Go.lushr X1 hx (hb hby d1_78) rfl ?_
  refine Go.land X1 hx (hb hby d1_79) rfl ?_
  refine Go.lstore X1 hx (hb hby d1_80) rfl  #[.val (.long o), .second, .val (.long tk), .second, .val (.long (((thr o (thr o (0 : Int64) (1 : Int32) (2 : Int32) (3 : Int32)) (7 : Int32) (14 : Int32) (21 : Int32)) ||| ((tb o (8 : Int32) (16 : Int32)) &&& ((o <<< ((24 : Int32) &&& 0x3f).toInt64)))) ||| ((tb o (8 : Int32) (16 : Int32)) &&& (((o).toUInt64 >>> ((8 : Int32) &&& 0x3f).toInt64.toUInt64).toInt64)))), .second, .val (.ref a_DIRECTIONS), .val (.int (4 : Int32)), .val (.int (2 : Int32)), .val (.int (8 : Int32)), .val (.long (tb o (8 : Int32) (16 : Int32))), .second, .val (.long ((((o).toUInt64 >>> ((8 : Int32) &&& 0x3f).toInt64.toUInt64).toInt64) &&& (((o).toUInt64 >>> ((16 : Int32) &&& 0x3f).toInt64.toUInt64).toInt64))), .second] rfl ?_
  show Go p e below _ T1 (mkF m 82 #[.val (.long o), .second, .val (.long tk), .second, .val (.long (((thr o (thr o (0 : Int64) (1 : Int32) (2 : Int32) (3 : Int32)) (7 : Int32) (14 : Int32) (21 : Int32)) ||| ((tb o (8 : Int32) (16 : Int32)) &&& ((o <<< ((24 : Int32) &&& 0x3f).toInt64)))) ||| ((tb o (8 : Int32) (16 : Int32)) &&& (((o).toUInt64 >>> ((8 : Int32) &&& 0x3f).toInt64.toUInt64).toInt64)))), .second, .val (.ref a_DIRECTIONS), .val (.int (4 : Int32)), .val (.int (2 : Int32)), .val (.int (8 : Int32)), .val (.long (tb o (8 : Int32) (16 : Int32))), .second, .val (.long (ta o (8 : Int32) (16 : Int32))), .second] [])
  refine Go.lload X1 hx (hb hby d1_82) rfl rfl  ?_
  refine Go.lload X1 hx (hb hby d1_84) rfl rfl  ?_
  refine Go.lloadN X1 hx (hb hby d1_86) rfl rfl  ?_
  refine Go.iload X1 hx (hb hby d1_87) rfl rfl  ?_
  refine Go.lshl X1 hx (hb hby d1_89) rfl ?_
  refine Go.land X1 hx (hb hby d1_90) rfl ?_
  refine Go.lor X1 hx (hb hby d1_91) rfl ?_
  refine Go.lstore X1 hx (hb hby d1_92) rfl  #[.val (.long o), .second, .val (.long tk), .second, .val (.long ((((thr o (thr o (0 : Int64) (1 : Int32) (2 : Int32) (3 : Int32)) (7 : Int32) (14 : Int32) (21 : Int32)) ||| ((tb o (8 : Int32) (16 : Int32)) &&& ((o <<< ((24 : Int32) &&& 0x3f).toInt64)))) ||| ((tb o (8 : Int32) (16 : Int32)) &&& (((o).toUInt64 >>> ((8 : Int32) &&& 0x3f).toInt64.toUInt64).toInt64))) ||| ((ta o (8 : Int32) (16 : Int32)) &&& ((o <<< ((8 : Int32) &&& 0x3f).toInt64))))), .second, .val (.ref a_DIRECTIONS), .val (.int (4 : Int32)), .val (.int (2 : Int32)), .val (.int (8 : Int32)), .val (.long (tb o (8 : Int32) (16 : Int32))), .second, .val (.long (ta o (8 : Int32) (16 : Int32))), .second] rfl ?_
  refine Go.lload X1 hx (hb hby d1_94) rfl rfl  ?_
  refine Go.lload X1 hx (hb hby d1_96) rfl rfl  ?_
  refine Go.lloadN X1 hx (hb hby d1_98) rfl rfl  ?_
  refine Go.iconst X1 hx (hb hby d1_99) rfl (3 : Int32) rfl ?_
  refine Go.iload X1 hx (hb hby d1_100) rfl rfl  ?_
  refine Go.imul X1 hx (hb hby d1_102) rfl ?_
  show Go p e below _ T1 (mkF m 103 #[.val (.long o), .second, .val (.long tk), .second, .val (.long ((((thr o (thr o (0 : Int64) (1 : Int32) (2 : Int32) (3 : Int32)) (7 : Int32) (14 : Int32) (21 : Int32)) ||| ((tb o (8 : Int32) (16 : Int32)) &&& ((o <<< ((24 : Int32) &&& 0x3f).toInt64)))) ||| ((tb o (8 : Int32) (16 : Int32)) &&& (((o).toUInt64 >>> ((8 : Int32) &&& 0x3f).toInt64.toUInt64).toInt64))) ||| ((ta o (8 : Int32) (16 : Int32)) &&& ((o <<< ((8 : Int32) &&& 0x3f).toInt64))))), .second, .val (.ref a_DIRECTIONS), .val (.int (4 : Int32)), .val (.int (2 : Int32)), .val (.int (8 : Int32)), .val (.long (tb o (8 : Int32) (16 : Int32))), .second, .val (.long (ta o (8 : Int32) (16 : Int32))), .second] [(.int ((3 : Int32) * (8 : Int32))), (.long o), (.long (ta o (8 : Int32) (16 : Int32))), (.long ((((thr o (thr o (0 : Int64) (1 : Int32) (2 : Int32) (3 : Int32)) (7 : Int32) (14 : Int32) (21 : Int32)) ||| ((tb o (8 : Int32) (16 : Int32)) &&& ((o <<< ((24 : Int32) &&& 0x3f).toInt64)))) ||| ((tb o (8 : Int32) (16 : Int32)) &&& (((o).toUInt64 >>> ((8 : Int32) &&& 0x3f).toInt64.toUInt64).toInt64))) ||| ((ta o (8 : Int32) (16 : Int32)) &&& ((o <<< ((8 : Int32) &&& 0x3f).toInt64)))))])
  rw [show ((3 : Int32) * (8 : Int32)) = (24 : Int32) from by decide]
  refine Go.lushr X1 hx (hb hby d1_103) rfl ?_
  refine Go.land X1 hx (hb hby d1_104) rfl ?_
  refine Go.lor X1 hx (hb hby d1_105) rfl ?_
  refine Go.lstore X1 hx (hb hby d1_106) rfl  #[.val (.long o), .second, .val (.long tk), .second, .val (.long (((((thr o (thr o (0 : Int64) (1 : Int32) (2 : Int32) (3 : Int32)) (7 : Int32) (14 : Int32) (21 : Int32)) ||| ((tb o (8 : Int32) (16 : Int32)) &&& ((o <<< ((24 : Int32) &&& 0x3f).toInt64)))) ||| ((tb o (8 : Int32) (16 : Int32)) &&& (((o).toUInt64 >>> ((8 : Int32) &&& 0x3f).toInt64.toUInt64).toInt64))) ||| ((ta o (8 : Int32) (16 : Int32)) &&& ((o <<< ((8 : Int32) &&& 0x3f).toInt64)))) ||| ((ta o (8 : Int32) (16 : Int32)) &&& (((o).toUInt64 >>> ((24 : Int32) &&& 0x3f).toInt64.toUInt64).toInt64)))), .second, .val (.ref a_DIRECTIONS), .val (.int (4 : Int32)), .val (.int (2 : Int32)), .val (.int (8 : Int32)), .val (.long (tb o (8 : Int32) (16 : Int32))), .second, .val (.long (ta o (8 : Int32) (16 : Int32))), .second] rfl ?_
  show Go p e below _ T1 (mkF m 108 #[.val (.long o), .second, .val (.long tk), .second, .val (.long (thr o (thr o (thr o (0 : Int64) (1 : Int32) (2 : Int32) (3 : Int32)) (7 : Int32) (14 : Int32) (21 : Int32)) (8 : Int32) (16 : Int32) (24 : Int32))), .second, .val (.ref a_DIRECTIONS), .val (.int (4 : Int32)), .val (.int (2 : Int32)), .val (.int (8 : Int32)), .val (.long (tb o (8 : Int32) (16 : Int32))), .second, .val (.long (ta o (8 : Int32) (16 : Int32))), .second] [])
  refine Go.iinc X1 hx (hb hby d1_108) rfl rfl #[.val (.long o), .second, .val (.long tk), .second, .val (.long (thr o (thr o (thr o (0 : Int64) (1 : Int32) (2 : Int32) (3 : Int32)) (7 : Int32) (14 : Int32) (21 : Int32)) (8 : Int32) (16 : Int32) (24 : Int32))), .second, .val (.ref a_DIRECTIONS), .val (.int (4 : Int32)), .val (.int ((2 : Int32) + (1 : Int32))), .val (.int (8 : Int32)), .val (.long (tb o (8 : Int32) (16 : Int32))), .second, .val (.long (ta o (8 : Int32) (16 : Int32))), .second] rfl ?_
  show Go p e below _ T1 (mkF m 111 #[.val (.long o), .second, .val (.long tk), .second, .val (.long (thr o (thr o (thr o (0 : Int64) (1 : Int32) (2 : Int32) (3 : Int32)) (7 : Int32) (14 : Int32) (21 : Int32)) (8 : Int32) (16 : Int32) (24 : Int32))), .second, .val (.ref a_DIRECTIONS), .val (.int (4 : Int32)), .val (.int ((2 : Int32) + (1 : Int32))), .val (.int (8 : Int32)), .val (.long (tb o (8 : Int32) (16 : Int32))), .second, .val (.long (ta o (8 : Int32) (16 : Int32))), .second] [])
  rw [show ((2 : Int32) + (1 : Int32)) = (3 : Int32) from by decide]
  show Go p e below _ T1 (mkF m 111 #[.val (.long o), .second, .val (.long tk), .second, .val (.long (thr o (thr o (thr o (0 : Int64) (1 : Int32) (2 : Int32) (3 : Int32)) (7 : Int32) (14 : Int32) (21 : Int32)) (8 : Int32) (16 : Int32) (24 : Int32))), .second, .val (.ref a_DIRECTIONS), .val (.int (4 : Int32)), .val (.int (3 : Int32)), .val (.int (8 : Int32)), .val (.long (tb o (8 : Int32) (16 : Int32))), .second, .val (.long (ta o (8 : Int32) (16 : Int32))), .second] [])
  refine Go.goto X1 hx (hb hby d1_111) rfl 16 (by decide) (by decide) ?_
  refine Go.iload X1 hx (hb hby d1_16) rfl rfl  ?_
  refine Go.iload X1 hx (hb hby d1_18) rfl rfl  ?_
  refine Go.icmpNo X1 hx (hb hby d1_20) rfl (tlt (by decide : (3 : Int32) < (4 : Int32))).2.1 ?_
  refine Go.aload X1 hx (hb hby d1_23) rfl rfl rfl ?_
  refine Go.iload X1 hx (hb hby d1_25) rfl rfl  ?_
  refine Go.iaload X1 hx hZ (.int (6 : Int32)) (V_DIRECTIONS.ext O0.2) e1  ⟨by decide, by decide⟩ rfl (hb hby d1_27) rfl ?_
  refine Go.istore X1 hx (hb hby d1_28) rfl  #[.val (.long o), .second, .val (.long tk), .second, .val (.long (thr o (thr o (thr o (0 : Int64) (1 : Int32) (2 : Int32) (3 : Int32)) (7 : Int32) (14 : Int32) (21 : Int32)) (8 : Int32) (16 : Int32) (24 : Int32))), .second, .val (.ref a_DIRECTIONS), .val (.int (4 : Int32)), .val (.int (3 : Int32)), .val (.int (6 : Int32)), .val (.long (tb o (8 : Int32) (16 : Int32))), .second, .val (.long (ta o (8 : Int32) (16 : Int32))), .second] rfl ?_
  refine Go.lloadN X1 hx (hb hby d1_30) rfl rfl  ?_
  refine Go.iload X1 hx (hb hby d1_31) rfl rfl  ?_
  refine Go.lshl X1 hx (hb hby d1_33) rfl ?_
  refine Go.lloadN X1 hx (hb hby d1_34) rfl rfl  ?_
  refine Go.iconst X1 hx (hb hby d1_35) rfl (2 : Int32) rfl ?_
  refine Go.iload X1 hx (hb hby d1_36) rfl rfl  ?_
  refine Go.imul X1 hx (hb hby d1_38) rfl ?_
  show Go p e below _ T1 (mkF m 39 #[.val (.long o), .second, .val (.long tk), .second, .val (.long (thr o (thr o (thr o (0 : Int64) (1 : Int32) (2 : Int32) (3 : Int32)) (7 : Int32) (14 : Int32) (21 : Int32)) (8 : Int32) (16 : Int32) (24 : Int32))), .second, .val (.ref a_DIRECTIONS), .val (.int (4 : Int32)), .val (.int (3 : Int32)), .val (.int (6 : Int32)), .val (.long (tb o (8 : Int32) (16 : Int32))), .second, .val (.long (ta o (8 : Int32) (16 : Int32))), .second] [(.int ((2 : Int32) * (6 : Int32))), (.long o), (.long ((o <<< ((6 : Int32) &&& 0x3f).toInt64)))])
  rw [show ((2 : Int32) * (6 : Int32)) = (12 : Int32) from by decide]
  refine Go.lshl X1 hx (hb hby d1_39) rfl ?_
  refine Go.land X1 hx (hb hby d1_40) rfl ?_
  refine Go.lstore X1 hx (hb hby d1_41) rfl  #[.val (.long o), .second, .val (.long tk), .second, .val (.long (thr o (thr o (thr o (0 : Int64) (1 : Int32) (2 : Int32) (3 : Int32)) (7 : Int32) (14 : Int32) (21 : Int32)) (8 : Int32) (16 : Int32) (24 : Int32))), .second, .val (.ref a_DIRECTIONS), .val (.int (4 : Int32)), .val (.int (3 : Int32)), .val (.int (6 : Int32)), .val (.long (((o <<< ((6 : Int32) &&& 0x3f).toInt64)) &&& ((o <<< ((12 : Int32) &&& 0x3f).toInt64)))), .second, .val (.long (ta o (8 : Int32) (16 : Int32))), .second] rfl ?_
  show Go p e below _ T1 (mkF m 43 #[.val (.long o), .second, .val (.long tk), .second, .val (.long (thr o (thr o (thr o (0 : Int64) (1 : Int32) (2 : Int32) (3 : Int32)) (7 : Int32) (14 : Int32) (21 : Int32)) (8 : Int32) (16 : Int32) (24 : Int32))), .second, .val (.ref a_DIRECTIONS), .val (.int (4 : Int32)), .val (.int (3 : Int32)), .val (.int (6 : Int32)), .val (.long (tb o (6 : Int32) (12 : Int32))), .second, .val (.long (ta o (8 : Int32) (16 : Int32))), .second] [])
  refine Go.lload X1 hx (hb hby d1_43) rfl rfl  ?_
  refine Go.lload X1 hx (hb hby d1_45) rfl rfl  ?_
  refine Go.lloadN X1 hx (hb hby d1_47) rfl rfl  ?_
  refine Go.iconst X1 hx (hb hby d1_48) rfl (3 : Int32) rfl ?_
  refine Go.iload X1 hx (hb hby d1_49) rfl rfl  ?_
  refine Go.imul X1 hx (hb hby d1_51) rfl ?_
  show Go p e below _ T1 (mkF m 52 #[.val (.long o), .second, .val (.long tk), .second, .val (.long (thr o (thr o (thr o (0 : Int64) (1 : Int32) (2 : Int32) (3 : Int32)) (7 : Int32) (14 : Int32) (21 : Int32)) (8 : Int32) (16 : Int32) (24 : Int32))), .second, .val (.ref a_DIRECTIONS), .val (.int (4 : Int32)), .val (.int (3 : Int32)), .val (.int (6 : Int32)), .val (.long (tb o (6 : Int32) (12 : Int32))), .second, .val (.long (ta o (8 : Int32) (16 : Int32))), .second] [(.int ((3 : Int32) * (6 : Int32))), (.long o), (.long (tb o (6 : Int32) (12 : Int32))), (.long (thr o (thr o (thr o (0 : Int64) (1 : Int32) (2 : Int32) (3 : Int32)) (7 : Int32) (14 : Int32) (21 : Int32)) (8 : Int32) (16 : Int32) (24 : Int32)))])
  rw [show ((3 : Int32) * (6 : Int32)) = (18 : Int32) from by decide]
  refine Go.lshl X1 hx (hb hby d1_52) rfl ?_
  refine Go.land X1 hx (hb hby d1_53) rfl ?_
  refine Go.lor X1 hx (hb hby d1_54) rfl ?_
  refine Go.lstore X1 hx (hb hby d1_55) rfl  #[.val (.long o), .second, .val (.long tk), .second, .val (.long ((thr o (thr o (thr o (0 : Int64) (1 : Int32) (2 : Int32) (3 : Int32)) (7 : Int32) (14 : Int32) (21 : Int32)) (8 : Int32) (16 : Int32) (24 : Int32)) ||| ((tb o (6 : Int32) (12 : Int32)) &&& ((o <<< ((18 : Int32) &&& 0x3f).toInt64))))), .second, .val (.ref a_DIRECTIONS), .val (.int (4 : Int32)), .val (.int (3 : Int32)), .val (.int (6 : Int32)), .val (.long (tb o (6 : Int32) (12 : Int32))), .second, .val (.long (ta o (8 : Int32) (16 : Int32))), .second] rfl ?_
  refine Go.lload X1 hx (hb hby d1_57) rfl rfl  ?_
  refine Go.lload X1 hx (hb hby d1_59) rfl rfl  ?_
  refine Go.lloadN X1 hx (hb hby d1_61) rfl rfl  ?_
  refine Go.iload X1 hx (hb hby d1_62) rfl rfl  ?_
  refine Go.lushr X1 hx (hb hby d1_64) rfl ?_
  refine Go.land X1 hx (hb hby d1_65) rfl ?_
  refine Go.lor X1 hx (hb hby d1_66) rfl ?_
  refine Go.lstore X1 hx (hb hby d1_67) rfl  #[.val (.long o), .second, .val (.long tk), .second, .val (.long (((thr o (thr o (thr o (0 : Int64) (1 : Int32) (2 : Int32) (3 : Int32)) (7 : Int32) (14 : Int32) (21 : Int32)) (8 : Int32) (16 : Int32) (24 : Int32)) ||| ((tb o (6 : Int32) (12 : Int32)) &&& ((o <<< ((18 : Int32) &&& 0x3f).toInt64)))) ||| ((tb o (6 : Int32) (12 : Int32)) &&& (((o).toUInt64 >>> ((6 : Int32) &&& 0x3f).toInt64.toUInt64).toInt64)))), .second, .val (.ref a_DIRECTIONS), .val (.int (4 : Int32)), .val (.int (3 : Int32)), .val (.int (6 : Int32)), .val (.long (tb o (6 : Int32) (12 : Int32))), .second, .val (.long (ta o (8 : Int32) (16 : Int32))), .second] rfl ?_
  refine Go.lloadN X1 hx (hb hby d1_69) rfl rfl  ?_
  refine Go.iload X1 hx (hb hby d1_70) rfl rfl  ?_
  refine Go.lushr X1 hx (hb hby d1_72) rfl ?_
  refine Go.lloadN X1 hx (hb hby d1_73) rfl rfl  ?_
  refine Go.iconst X1 hx (hb hby d1_74) rfl (2 : Int32) rfl ?_
  refine Go.iload X1 hx (hb hby d1_75) rfl rfl  ?_
  refine Go.imul X1 hx (hb hby d1_77) rfl ?_
  show Go p e below _ T1 (mkF m 78 #[.val (.long o), .second, .val (.long tk), .second, .val (.long (((thr o (thr o (thr o (0 : Int64) (1 : Int32) (2 : Int32) (3 : Int32)) (7 : Int32) (14 : Int32) (21 : Int32)) (8 : Int32) (16 : Int32) (24 : Int32)) ||| ((tb o (6 : Int32) (12 : Int32)) &&& ((o <<< ((18 : Int32) &&& 0x3f).toInt64)))) ||| ((tb o (6 : Int32) (12 : Int32)) &&& (((o).toUInt64 >>> ((6 : Int32) &&& 0x3f).toInt64.toUInt64).toInt64)))), .second, .val (.ref a_DIRECTIONS), .val (.int (4 : Int32)), .val (.int (3 : Int32)), .val (.int (6 : Int32)), .val (.long (tb o (6 : Int32) (12 : Int32))), .second, .val (.long (ta o (8 : Int32) (16 : Int32))), .second] [(.int ((2 : Int32) * (6 : Int32))), (.long o), (.long (((o).toUInt64 >>> ((6 : Int32) &&& 0x3f).toInt64.toUInt64).toInt64))])
  rw [show ((2 : Int32) * (6 : Int32)) = (12 : Int32) from by decide]
  refine Go.lushr X1 hx (hb hby d1_78) rfl ?_
  refine Go.land X1 hx (hb hby d1_79) rfl ?_
  refine Go.lstore X1 hx (hb hby d1_80) rfl  #[.val (.long o), .second, .val (.long tk), .second, .val (.long (((thr o (thr o (thr o (0 : Int64) (1 : Int32) (2 : Int32) (3 : Int32)) (7 : Int32) (14 : Int32) (21 : Int32)) (8 : Int32) (16 : Int32) (24 : Int32)) ||| ((tb o (6 : Int32) (12 : Int32)) &&& ((o <<< ((18 : Int32) &&& 0x3f).toInt64)))) ||| ((tb o (6 : Int32) (12 : Int32)) &&& (((o).toUInt64 >>> ((6 : Int32) &&& 0x3f).toInt64.toUInt64).toInt64)))), .second, .val (.ref a_DIRECTIONS), .val (.int (4 : Int32)), .val (.int (3 : Int32)), .val (.int (6 : Int32)), .val (.long (tb o (6 : Int32) (12 : Int32))), .second, .val (.long ((((o).toUInt64 >>> ((6 : Int32) &&& 0x3f).toInt64.toUInt64).toInt64) &&& (((o).toUInt64 >>> ((12 : Int32) &&& 0x3f).toInt64.toUInt64).toInt64))), .second] rfl ?_
  show Go p e below _ T1 (mkF m 82 #[.val (.long o), .second, .val (.long tk), .second, .val (.long (((thr o (thr o (thr o (0 : Int64) (1 : Int32) (2 : Int32) (3 : Int32)) (7 : Int32) (14 : Int32) (21 : Int32)) (8 : Int32) (16 : Int32) (24 : Int32)) ||| ((tb o (6 : Int32) (12 : Int32)) &&& ((o <<< ((18 : Int32) &&& 0x3f).toInt64)))) ||| ((tb o (6 : Int32) (12 : Int32)) &&& (((o).toUInt64 >>> ((6 : Int32) &&& 0x3f).toInt64.toUInt64).toInt64)))), .second, .val (.ref a_DIRECTIONS), .val (.int (4 : Int32)), .val (.int (3 : Int32)), .val (.int (6 : Int32)), .val (.long (tb o (6 : Int32) (12 : Int32))), .second, .val (.long (ta o (6 : Int32) (12 : Int32))), .second] [])
  refine Go.lload X1 hx (hb hby d1_82) rfl rfl  ?_
  refine Go.lload X1 hx (hb hby d1_84) rfl rfl  ?_
  refine Go.lloadN X1 hx (hb hby d1_86) rfl rfl  ?_
  refine Go.iload X1 hx (hb hby d1_87) rfl rfl  ?_
  refine Go.lshl X1 hx (hb hby d1_89) rfl ?_
  refine Go.land X1 hx (hb hby d1_90) rfl ?_
  refine Go.lor X1 hx (hb hby d1_91) rfl ?_
  refine Go.lstore X1 hx (hb hby d1_92) rfl  #[.val (.long o), .second, .val (.long tk), .second, .val (.long ((((thr o (thr o (thr o (0 : Int64) (1 : Int32) (2 : Int32) (3 : Int32)) (7 : Int32) (14 : Int32) (21 : Int32)) (8 : Int32) (16 : Int32) (24 : Int32)) ||| ((tb o (6 : Int32) (12 : Int32)) &&& ((o <<< ((18 : Int32) &&& 0x3f).toInt64)))) ||| ((tb o (6 : Int32) (12 : Int32)) &&& (((o).toUInt64 >>> ((6 : Int32) &&& 0x3f).toInt64.toUInt64).toInt64))) ||| ((ta o (6 : Int32) (12 : Int32)) &&& ((o <<< ((6 : Int32) &&& 0x3f).toInt64))))), .second, .val (.ref a_DIRECTIONS), .val (.int (4 : Int32)), .val (.int (3 : Int32)), .val (.int (6 : Int32)), .val (.long (tb o (6 : Int32) (12 : Int32))), .second, .val (.long (ta o (6 : Int32) (12 : Int32))), .second] rfl ?_
  refine Go.lload X1 hx (hb hby d1_94) rfl rfl  ?_
  refine Go.lload X1 hx (hb hby d1_96) rfl rfl  ?_
  refine Go.lloadN X1 hx (hb hby d1_98) rfl rfl  ?_
  refine Go.iconst X1 hx (hb hby d1_99) rfl (3 : Int32) rfl ?_
  refine Go.iload X1 hx (hb hby d1_100) rfl rfl  ?_
  refine Go.imul X1 hx (hb hby d1_102) rfl ?_
  show Go p e below _ T1 (mkF m 103 #[.val (.long o), .second, .val (.long tk), .second, .val (.long ((((thr o (thr o (thr o (0 : Int64) (1 : Int32) (2 : Int32) (3 : Int32)) (7 : Int32) (14 : Int32) (21 : Int32)) (8 : Int32) (16 : Int32) (24 : Int32)) ||| ((tb o (6 : Int32) (12 : Int32)) &&& ((o <<< ((18 : Int32) &&& 0x3f).toInt64)))) ||| ((tb o (6 : Int32) (12 : Int32)) &&& (((o).toUInt64 >>> ((6 : Int32) &&& 0x3f).toInt64.toUInt64).toInt64))) ||| ((ta o (6 : Int32) (12 : Int32)) &&& ((o <<< ((6 : Int32) &&& 0x3f).toInt64))))), .second, .val (.ref a_DIRECTIONS), .val (.int (4 : Int32)), .val (.int (3 : Int32)), .val (.int (6 : Int32)), .val (.long (tb o (6 : Int32) (12 : Int32))), .second, .val (.long (ta o (6 : Int32) (12 : Int32))), .second] [(.int ((3 : Int32) * (6 : Int32))), (.long o), (.long (ta o (6 : Int32) (12 : Int32))), (.long ((((thr o (thr o (thr o (0 : Int64) (1 : Int32) (2 : Int32) (3 : Int32)) (7 : Int32) (14 : Int32) (21 : Int32)) (8 : Int32) (16 : Int32) (24 : Int32)) ||| ((tb o (6 : Int32) (12 : Int32)) &&& ((o <<< ((18 : Int32) &&& 0x3f).toInt64)))) ||| ((tb o (6 : Int32) (12 : Int32)) &&& (((o).toUInt64 >>> ((6 : Int32) &&& 0x3f).toInt64.toUInt64).toInt64))) ||| ((ta o (6 : Int32) (12 : Int32)) &&& ((o <<< ((6 : Int32) &&& 0x3f).toInt64)))))])
  rw [show ((3 : Int32) * (6 : Int32)) = (18 : Int32) from by decide]
  refine Go.lushr X1 hx (hb hby d1_103) rfl ?_
  refine Go.land X1 hx (hb hby d1_104) rfl ?_
  refine Go.lor X1 hx (hb hby d1_105) rfl ?_
  refine Go.lstore X1 hx (hb hby d1_106) rfl  #[.val (.long o), .second, .val (.long tk), .second, .val (.long (((((thr o (thr o (thr o (0 : Int64) (1 : Int32) (2 : Int32) (3 : Int32)) (7 : Int32) (14 : Int32) (21 : Int32)) (8 : Int32) (16 : Int32) (24 : Int32)) ||| ((tb o (6 : Int32) (12 : Int32)) &&& ((o <<< ((18 : Int32) &&& 0x3f).toInt64)))) ||| ((tb o (6 : Int32) (12 : Int32)) &&& (((o).toUInt64 >>> ((6 : Int32) &&& 0x3f).toInt64.toUInt64).toInt64))) ||| ((ta o (6 : Int32) (12 : Int32)) &&& ((o <<< ((6 : Int32) &&& 0x3f).toInt64)))) ||| ((ta o (6 : Int32) (12 : Int32)) &&& (((o).toUInt64 >>> ((18 : Int32) &&& 0x3f).toInt64.toUInt64).toInt64)))), .second, .val (.ref a_DIRECTIONS), .val (.int (4 : Int32)), .val (.int (3 : Int32)), .val (.int (6 : Int32)), .val (.long (tb o (6 : Int32) (12 : Int32))), .second, .val (.long (ta o (6 : Int32) (12 : Int32))), .second] rfl ?_
  show Go p e below _ T1 (mkF m 108 #[.val (.long o), .second, .val (.long tk), .second, .val (.long (thr o (thr o (thr o (thr o (0 : Int64) (1 : Int32) (2 : Int32) (3 : Int32)) (7 : Int32) (14 : Int32) (21 : Int32)) (8 : Int32) (16 : Int32) (24 : Int32)) (6 : Int32) (12 : Int32) (18 : Int32))), .second, .val (.ref a_DIRECTIONS), .val (.int (4 : Int32)), .val (.int (3 : Int32)), .val (.int (6 : Int32)), .val (.long (tb o (6 : Int32) (12 : Int32))), .second, .val (.long (ta o (6 : Int32) (12 : Int32))), .second] [])
  refine Go.iinc X1 hx (hb hby d1_108) rfl rfl #[.val (.long o), .second, .val (.long tk), .second, .val (.long (thr o (thr o (thr o (thr o (0 : Int64) (1 : Int32) (2 : Int32) (3 : Int32)) (7 : Int32) (14 : Int32) (21 : Int32)) (8 : Int32) (16 : Int32) (24 : Int32)) (6 : Int32) (12 : Int32) (18 : Int32))), .second, .val (.ref a_DIRECTIONS), .val (.int (4 : Int32)), .val (.int ((3 : Int32) + (1 : Int32))), .val (.int (6 : Int32)), .val (.long (tb o (6 : Int32) (12 : Int32))), .second, .val (.long (ta o (6 : Int32) (12 : Int32))), .second] rfl ?_
  show Go p e below _ T1 (mkF m 111 #[.val (.long o), .second, .val (.long tk), .second, .val (.long (thr o (thr o (thr o (thr o (0 : Int64) (1 : Int32) (2 : Int32) (3 : Int32)) (7 : Int32) (14 : Int32) (21 : Int32)) (8 : Int32) (16 : Int32) (24 : Int32)) (6 : Int32) (12 : Int32) (18 : Int32))), .second, .val (.ref a_DIRECTIONS), .val (.int (4 : Int32)), .val (.int ((3 : Int32) + (1 : Int32))), .val (.int (6 : Int32)), .val (.long (tb o (6 : Int32) (12 : Int32))), .second, .val (.long (ta o (6 : Int32) (12 : Int32))), .second] [])
  rw [show ((3 : Int32) + (1 : Int32)) = (4 : Int32) from by decide]
  show Go p e below _ T1 (mkF m 111 #[.val (.long o), .second, .val (.long tk), .second, .val (.long (thr o (thr o (thr o (thr o (0 : Int64) (1 : Int32) (2 : Int32) (3 : Int32)) (7 : Int32) (14 : Int32) (21 : Int32)) (8 : Int32) (16 : Int32) (24 : Int32)) (6 : Int32) (12 : Int32) (18 : Int32))), .second, .val (.ref a_DIRECTIONS), .val (.int (4 : Int32)), .val (.int (4 : Int32)), .val (.int (6 : Int32)), .val (.long (tb o (6 : Int32) (12 : Int32))), .second, .val (.long (ta o (6 : Int32) (12 : Int32))), .second] [])
  refine Go.goto X1 hx (hb hby d1_111) rfl 16 (by decide) (by decide) ?_
  refine Go.iload X1 hx (hb hby d1_16) rfl rfl  ?_
  refine Go.iload X1 hx (hb hby d1_18) rfl rfl  ?_
  refine Go.icmpYes X1 hx (hb hby d1_20) rfl 114 (flt (by decide : ¬ ((4 : Int32) < (4 : Int32)))).2.1 (by decide) (by decide) ?_
  refine Go.lload X1 hx (hb hby d1_114) rfl rfl  ?_
  refine Go.getS X1 hx hZ hown (host := "") (Or.inl (wd 9 rfl)) Via.refl e1 (S_BOARD.ext O0.2) (hb hby d1_116) rfl ?_
  intro T2 X2 e2
  refine Go.lloadN X2 hx (hb hby d1_119) rfl rfl  ?_
  refine Go.lxor X2 hx (hb hby d1_120) rfl ?_
  refine Go.land X2 hx (hb hby d1_121) rfl ?_
  exact Go.retJ X2 hx hret hlk (hb hby d1_122) rfl (by rw [e2]; exact ⟨rfl, rfl, rfl⟩) (Nat.le_of_ble_eq_true rfl) (Nat.le_of_ble_eq_true rfl)
theorem d2_0 : decode method_3_code 0 = .ok (.lload_n 0, 1) := by decide +kernel
theorem d2_1 : decode method_3_code 1 = .ok (.iload_n 2, 1) := by decide +kernel
theorem d2_2 : decode method_3_code 2 = .ok (.lshl, 1) := by decide +kernel
theorem d2_3 : decode method_3_code 3 = .ok (.lload_n 3, 1) := by decide +kernel
theorem d2_4 : decode method_3_code 4 = .ok (.land, 1) := by decide +kernel
theorem d2_5 : decode method_3_code 5 = .ok (.lstore 5, 2) := by decide +kernel
theorem d2_7 : decode method_3_code 7 = .ok (.lload 5, 2) := by decide +kernel
theorem d2_9 : decode method_3_code 9 = .ok (.iload_n 2, 1) := by decide +kernel
theorem d2_10 : decode method_3_code 10 = .ok (.lshl, 1) := by decide +kernel
theorem d2_11 : decode method_3_code 11 = .ok (.lload_n 3, 1) := by decide +kernel
theorem d2_12 : decode method_3_code 12 = .ok (.land, 1) := by decide +kernel
theorem d2_13 : decode method_3_code 13 = .ok (.lstore 7, 2) := by decide +kernel
theorem d2_15 : decode method_3_code 15 = .ok (.lload 7, 2) := by decide +kernel
theorem d2_17 : decode method_3_code 17 = .ok (.iload_n 2, 1) := by decide +kernel
theorem d2_18 : decode method_3_code 18 = .ok (.lshl, 1) := by decide +kernel
theorem d2_19 : decode method_3_code 19 = .ok (.lload_n 3, 1) := by decide +kernel
theorem d2_20 : decode method_3_code 20 = .ok (.land, 1) := by decide +kernel
theorem d2_21 : decode method_3_code 21 = .ok (.lstore 9, 2) := by decide +kernel
theorem d2_23 : decode method_3_code 23 = .ok (.lload_n 0, 1) := by decide +kernel
theorem d2_24 : decode method_3_code 24 = .ok (.iload_n 2, 1) := by decide +kernel
theorem d2_25 : decode method_3_code 25 = .ok (.lushr, 1) := by decide +kernel
theorem d2_26 : decode method_3_code 26 = .ok (.lload_n 3, 1) := by decide +kernel
theorem d2_27 : decode method_3_code 27 = .ok (.land, 1) := by decide +kernel
theorem d2_28 : decode method_3_code 28 = .ok (.lstore 11, 2) := by decide +kernel
theorem d2_30 : decode method_3_code 30 = .ok (.lload 11, 2) := by decide +kernel
theorem d2_32 : decode method_3_code 32 = .ok (.iload_n 2, 1) := by decide +kernel
theorem d2_33 : decode method_3_code 33 = .ok (.lushr, 1) := by decide +kernel
theorem d2_34 : decode method_3_code 34 = .ok (.lload_n 3, 1) := by decide +kernel
theorem d2_35 : decode method_3_code 35 = .ok (.land, 1) := by decide +kernel
theorem d2_36 : decode method_3_code 36 = .ok (.lstore 13, 2) := by decide +kernel
theorem d2_38 : decode method_3_code 38 = .ok (.lload 13, 2) := by decide +kernel
theorem d2_40 : decode method_3_code 40 = .ok (.iload_n 2, 1) := by decide +kernel
theorem d2_41 : decode method_3_code 41 = .ok (.lushr, 1) := by decide +kernel
theorem d2_42 : decode method_3_code 42 = .ok (.lload_n 3, 1) := by decide +kernel
theorem d2_43 : decode method_3_code 43 = .ok (.land, 1) := by decide +kernel
theorem d2_44 : decode method_3_code 44 = .ok (.lstore 15, 2) := by decide +kernel
theorem d2_46 : decode method_3_code 46 = .ok (.lload 5, 2) := by decide +kernel
theorem d2_48 : decode method_3_code 48 = .ok (.lload 7, 2) := by decide +kernel
theorem d2_50 : decode method_3_code 50 = .ok (.lor, 1) := by decide +kernel
theorem d2_51 : decode method_3_code 51 = .ok (.lload 9, 2) := by decide +kernel
theorem d2_53 : decode method_3_code 53 = .ok (.lor, 1) := by decide +kernel
theorem d2_54 : decode method_3_code 54 = .ok (.lload 11, 2) := by decide +kernel
theorem d2_56 : decode method_3_code 56 = .ok (.lor, 1) := by decide +kernel
theorem d2_57 : decode method_3_code 57 = .ok (.lload 13, 2) := by decide +kernel
theorem d2_59 : decode method_3_code 59 = .ok (.lor, 1) := by decide +kernel
theorem d2_60 : decode method_3_code 60 = .ok (.lload 15, 2) := by decide +kernel
theorem d2_62 : decode method_3_code 62 = .ok (.lor, 1) := by decide +kernel
theorem d2_63 : decode method_3_code 63 = .ok (.lreturn, 1) := by decide +kernel
theorem pn_2 : plainName "com/example/afterstate/afterstate/connect4/BitboardThreatsPinLaw" = true := by first | (simp [plainName, overriddenIn]; done) | decide +kernel
theorem ef_2 (m : MethodId) (x0 : Int64) (x1 : Int32) (x2 : Int64) : entryFrame m #[(.long x0), (.int x1), (.long x2)] 17 = mkF m 0 #[.val (.long x0), .second, .val (.int x1), .val (.long x2), .second, .unset, .unset, .unset, .unset, .unset, .unset, .unset, .unset, .unset, .unset, .unset, .unset] [] := by first | (simp [entryFrame, mkF, argsToLocals, Value.category]; done) | rfl
set_option maxRecDepth 65536 in
set_option maxHeartbeats 40000000 in
theorem rmR (l : Launch) (Z : State) (a0 : Array Value) (hw : ∀ d ∈ tables_1, d.before a0 Z = true) (x : Int64) (q : Int32) (b : Int64) (h0 : Heap)  : Pur l Z (⟨"com/example/afterstate/afterstate/connect4/BitboardThreatsPinLaw", "ray", "(JIJ)J"⟩ : MethodName) method_3_code 17 (some .long) 0 0 #[(.long x), (.int q), (.long b)] h0 (some (.long (rayv x q b))) := by
  refine Ctr.of (plainFor_of_name pn_2) ?_
  have wd : ∀ {d : Jvm.Cond} (i : Nat), tables_1[i]? = some d → d.before a0 Z = true := fun i q => hw _ (List.mem_of_getElem? q)
  intro p e s m below meth c s₁ hx hby hml hown hnm hret hlk hZ X0 e0
  refine Go.cast (ef_2 m x q b) ?_
  show Go p e below _ s₁ (mkF m 0 #[.val (.long x), .second, .val (.int q), .val (.long b), .second, .unset, .unset, .unset, .unset, .unset, .unset, .unset, .unset, .unset, .unset, .unset, .unset] [])
  refine Go.lloadN X0 hx (hb hby d2_0) rfl rfl  ?_
  refine Go.iloadN X0 hx (hb hby d2_1) rfl rfl  ?_
  refine Go.lshl X0 hx (hb hby d2_2) rfl ?_
  refine Go.lloadN X0 hx (hb hby d2_3) rfl rfl  ?_
  refine Go.land X0 hx (hb hby d2_4) rfl ?_
  refine Go.lstore X0 hx (hb hby d2_5) rfl  #[.val (.long x), .second, .val (.int q), .val (.long b), .second, .val (.long (((x <<< (q &&& 0x3f).toInt64)) &&& b)), .second, .unset, .unset, .unset, .unset, .unset, .unset, .unset, .unset, .unset, .unset] rfl ?_
  show Go p e below _ s₁ (mkF m 7 #[.val (.long x), .second, .val (.int q), .val (.long b), .second, .val (.long (ra x q b)), .second, .unset, .unset, .unset, .unset, .unset, .unset, .unset, .unset, .unset, .unset] [])
  refine Go.lload X0 hx (hb hby d2_7) rfl rfl  ?_
  refine Go.iloadN X0 hx (hb hby d2_9) rfl rfl  ?_
  refine Go.lshl X0 hx (hb hby d2_10) rfl ?_
  refine Go.lloadN X0 hx (hb hby d2_11) rfl rfl  ?_
  refine Go.land X0 hx (hb hby d2_12) rfl ?_
  refine Go.lstore X0 hx (hb hby d2_13) rfl  #[.val (.long x), .second, .val (.int q), .val (.long b), .second, .val (.long (ra x q b)), .second, .val (.long ((((ra x q b) <<< (q &&& 0x3f).toInt64)) &&& b)), .second, .unset, .unset, .unset, .unset, .unset, .unset, .unset, .unset] rfl ?_
  show Go p e below _ s₁ (mkF m 15 #[.val (.long x), .second, .val (.int q), .val (.long b), .second, .val (.long (ra x q b)), .second, .val (.long (ra (ra x q b) q b)), .second, .unset, .unset, .unset, .unset, .unset, .unset, .unset, .unset] [])
  refine Go.lload X0 hx (hb hby d2_15) rfl rfl  ?_
  refine Go.iloadN X0 hx (hb hby d2_17) rfl rfl  ?_
  refine Go.lshl X0 hx (hb hby d2_18) rfl ?_
  refine Go.lloadN X0 hx (hb hby d2_19) rfl rfl  ?_
  refine Go.land X0 hx (hb hby d2_20) rfl ?_
  refine Go.lstore X0 hx (hb hby d2_21) rfl  #[.val (.long x), .second, .val (.int q), .val (.long b), .second, .val (.long (ra x q b)), .second, .val (.long (ra (ra x q b) q b)), .second, .val (.long ((((ra (ra x q b) q b) <<< (q &&& 0x3f).toInt64)) &&& b)), .second, .unset, .unset, .unset, .unset, .unset, .unset] rfl ?_
  show Go p e below _ s₁ (mkF m 23 #[.val (.long x), .second, .val (.int q), .val (.long b), .second, .val (.long (ra x q b)), .second, .val (.long (ra (ra x q b) q b)), .second, .val (.long (ra (ra (ra x q b) q b) q b)), .second, .unset, .unset, .unset, .unset, .unset, .unset] [])
  refine Go.lloadN X0 hx (hb hby d2_23) rfl rfl  ?_
  refine Go.iloadN X0 hx (hb hby d2_24) rfl rfl  ?_
  refine Go.lushr X0 hx (hb hby d2_25) rfl ?_
  refine Go.lloadN X0 hx (hb hby d2_26) rfl rfl  ?_
  refine Go.land X0 hx (hb hby d2_27) rfl ?_
  refine Go.lstore X0 hx (hb hby d2_28) rfl  #[.val (.long x), .second, .val (.int q), .val (.long b), .second, .val (.long (ra x q b)), .second, .val (.long (ra (ra x q b) q b)), .second, .val (.long (ra (ra (ra x q b) q b) q b)), .second, .val (.long ((((x).toUInt64 >>> (q &&& 0x3f).toInt64.toUInt64).toInt64) &&& b)), .second, .unset, .unset, .unset, .unset] rfl ?_
  show Go p e below _ s₁ (mkF m 30 #[.val (.long x), .second, .val (.int q), .val (.long b), .second, .val (.long (ra x q b)), .second, .val (.long (ra (ra x q b) q b)), .second, .val (.long (ra (ra (ra x q b) q b) q b)), .second, .val (.long (rb x q b)), .second, .unset, .unset, .unset, .unset] [])
  refine Go.lload X0 hx (hb hby d2_30) rfl rfl  ?_
  refine Go.iloadN X0 hx (hb hby d2_32) rfl rfl  ?_
  refine Go.lushr X0 hx (hb hby d2_33) rfl ?_
  refine Go.lloadN X0 hx (hb hby d2_34) rfl rfl  ?_
  refine Go.land X0 hx (hb hby d2_35) rfl ?_
  refine Go.lstore X0 hx (hb hby d2_36) rfl  #[.val (.long x), .second, .val (.int q), .val (.long b), .second, .val (.long (ra x q b)), .second, .val (.long (ra (ra x q b) q b)), .second, .val (.long (ra (ra (ra x q b) q b) q b)), .second, .val (.long (rb x q b)), .second, .val (.long (((((rb x q b)).toUInt64 >>> (q &&& 0x3f).toInt64.toUInt64).toInt64) &&& b)), .second, .unset, .unset] rfl ?_
  show Go p e below _ s₁ (mkF m 38 #[.val (.long x), .second, .val (.int q), .val (.long b), .second, .val (.long (ra x q b)), .second, .val (.long (ra (ra x q b) q b)), .second, .val (.long (ra (ra (ra x q b) q b) q b)), .second, .val (.long (rb x q b)), .second, .val (.long (rb (rb x q b) q b)), .second, .unset, .unset] [])
  refine Go.lload X0 hx (hb hby d2_38) rfl rfl  ?_
  refine Go.iloadN X0 hx (hb hby d2_40) rfl rfl  ?_
  refine Go.lushr X0 hx (hb hby d2_41) rfl ?_
  refine Go.lloadN X0 hx (hb hby d2_42) rfl rfl  ?_
  refine Go.land X0 hx (hb hby d2_43) rfl ?_
  refine Go.lstore X0 hx (hb hby d2_44) rfl  #[.val (.long x), .second, .val (.int q), .val (.long b), .second, .val (.long (ra x q b)), .second, .val (.long (ra (ra x q b) q b)), .second, .val (.long (ra (ra (ra x q b) q b) q b)), .second, .val (.long (rb x q b)), .second, .val (.long (rb (rb x q b) q b)), .second, .val (.long (((((rb (rb x q b) q b)).toUInt64 >>> (q &&& 0x3f).toInt64.toUInt64).toInt64) &&& b)), .second] rfl ?_
  show Go p e below _ s₁ (mkF m 46 #[.val (.long x), .second, .val (.int q), .val (.long b), .second, .val (.long (ra x q b)), .second, .val (.long (ra (ra x q b) q b)), .second, .val (.long (ra (ra (ra x q b) q b) q b)), .second, .val (.long (rb x q b)), .second, .val (.long (rb (rb x q b) q b)), .second, .val (.long (rb (rb (rb x q b) q b) q b)), .second] [])
  refine Go.lload X0 hx (hb hby d2_46) rfl rfl  ?_
  refine Go.lload X0 hx (hb hby d2_48) rfl rfl  ?_
  refine Go.lor X0 hx (hb hby d2_50) rfl ?_
  refine Go.lload X0 hx (hb hby d2_51) rfl rfl  ?_
  refine Go.lor X0 hx (hb hby d2_53) rfl ?_
  refine Go.lload X0 hx (hb hby d2_54) rfl rfl  ?_
  refine Go.lor X0 hx (hb hby d2_56) rfl ?_
  refine Go.lload X0 hx (hb hby d2_57) rfl rfl  ?_
  refine Go.lor X0 hx (hb hby d2_59) rfl ?_
  refine Go.lload X0 hx (hb hby d2_60) rfl rfl  ?_
  refine Go.lor X0 hx (hb hby d2_62) rfl ?_
  exact Go.retJ X0 hx hret hlk (hb hby d2_63) rfl (by rw [e0]; exact ⟨rfl, rfl, rfl⟩) (Nat.le_of_ble_eq_true rfl) (Nat.le_of_ble_eq_true rfl)
theorem ef_0 (m : MethodId) (x0 : Int64) (x1 : Int64) (x2 : Int32) (x3 : Int32) : entryFrame m #[(.long x0), (.long x1), (.int x2), (.int x3)] maxLocals = mkF m 0 #[.val (.long x0), .second, .val (.long x1), .second, .val (.int x2), .val (.int x3), .unset, .unset, .unset, .unset, .unset, .unset, .unset, .unset, .unset, .unset, .unset, .unset, .unset, .unset, .unset, .unset, .unset] [] := by first | (simp [entryFrame, mkF, argsToLocals, Value.category, maxLocals]; done) | rfl
set_option maxRecDepth 65536 in
set_option maxHeartbeats 40000000 in
theorem rm0 (l : Launch) (Z : State) (a0 : Array Value) (hw : ∀ d ∈ tables_1, d.before a0 Z = true) (x0 : Int64) (x1 : Int64) (x2 : Int32) (x3 : Int32) (a_DIRECTIONS : Addr) (k_DIRECTIONS : ClassId) (FF : Facts Z a_DIRECTIONS k_DIRECTIONS) : Ctr l Z x code maxLocals ret room_1 #[(.long x0), (.long x1), (.int x2), (.int x3)] Z.heap (fun v h L => v = some (.int 1) ∧ Fr Z.heap.size L) := by
  refine Ctr.of (plainFor_of_name pn_2) ?_
  have wd : ∀ {d : Jvm.Cond} (i : Nat), tables_1[i]? = some d → d.before a0 Z = true := fun i q => hw _ (List.mem_of_getElem? q)
  intro p e s m below meth c s₁ hx hby hml hown hnm hret hlk hZ X0 e0
  have FF' := FF
  obtain ⟨S_BOARD, S_DIRECTIONS, V_DIRECTIONS⟩ := FF'
  have hown : s.vm.findClass "com/example/afterstate/afterstate/connect4/BitboardThreatsPinLaw" = some m.cls := hown
  have O0 := Old.start Z
  refine Go.cast (ef_0 m x0 x1 x2 x3) ?_
  show Go p e below _ s₁ (mkF m 0 #[.val (.long x0), .second, .val (.long x1), .second, .val (.int x2), .val (.int x3), .unset, .unset, .unset, .unset, .unset, .unset, .unset, .unset, .unset, .unset, .unset, .unset, .unset, .unset, .unset, .unset, .unset] [])
  refine Go.getS X0 hx hZ hown (host := "") (Or.inl (wd 0 rfl)) Via.refl e0 (S_BOARD.ext O0.2) (hb hby at_0) rfl ?_
  intro T1 X1 e1
  refine Go.lstore X1 hx (hb hby at_3) rfl  #[.val (.long x0), .second, .val (.long x1), .second, .val (.int x2), .val (.int x3), .val (.long (279258638311359 : Int64)), .second, .unset, .unset, .unset, .unset, .unset, .unset, .unset, .unset, .unset, .unset, .unset, .unset, .unset, .unset, .unset] rfl ?_
  refine Go.lloadN X1 hx (hb hby at_5) rfl rfl  ?_
  refine Go.lload X1 hx (hb hby at_6) rfl rfl  ?_
  refine Go.land X1 hx (hb hby at_8) rfl ?_
  refine Go.lstore X1 hx (hb hby at_9) rfl  #[.val (.long x0), .second, .val (.long x1), .second, .val (.int x2), .val (.int x3), .val (.long (279258638311359 : Int64)), .second, .val (.long (x0 &&& (279258638311359 : Int64))), .second, .unset, .unset, .unset, .unset, .unset, .unset, .unset, .unset, .unset, .unset, .unset, .unset, .unset] rfl ?_
  show Go p e below _ T1 (mkF m 11 #[.val (.long x0), .second, .val (.long x1), .second, .val (.int x2), .val (.int x3), .val (.long (279258638311359 : Int64)), .second, .val (.long (ow x0)), .second, .unset, .unset, .unset, .unset, .unset, .unset, .unset, .unset, .unset, .unset, .unset, .unset, .unset] [])
  refine Go.lloadN X1 hx (hb hby at_11) rfl rfl  ?_
  refine Go.lload X1 hx (hb hby at_12) rfl rfl  ?_
  refine Go.land X1 hx (hb hby at_14) rfl ?_
  refine Go.lload X1 hx (hb hby at_15) rfl rfl  ?_
  refine Go.lor X1 hx (hb hby at_17) rfl ?_
  refine Go.lstore X1 hx (hb hby at_18) rfl  #[.val (.long x0), .second, .val (.long x1), .second, .val (.int x2), .val (.int x3), .val (.long (279258638311359 : Int64)), .second, .val (.long (ow x0)), .second, .val (.long ((x1 &&& (279258638311359 : Int64)) ||| (ow x0))), .second, .unset, .unset, .unset, .unset, .unset, .unset, .unset, .unset, .unset, .unset, .unset] rfl ?_
  show Go p e below _ T1 (mkF m 20 #[.val (.long x0), .second, .val (.long x1), .second, .val (.int x2), .val (.int x3), .val (.long (279258638311359 : Int64)), .second, .val (.long (ow x0)), .second, .val (.long (tkn x0 x1)), .second, .unset, .unset, .unset, .unset, .unset, .unset, .unset, .unset, .unset, .unset, .unset] [])
  refine Go.iload X1 hx (hb hby at_20) rfl rfl  ?_
  refine Go.ldc X1 hx hZ hown (wd 3 rfl) (hb hby at_22) rfl ?_
  refine Go.iand X1 hx (hb hby at_24) rfl ?_
  refine Go.bipush X1 hx (hb hby at_25) rfl (7 : Int32) rfl ?_
  refine Go.irem X1 hx (hb hby at_27) rfl (by decide) ?_
  refine Go.istore X1 hx (hb hby at_28) rfl  #[.val (.long x0), .second, .val (.long x1), .second, .val (.int x2), .val (.int x3), .val (.long (279258638311359 : Int64)), .second, .val (.long (ow x0)), .second, .val (.long (tkn x0 x1)), .second, .val (.int ((x2 &&& (2147483647 : Int32)) % (7 : Int32))), .unset, .unset, .unset, .unset, .unset, .unset, .unset, .unset, .unset, .unset] rfl ?_
  refine Go.iload X1 hx (hb hby at_30) rfl rfl  ?_
  refine Go.ldc X1 hx hZ hown (wd 3 rfl) (hb hby at_32) rfl ?_
  refine Go.iand X1 hx (hb hby at_34) rfl ?_
  refine Go.bipush X1 hx (hb hby at_35) rfl (6 : Int32) rfl ?_
  refine Go.irem X1 hx (hb hby at_37) rfl (by decide) ?_
  refine Go.istore X1 hx (hb hby at_38) rfl  #[.val (.long x0), .second, .val (.long x1), .second, .val (.int x2), .val (.int x3), .val (.long (279258638311359 : Int64)), .second, .val (.long (ow x0)), .second, .val (.long (tkn x0 x1)), .second, .val (.int ((x2 &&& (2147483647 : Int32)) % (7 : Int32))), .val (.int ((x3 &&& (2147483647 : Int32)) % (6 : Int32))), .unset, .unset, .unset, .unset, .unset, .unset, .unset, .unset, .unset] rfl ?_
  refine Go.bipush X1 hx (hb hby at_40) rfl (7 : Int32) rfl ?_
  refine Go.iload X1 hx (hb hby at_42) rfl rfl  ?_
  refine Go.imul X1 hx (hb hby at_44) rfl ?_
  refine Go.iload X1 hx (hb hby at_45) rfl rfl  ?_
  refine Go.iadd X1 hx (hb hby at_47) rfl ?_
  refine Go.istore X1 hx (hb hby at_48) rfl  #[.val (.long x0), .second, .val (.long x1), .second, .val (.int x2), .val (.int x3), .val (.long (279258638311359 : Int64)), .second, .val (.long (ow x0)), .second, .val (.long (tkn x0 x1)), .second, .val (.int ((x2 &&& (2147483647 : Int32)) % (7 : Int32))), .val (.int ((x3 &&& (2147483647 : Int32)) % (6 : Int32))), .val (.int (((7 : Int32) * ((x2 &&& (2147483647 : Int32)) % (7 : Int32))) + ((x3 &&& (2147483647 : Int32)) % (6 : Int32)))), .unset, .unset, .unset, .unset, .unset, .unset, .unset, .unset] rfl ?_
  show Go p e below _ T1 (mkF m 50 #[.val (.long x0), .second, .val (.long x1), .second, .val (.int x2), .val (.int x3), .val (.long (279258638311359 : Int64)), .second, .val (.long (ow x0)), .second, .val (.long (tkn x0 x1)), .second, .val (.int ((x2 &&& (2147483647 : Int32)) % (7 : Int32))), .val (.int ((x3 &&& (2147483647 : Int32)) % (6 : Int32))), .val (.int (ps x2 x3)), .unset, .unset, .unset, .unset, .unset, .unset, .unset, .unset] [])
  refine Go.lconst X1 hx (hb hby at_50) rfl (1 : Int64) rfl ?_
  refine Go.iload X1 hx (hb hby at_51) rfl rfl  ?_
  refine Go.lshl X1 hx (hb hby at_53) rfl ?_
  refine Go.lstore X1 hx (hb hby at_54) rfl  #[.val (.long x0), .second, .val (.long x1), .second, .val (.int x2), .val (.int x3), .val (.long (279258638311359 : Int64)), .second, .val (.long (ow x0)), .second, .val (.long (tkn x0 x1)), .second, .val (.int ((x2 &&& (2147483647 : Int32)) % (7 : Int32))), .val (.int ((x3 &&& (2147483647 : Int32)) % (6 : Int32))), .val (.int (ps x2 x3)), .val (.long (((1 : Int64) <<< ((ps x2 x3) &&& 0x3f).toInt64))), .second, .unset, .unset, .unset, .unset, .unset, .unset] rfl ?_
  show Go p e below _ T1 (mkF m 56 #[.val (.long x0), .second, .val (.long x1), .second, .val (.int x2), .val (.int x3), .val (.long (279258638311359 : Int64)), .second, .val (.long (ow x0)), .second, .val (.long (tkn x0 x1)), .second, .val (.int ((x2 &&& (2147483647 : Int32)) % (7 : Int32))), .val (.int ((x3 &&& (2147483647 : Int32)) % (6 : Int32))), .val (.int (ps x2 x3)), .val (.long (xb x2 x3)), .second, .unset, .unset, .unset, .unset, .unset, .unset] [])
  refine Go.lload X1 hx (hb hby at_56) rfl rfl  ?_
  refine Go.lload X1 hx (hb hby at_58) rfl rfl  ?_
  refine Go.pureS X1 hx hZ hown (wd 4 rfl) (wd 5 rfl) (wd 1 rfl) (wd 6 rfl) (by decide) [(.long (ow x0)), (.long (tkn x0 x1))] [] (rmT l Z a0 hw (ow x0) (tkn x0 x1) a_DIRECTIONS k_DIRECTIONS Z.heap O0 FF) e1 rfl (by rw [hml]; rfl) pd_0 rfl (hb hby at_60) (Nat.le_of_ble_eq_true rfl) (Nat.le_of_ble_eq_true rfl) (Nat.le_of_ble_eq_true rfl) (Nat.le_of_ble_eq_true rfl) ?_
  intro T2 X2 e2
  refine Go.lstore X2 hx (hb hby at_63) rfl  #[.val (.long x0), .second, .val (.long x1), .second, .val (.int x2), .val (.int x3), .val (.long (279258638311359 : Int64)), .second, .val (.long (ow x0)), .second, .val (.long (tkn x0 x1)), .second, .val (.int ((x2 &&& (2147483647 : Int32)) % (7 : Int32))), .val (.int ((x3 &&& (2147483647 : Int32)) % (6 : Int32))), .val (.int (ps x2 x3)), .val (.long (xb x2 x3)), .second, .val (.long (thrv (ow x0) (tkn x0 x1))), .second, .unset, .unset, .unset, .unset] rfl ?_
  refine Go.lload X2 hx (hb hby at_65) rfl rfl  ?_
  refine Go.iconst X2 hx (hb hby at_67) rfl (1 : Int32) rfl ?_
  refine Go.lload X2 hx (hb hby at_68) rfl rfl  ?_
  refine Go.pureS X2 hx hZ hown (wd 10 rfl) (wd 11 rfl) (wd 12 rfl) (wd 13 rfl) (by decide) [(.long (xb x2 x3)), (.int (1 : Int32)), (.long (279258638311359 : Int64))] [] (rmR l Z a0 hw (xb x2 x3) (1 : Int32) (279258638311359 : Int64) Z.heap) e2 rfl (by rw [hml]; rfl) pd_1 rfl (hb hby at_70) (Nat.le_of_ble_eq_true rfl) (Nat.le_of_ble_eq_true rfl) (Nat.le_of_ble_eq_true rfl) (Nat.le_of_ble_eq_true rfl) ?_
  intro T3 X3 e3
  refine Go.lload X3 hx (hb hby at_73) rfl rfl  ?_
  refine Go.bipush X3 hx (hb hby at_75) rfl (7 : Int32) rfl ?_
  refine Go.lload X3 hx (hb hby at_77) rfl rfl  ?_
  refine Go.pureS X3 hx hZ hown (wd 10 rfl) (wd 11 rfl) (wd 12 rfl) (wd 13 rfl) (by decide) [(.long (xb x2 x3)), (.int (7 : Int32)), (.long (279258638311359 : Int64))] [(.long (rayv (xb x2 x3) (1 : Int32) (279258638311359 : Int64)))] (rmR l Z a0 hw (xb x2 x3) (7 : Int32) (279258638311359 : Int64) Z.heap) e3 rfl (by rw [hml]; rfl) pd_1 rfl (hb hby at_79) (Nat.le_of_ble_eq_true rfl) (Nat.le_of_ble_eq_true rfl) (Nat.le_of_ble_eq_true rfl) (Nat.le_of_ble_eq_true rfl) ?_
  intro T4 X4 e4
  refine Go.lor X4 hx (hb hby at_82) rfl ?_
  refine Go.lload X4 hx (hb hby at_83) rfl rfl  ?_
  refine Go.bipush X4 hx (hb hby at_85) rfl (8 : Int32) rfl ?_
  refine Go.lload X4 hx (hb hby at_87) rfl rfl  ?_
  refine Go.pureS X4 hx hZ hown (wd 10 rfl) (wd 11 rfl) (wd 12 rfl) (wd 13 rfl) (by decide) [(.long (xb x2 x3)), (.int (8 : Int32)), (.long (279258638311359 : Int64))] [(.long ((rayv (xb x2 x3) (1 : Int32) (279258638311359 : Int64)) ||| (rayv (xb x2 x3) (7 : Int32) (279258638311359 : Int64))))] (rmR l Z a0 hw (xb x2 x3) (8 : Int32) (279258638311359 : Int64) Z.heap) e4 rfl (by rw [hml]; rfl) pd_1 rfl (hb hby at_89) (Nat.le_of_ble_eq_true rfl) (Nat.le_of_ble_eq_true rfl) (Nat.le_of_ble_eq_true rfl) (Nat.le_of_ble_eq_true rfl) ?_
  intro T5 X5 e5
  refine Go.lor X5 hx (hb hby at_92) rfl ?_
  refine Go.lload X5 hx (hb hby at_93) rfl rfl  ?_
  refine Go.bipush X5 hx (hb hby at_95) rfl (6 : Int32) rfl ?_
  refine Go.lload X5 hx (hb hby at_97) rfl rfl  ?_
  refine Go.pureS X5 hx hZ hown (wd 10 rfl) (wd 11 rfl) (wd 12 rfl) (wd 13 rfl) (by decide) [(.long (xb x2 x3)), (.int (6 : Int32)), (.long (279258638311359 : Int64))] [(.long (((rayv (xb x2 x3) (1 : Int32) (279258638311359 : Int64)) ||| (rayv (xb x2 x3) (7 : Int32) (279258638311359 : Int64))) ||| (rayv (xb x2 x3) (8 : Int32) (279258638311359 : Int64))))] (rmR l Z a0 hw (xb x2 x3) (6 : Int32) (279258638311359 : Int64) Z.heap) e5 rfl (by rw [hml]; rfl) pd_1 rfl (hb hby at_99) (Nat.le_of_ble_eq_true rfl) (Nat.le_of_ble_eq_true rfl) (Nat.le_of_ble_eq_true rfl) (Nat.le_of_ble_eq_true rfl) ?_
  intro T6 X6 e6
  refine Go.lor X6 hx (hb hby at_102) rfl ?_
  refine Go.lstore X6 hx (hb hby at_103) rfl  #[.val (.long x0), .second, .val (.long x1), .second, .val (.int x2), .val (.int x3), .val (.long (279258638311359 : Int64)), .second, .val (.long (ow x0)), .second, .val (.long (tkn x0 x1)), .second, .val (.int ((x2 &&& (2147483647 : Int32)) % (7 : Int32))), .val (.int ((x3 &&& (2147483647 : Int32)) % (6 : Int32))), .val (.int (ps x2 x3)), .val (.long (xb x2 x3)), .second, .val (.long (thrv (ow x0) (tkn x0 x1))), .second, .val (.long ((((rayv (xb x2 x3) (1 : Int32) (279258638311359 : Int64)) ||| (rayv (xb x2 x3) (7 : Int32) (279258638311359 : Int64))) ||| (rayv (xb x2 x3) (8 : Int32) (279258638311359 : Int64))) ||| (rayv (xb x2 x3) (6 : Int32) (279258638311359 : Int64)))), .second, .unset, .unset] rfl ?_
  refine Go.joinI X6 e6 ((expv (ow x0) (tkn x0 x1) (xb x2 x3))) (fun z => mkF m 134 #[.val (.long x0), .second, .val (.long x1), .second, .val (.int x2), .val (.int x3), .val (.long (279258638311359 : Int64)), .second, .val (.long (ow x0)), .second, .val (.long (tkn x0 x1)), .second, .val (.int ((x2 &&& (2147483647 : Int32)) % (7 : Int32))), .val (.int ((x3 &&& (2147483647 : Int32)) % (6 : Int32))), .val (.int (ps x2 x3)), .val (.long (xb x2 x3)), .second, .val (.long (thrv (ow x0) (tkn x0 x1))), .second, .val (.long (star (xb x2 x3))), .second, .unset, .unset] [(.int z)]) ?_ ?_
  · intro J7
    show Go p e below _ T6 (mkF m 105 #[.val (.long x0), .second, .val (.long x1), .second, .val (.int x2), .val (.int x3), .val (.long (279258638311359 : Int64)), .second, .val (.long (ow x0)), .second, .val (.long (tkn x0 x1)), .second, .val (.int ((x2 &&& (2147483647 : Int32)) % (7 : Int32))), .val (.int ((x3 &&& (2147483647 : Int32)) % (6 : Int32))), .val (.int (ps x2 x3)), .val (.long (xb x2 x3)), .second, .val (.long (thrv (ow x0) (tkn x0 x1))), .second, .val (.long (star (xb x2 x3))), .second, .unset, .unset] [])
    refine Go.lload X6 hx (hb hby at_105) rfl rfl  ?_
    refine Go.lload X6 hx (hb hby at_107) rfl rfl  ?_
    refine Go.land X6 hx (hb hby at_109) rfl ?_
    refine Go.lconst X6 hx (hb hby at_110) rfl (0 : Int64) rfl ?_
    refine Go.lcmp X6 hx (hb hby at_111) rfl ?_
    by_cases hc8 : ((tkn x0 x1) &&& (xb x2 x3)) = (0 : Int64)
    · refine Go.ifNo X6 hx (hb hby at_112) rfl ((if0 _ _).trans (teq ((lw_eq ((tkn x0 x1) &&& (xb x2 x3)) (0 : Int64)).mpr hc8)).2) ?_
      refine Go.lload X6 hx (hb hby at_115) rfl rfl  ?_
      refine Go.lload X6 hx (hb hby at_117) rfl rfl  ?_
      refine Go.land X6 hx (hb hby at_119) rfl ?_
      refine Go.lload X6 hx (hb hby at_120) rfl rfl  ?_
      refine Go.lor X6 hx (hb hby at_122) rfl ?_
      refine Go.pureS X6 hx hZ hown (wd 14 rfl) (wd 15 rfl) (wd 1 rfl) (wd 16 rfl) (by decide) [(.long (((ow x0) &&& (star (xb x2 x3))) ||| (xb x2 x3)))] [] (rmH l Z a0 hw (((ow x0) &&& (star (xb x2 x3))) ||| (xb x2 x3)) a_DIRECTIONS k_DIRECTIONS Z.heap O0 FF) e6 rfl (by rw [hml]; rfl) pd_2 rfl (hb hby at_123) (Nat.le_of_ble_eq_true rfl) (Nat.le_of_ble_eq_true rfl) (Nat.le_of_ble_eq_true rfl) (Nat.le_of_ble_eq_true rfl) ?_
      intro T9 X9 e9
      by_cases hc10 : (hfv (((ow x0) &&& (star (xb x2 x3))) ||| (xb x2 x3))) = (0 : Int32)
      · refine Go.ifYes X9 hx (hb hby at_126) rfl 133 ((if0 _ _).trans (teq hc10).1) (by decide) (by decide) ?_
        refine Go.iconst X9 hx (hb hby at_133) rfl (0 : Int32) rfl ?_
        exact J7 _ _ (by unfold expv; rw [if_pos hc8, if_pos hc10]) X9 e9
      · refine Go.ifNo X9 hx (hb hby at_126) rfl ((if0 _ _).trans (feq hc10).1) ?_
        refine Go.iconst X9 hx (hb hby at_129) rfl (1 : Int32) rfl ?_
        refine Go.goto X9 hx (hb hby at_130) rfl 134 (by decide) (by decide) ?_
        exact J7 _ _ (by unfold expv; rw [if_pos hc8, if_neg hc10]) X9 e9
    · refine Go.ifYes X6 hx (hb hby at_112) rfl 133 ((if0 _ _).trans (feq (fun q => hc8 ((lw_eq ((tkn x0 x1) &&& (xb x2 x3)) (0 : Int64)).mp q))).2) (by decide) (by decide) ?_
      refine Go.iconst X6 hx (hb hby at_133) rfl (0 : Int32) rfl ?_
      exact J7 _ _ (by unfold expv; rw [if_neg hc8]) X6 e6
  intro T11 X11 e11
  show Go p e below _ T11 (mkF m 134 #[.val (.long x0), .second, .val (.long x1), .second, .val (.int x2), .val (.int x3), .val (.long (279258638311359 : Int64)), .second, .val (.long (ow x0)), .second, .val (.long (tkn x0 x1)), .second, .val (.int ((x2 &&& (2147483647 : Int32)) % (7 : Int32))), .val (.int ((x3 &&& (2147483647 : Int32)) % (6 : Int32))), .val (.int (ps x2 x3)), .val (.long (xb x2 x3)), .second, .val (.long (thrv (ow x0) (tkn x0 x1))), .second, .val (.long (star (xb x2 x3))), .second, .unset, .unset] [(.int (expv (ow x0) (tkn x0 x1) (xb x2 x3)))])
  refine Go.istore X11 hx (hb hby at_134) rfl  #[.val (.long x0), .second, .val (.long x1), .second, .val (.int x2), .val (.int x3), .val (.long (279258638311359 : Int64)), .second, .val (.long (ow x0)), .second, .val (.long (tkn x0 x1)), .second, .val (.int ((x2 &&& (2147483647 : Int32)) % (7 : Int32))), .val (.int ((x3 &&& (2147483647 : Int32)) % (6 : Int32))), .val (.int (ps x2 x3)), .val (.long (xb x2 x3)), .second, .val (.long (thrv (ow x0) (tkn x0 x1))), .second, .val (.long (star (xb x2 x3))), .second, .val (.int (expv (ow x0) (tkn x0 x1) (xb x2 x3))), .unset] rfl ?_
  refine Go.joinI X11 e11 ((actv (thrv (ow x0) (tkn x0 x1)) (xb x2 x3))) (fun z => mkF m 151 #[.val (.long x0), .second, .val (.long x1), .second, .val (.int x2), .val (.int x3), .val (.long (279258638311359 : Int64)), .second, .val (.long (ow x0)), .second, .val (.long (tkn x0 x1)), .second, .val (.int ((x2 &&& (2147483647 : Int32)) % (7 : Int32))), .val (.int ((x3 &&& (2147483647 : Int32)) % (6 : Int32))), .val (.int (ps x2 x3)), .val (.long (xb x2 x3)), .second, .val (.long (thrv (ow x0) (tkn x0 x1))), .second, .val (.long (star (xb x2 x3))), .second, .val (.int (expv (ow x0) (tkn x0 x1) (xb x2 x3))), .unset] [(.int z)]) ?_ ?_
  · intro J12
    refine Go.lload X11 hx (hb hby at_136) rfl rfl  ?_
    refine Go.lload X11 hx (hb hby at_138) rfl rfl  ?_
    refine Go.land X11 hx (hb hby at_140) rfl ?_
    refine Go.lconst X11 hx (hb hby at_141) rfl (0 : Int64) rfl ?_
    refine Go.lcmp X11 hx (hb hby at_142) rfl ?_
    by_cases hc13 : ((thrv (ow x0) (tkn x0 x1)) &&& (xb x2 x3)) = (0 : Int64)
    · refine Go.ifYes X11 hx (hb hby at_143) rfl 150 ((if0 _ _).trans (teq ((lw_eq ((thrv (ow x0) (tkn x0 x1)) &&& (xb x2 x3)) (0 : Int64)).mpr hc13)).1) (by decide) (by decide) ?_
      refine Go.iconst X11 hx (hb hby at_150) rfl (0 : Int32) rfl ?_
      exact J12 _ _ (by unfold actv; rw [if_pos hc13]) X11 e11
    · refine Go.ifNo X11 hx (hb hby at_143) rfl ((if0 _ _).trans (feq (fun q => hc13 ((lw_eq ((thrv (ow x0) (tkn x0 x1)) &&& (xb x2 x3)) (0 : Int64)).mp q))).1) ?_
      refine Go.iconst X11 hx (hb hby at_146) rfl (1 : Int32) rfl ?_
      refine Go.goto X11 hx (hb hby at_147) rfl 151 (by decide) (by decide) ?_
      exact J12 _ _ (by unfold actv; rw [if_neg hc13]) X11 e11
  intro T14 X14 e14
  show Go p e below _ T14 (mkF m 151 #[.val (.long x0), .second, .val (.long x1), .second, .val (.int x2), .val (.int x3), .val (.long (279258638311359 : Int64)), .second, .val (.long (ow x0)), .second, .val (.long (tkn x0 x1)), .second, .val (.int ((x2 &&& (2147483647 : Int32)) % (7 : Int32))), .val (.int ((x3 &&& (2147483647 : Int32)) % (6 : Int32))), .val (.int (ps x2 x3)), .val (.long (xb x2 x3)), .second, .val (.long (thrv (ow x0) (tkn x0 x1))), .second, .val (.long (star (xb x2 x3))), .second, .val (.int (expv (ow x0) (tkn x0 x1) (xb x2 x3))), .unset] [(.int (actv (thrv (ow x0) (tkn x0 x1)) (xb x2 x3)))])
  refine Go.istore X14 hx (hb hby at_151) rfl  #[.val (.long x0), .second, .val (.long x1), .second, .val (.int x2), .val (.int x3), .val (.long (279258638311359 : Int64)), .second, .val (.long (ow x0)), .second, .val (.long (tkn x0 x1)), .second, .val (.int ((x2 &&& (2147483647 : Int32)) % (7 : Int32))), .val (.int ((x3 &&& (2147483647 : Int32)) % (6 : Int32))), .val (.int (ps x2 x3)), .val (.long (xb x2 x3)), .second, .val (.long (thrv (ow x0) (tkn x0 x1))), .second, .val (.long (star (xb x2 x3))), .second, .val (.int (expv (ow x0) (tkn x0 x1) (xb x2 x3))), .val (.int (actv (thrv (ow x0) (tkn x0 x1)) (xb x2 x3)))] rfl ?_
  refine Go.iload X14 hx (hb hby at_153) rfl rfl  ?_
  refine Go.iload X14 hx (hb hby at_155) rfl rfl  ?_
  refine Go.icmpNo X14 hx (hb hby at_157) rfl (teq (own_main x0 x1 x2 x3)).2 ?_
  refine Go.lload X14 hx (hb hby at_160) rfl rfl  ?_
  refine Go.lload X14 hx (hb hby at_162) rfl rfl  ?_
  refine Go.ldc2_w X14 hx hZ hown (wd 17 rfl) (hb hby at_164) rfl ?_
  refine Go.lxor X14 hx (hb hby at_167) rfl ?_
  show Go p e below _ T14 (mkF m 168 #[.val (.long x0), .second, .val (.long x1), .second, .val (.int x2), .val (.int x3), .val (.long (279258638311359 : Int64)), .second, .val (.long (ow x0)), .second, .val (.long (tkn x0 x1)), .second, .val (.int ((x2 &&& (2147483647 : Int32)) % (7 : Int32))), .val (.int ((x3 &&& (2147483647 : Int32)) % (6 : Int32))), .val (.int (ps x2 x3)), .val (.long (xb x2 x3)), .second, .val (.long (thrv (ow x0) (tkn x0 x1))), .second, .val (.long (star (xb x2 x3))), .second, .val (.int (expv (ow x0) (tkn x0 x1) (xb x2 x3))), .val (.int (actv (thrv (ow x0) (tkn x0 x1)) (xb x2 x3)))] [(.long ((279258638311359 : Int64) ^^^ (-1 : Int64))), (.long (thrv (ow x0) (tkn x0 x1)))])
  rw [show ((279258638311359 : Int64) ^^^ (-1 : Int64)) = (-279258638311360 : Int64) from by decide]
  refine Go.land X14 hx (hb hby at_168) rfl ?_
  refine Go.lconst X14 hx (hb hby at_169) rfl (0 : Int64) rfl ?_
  refine Go.lcmp X14 hx (hb hby at_170) rfl ?_
  refine Go.ifNo X14 hx (hb hby at_171) rfl ((if0 _ _).trans (teq ((lw_eq ((thrv (ow x0) (tkn x0 x1)) &&& (-279258638311360 : Int64)) (0 : Int64)).mpr (own_in x0 x1))).2) ?_
  refine Go.iconst X14 hx (hb hby at_174) rfl (1 : Int32) rfl ?_
  refine Go.goto X14 hx (hb hby at_175) rfl 179 (by decide) (by decide) ?_
  exact Go.retZ X14 hx (z' := (1 : Int32)) hret hlk (hb hby at_179) rfl (by decide) ⟨by first | rfl | simp [], (Fr.nil _)⟩ (Nat.le_of_ble_eq_true rfl) (Nat.le_of_ble_eq_true rfl)
set_option maxRecDepth 65536 in
set_option maxHeartbeats 40000000 in
theorem comes_1 {Post : Tables → Env → Array Value → State → Outcome → State → Prop} (hpost : ∀ tb e args s v u, (limb_1_1.after args s (.returned v) u = true ∧ limb_1_2.after args s (.returned v) u = true ∧ True) → FrameEnd s (.returned v) u (Jvm.fieldLocs frame_1_writes args s ++ Jvm.arrayLocs frame_1_arrays args s ++ Jvm.staticLocs frame_1_statics s) 0 0 → Post tb e args s (.returned v) u) :
    ArmFor flags0 classFile x code maxLocals ret World_1 tables_1 room_1 Calls_1 rest_1 Pre_1 Post := by
  intro l hfl _ _ p e ha hc hk s m args below hf hA hF happ hP
  obtain ⟨hcalls, hrest, hpre⟩ := hP
  obtain ⟨-, -, -, hnamed, -, -, -, hat⟩ := (Spec.applies_iff hf).mp happ
  obtain ⟨hg, hn⟩ := and_e (Cond.before_iff.mp (show (Jvm.Cond.and given_1 narrow_1).before args s = true from hpre))
  obtain ⟨gi0, gi1⟩ := and_e hg
  obtain ⟨gi2, gi3⟩ := and_e gi1
  obtain ⟨gi4, gi5⟩ := and_e gi3
  obtain ⟨gi6, gi7⟩ := and_e gi5
  obtain ⟨w0, w1, w2, w3, rfl⟩ : ∃ w0 w1 w2 w3 : Value, args = #[w0, w1, w2, w3] := by
    have hs : args.size = 4 := by simpa [Cond.value, given_1] using gi0
    obtain ⟨L⟩ := args
    match L, hs with
    | [w0, w1, w2, w3], _ => exact ⟨w0, w1, w2, w3, rfl⟩
  have hw := fun d (hd : d ∈ tables_1) => atoms_spec (ws := Jvm.Cond.code x code maxLocals ret :: tables_1) hat d (List.mem_cons_of_mem _ hd)
  have wd : ∀ {d : Jvm.Cond} (i : Nat), tables_1[i]? = some d → d.before _ s = true := fun i q => hw _ (List.mem_of_getElem? q)
  have hfit : Fit s := fun {y c} hc i hi => by
    obtain ⟨ha, rfl⟩ := Array.getElem?_eq_some_iff.mp hc
    have q := List.all_eq_true.mp ((Array.all_eq_true_iff_forall_mem.mp hF) _ (Array.getElem_mem ha)) i (List.mem_range.mpr hi)
    simpa [Array.getElem?_eq_getElem hi] using q
  obtain ⟨i0, ei0⟩ := isL_v gi2
  obtain rfl : w0 = (.long i0) := Option.some.inj ei0
  obtain ⟨i1, ei1⟩ := isL_v gi4
  obtain rfl : w1 = (.long i1) := Option.some.inj ei1
  obtain ⟨i2, ei2⟩ := is_v gi6
  obtain rfl : w2 = (.int i2) := Option.some.inj ei2
  obtain ⟨i3, ei3⟩ := is_v gi7
  obtain rfl : w3 = (.int i3) := Option.some.inj ei3
  obtain ⟨g1, g2⟩ := and_e hn
  have ev_BOARD := own_eqv g1 (v := (.long (279258638311359 : Int64))) rfl
  have S_BOARD : Sta s s.heap "com/example/afterstate/afterstate/connect4/Bitboard" "BOARD" "J" (.long (279258638311359 : Int64)) := Sta.start ev_BOARD (Or.inr ⟨(wd 1 rfl), (wd 2 rfl)⟩)
  obtain ⟨g3, g4⟩ := and_e g2
  obtain ⟨a_DIRECTIONS, ev_DIRECTIONS⟩ := arr_v g3
  have S_DIRECTIONS : Sta s s.heap "com/example/afterstate/afterstate/connect4/Bitboard" "DIRECTIONS" "[I" (.ref a_DIRECTIONS) := Sta.start ev_DIRECTIONS (Or.inr ⟨(wd 1 rfl), (wd 8 rfl)⟩)
  obtain ⟨cl_DIRECTIONS, Ar_DIRECTIONS⟩ := Arr.start ev_DIRECTIONS g3
  obtain ⟨g5, g6⟩ := and_e g4
  have L_DIRECTIONS := own_eqv g5 (v := (.int (4 : Int32))) rfl
  obtain ⟨g7, g8⟩ := and_e g6
  have el_DIRECTIONS_0 : cl_DIRECTIONS.slots[0]? = some (.int (1 : Int32)) := own_elem Ar_DIRECTIONS ev_DIRECTIONS (j := (0 : Int32)) (by decide) (own_eqv g7 (v := (.int (1 : Int32))) rfl)
  obtain ⟨g9, g10⟩ := and_e g8
  have el_DIRECTIONS_1 : cl_DIRECTIONS.slots[1]? = some (.int (7 : Int32)) := own_elem Ar_DIRECTIONS ev_DIRECTIONS (j := (1 : Int32)) (by decide) (own_eqv g9 (v := (.int (7 : Int32))) rfl)
  obtain ⟨g11, g12⟩ := and_e g10
  have el_DIRECTIONS_2 : cl_DIRECTIONS.slots[2]? = some (.int (8 : Int32)) := own_elem Ar_DIRECTIONS ev_DIRECTIONS (j := (2 : Int32)) (by decide) (own_eqv g11 (v := (.int (8 : Int32))) rfl)
  have el_DIRECTIONS_3 : cl_DIRECTIONS.slots[3]? = some (.int (6 : Int32)) := own_elem Ar_DIRECTIONS ev_DIRECTIONS (j := (3 : Int32)) (by decide) (own_eqv g12 (v := (.int (6 : Int32))) rfl)
  have V_DIRECTIONS : Arv s s.heap a_DIRECTIONS cl_DIRECTIONS.cls .int (4 : Int32) [(.int (1 : Int32)), (.int (7 : Int32)), (.int (8 : Int32)), (.int (6 : Int32))] (.int (0 : Int32)) := Arv.start hfit Ar_DIRECTIONS (own_len Ar_DIRECTIONS ev_DIRECTIONS L_DIRECTIONS).1 (own_len Ar_DIRECTIONS ev_DIRECTIONS L_DIRECTIONS).2 (by decide) rfl ⟨el_DIRECTIONS_0, el_DIRECTIONS_1, el_DIRECTIONS_2, el_DIRECTIONS_3, trivial⟩
  obtain ⟨n, o, h1, h2, h3, _, L, rfl, ⟨rfl, N⟩, hq⟩ := rm0 l s _ hw i0 i1 i2 i3 a_DIRECTIONS cl_DIRECTIONS.cls ⟨S_BOARD, S_DIRECTIONS, V_DIRECTIONS⟩ tables_1 p e ha hc hk s m _ below hf ((Spec.applies_iff_loose hf).mp happ).1 ⟨rfl, State.Warmed39.refl s, rfl⟩ trivial
  refine ⟨n, _, h1, h2, h3, hpost _ _ _ _ _ _ ⟨Cond.after_iff.mpr rfl, Cond.after_iff.mpr (eq_i res_at (Term.int_eval (1)) rfl), trivial⟩ ⟨hq.1, hq.2.1, (hq.2.2.sift fun y hy => Or.inr (N y hy)).mono (by decide) (by decide)⟩⟩
theorem main_1_1 : Claimed_1_1 := comes_1 fun _ _ _ _ _ _ h hF => ⟨h.1, hF⟩
theorem main_1_2 : Claimed_1_2 := comes_1 fun _ _ _ _ _ _ h hF => ⟨h.2.1, hF⟩
end Jvm.Pilot.@@N@@
namespace Jvm.Pilot.@@N@@
open Jvm Jvm.ClassFile Sem Op Lib Jvm.Free Jvm.Stand Jvm.Pilot.@@N@@.Jvm.D
/-! MADE BY PROGRAM (witnessworld.py) out of the Statement's table words and the real class files: 9 classes; the members and pool entries that the words name. The judged class is class 1, her method 1. -/
namespace start1
open Jvm.ClassFile
def u (s : String) : CpInfo := .utf8 (stringToUtf16 s)
/-- a pool by its gaps: so many unusable entries, then the entry; so many at the end -/
def gap : Nat → List CpInfo → List CpInfo
  | 0, r => r
  | n + 1, r => .unusable :: gap n r
def poolList (es : List (Nat × CpInfo)) (last : Nat) : List CpInfo := es.foldr (fun e r => gap e.1 (e.2 :: r)) (gap last [])
def pool (es : List (Nat × CpInfo)) (last : Nat) : Array CpInfo := ⟨poolList es last⟩
def fileOf (pool : Array CpInfo) (this : Nat) (attrs : Array Attribute := #[]) (ms : Array MethodInfo := #[]) (fl : Nat := 33) (sup : Nat := 0) (ifs : Array Nat := #[]) (fds : Array FieldInfo := #[]) : ClassFile where
  minorVersion := 0
  majorVersion := 65
  constantPool := pool
  accessFlags := fl
  thisClass := this
  superClass := sup
  interfaces := ifs
  fields := fds
  methods := ms
  attributes := attrs
def plain (name : String) (sup : Option ClassId) : Class where
  name := name
  kind := .ordinary
  loader := none
  accessFlags := 33
  super := sup
  interfaces := #[]
  cf := none
  fields := #[]
  methods := #[]
  instanceTypes := #[]
  staticTypes := #[]
  resolved := #[]
  callSites := []
  init := .initialized
  statics := none
  mirror := none

def pool0 : Array CpInfo := pool [(5, u "<init>"), (0, u "()V"), (1, .class_ 10), (1, u "java/lang/Object")] 113

def k0m0 : Method := { name := "<init>", desc := "()V", sig := { parameters := [], returnType := none }, accessFlags := 1, code := none }
/-- java/lang/Object -/
def k0 : Class := { plain "java/lang/Object" none with
  accessFlags := 33
  interfaces := #[]
  cf := some (fileOf pool0 8 #[] #[{ accessFlags := 1, nameIndex := 5, descriptorIndex := 6, attributes := #[] }] 33 0 #[] #[])
  fields := #[]
  methods := #[k0m0]
  instanceTypes := #[]
  staticTypes := #[]
  resolved := Array.replicate 124 none
  statics := none }

def pool1 : Array CpInfo := pool [(2, .class_ 4), (1, u "java/lang/Object"), (0, u "<init>"), (0, u "()V"), (0, .fieldref 8 9), (0, .class_ 10), (0, .nameAndType 11 12), (0, u "com/example/afterstate/afterstate/connect4/Bitboard"), (0, u "BOARD"), (0, u "J"), (0, .integer 2147483647), (0, .methodref 8 15), (0, .nameAndType 16 17), (0, u "threats"), (0, u "(JJ)J"), (0, .methodref 19 20), (0, .class_ 21), (0, .nameAndType 22 23), (0, u "com/example/afterstate/afterstate/connect4/BitboardThreatsPinLaw"), (0, u "ray"), (0, u "(JIJ)J"), (0, .methodref 8 25), (0, .nameAndType 26 27), (0, u "hasFour"), (0, u "(J)Z"), (0, .long 18446744073709551615), (3, u "law"), (0, u "(JJII)Z")] 3

def k1m0 : Method := { name := "<init>", desc := "()V", sig := { parameters := [], returnType := none }, accessFlags := 2, code := none }
def k1c1 : Code := { maxStack := 7, maxLocals := 23, code := code, exceptionTable := #[], attributes := #[] }
def k1m1 : Method := { name := "law", desc := "(JJII)Z", sig := { parameters := [.long, .long, .int, .int], returnType := some .boolean }, accessFlags := 9, code := some k1c1 }
def k1c2 : Code := { maxStack := 4, maxLocals := 17, code := method_3_code, exceptionTable := #[], attributes := #[] }
def k1m2 : Method := { name := "ray", desc := "(JIJ)J", sig := { parameters := [.long, .int, .long], returnType := some .long }, accessFlags := 10, code := some k1c2 }
/-- com/example/afterstate/afterstate/connect4/BitboardThreatsPinLaw -/
def k1 : Class := { plain "com/example/afterstate/afterstate/connect4/BitboardThreatsPinLaw" (some 0) with
  accessFlags := 49
  interfaces := #[]
  cf := some (fileOf pool1 19 #[] #[{ accessFlags := 2, nameIndex := 5, descriptorIndex := 6, attributes := #[] }, { accessFlags := 9, nameIndex := 32, descriptorIndex := 33, attributes := #[] }, { accessFlags := 10, nameIndex := 22, descriptorIndex := 23, attributes := #[] }] 49 2 #[] #[])
  fields := #[]
  methods := #[k1m0, k1m1, k1m2]
  instanceTypes := #[]
  staticTypes := #[]
  resolved := Array.replicate 37 none
  statics := none }

def pool2 : Array CpInfo := pool [(4, .class_ 6), (1, u "java/lang/Object"), (0, u "<init>"), (0, u "()V"), (0, .class_ 10), (0, u "com/example/afterstate/afterstate/connect4/Bitboard"), (4, u "BOTTOM"), (0, u "J"), (0, .fieldref 9 18), (0, .nameAndType 19 16), (0, u "BOARD"), (0, .fieldref 9 21), (0, .nameAndType 22 23), (0, u "DIRECTIONS"), (0, u "[I"), (10, u "HEIGHT"), (0, u "I"), (2, u "COLUMN"), (6, u "hasFour"), (0, u "(J)Z"), (2, u "threats"), (0, u "(JJ)J")] 5

def k2m0 : Method := { name := "<init>", desc := "()V", sig := { parameters := [], returnType := none }, accessFlags := 2, code := none }
def k2c1 : Code := { maxStack := 6, maxLocals := 8, code := prog_22_method_5_code, exceptionTable := #[], attributes := #[] }
def k2m1 : Method := { name := "hasFour", desc := "(J)Z", sig := { parameters := [.long], returnType := some .boolean }, accessFlags := 8, code := some k2c1 }
def k2c2 : Code := { maxStack := 8, maxLocals := 14, code := prog_22_method_6_code, exceptionTable := #[], attributes := #[] }
def k2m2 : Method := { name := "threats", desc := "(JJ)J", sig := { parameters := [.long, .long], returnType := some .long }, accessFlags := 8, code := some k2c2 }
/-- com/example/afterstate/afterstate/connect4/Bitboard -/
def k2 : Class := { plain "com/example/afterstate/afterstate/connect4/Bitboard" (some 0) with
  accessFlags := 32
  interfaces := #[]
  cf := some (fileOf pool2 9 #[] #[{ accessFlags := 2, nameIndex := 7, descriptorIndex := 8, attributes := #[] }, { accessFlags := 8, nameIndex := 45, descriptorIndex := 46, attributes := #[] }, { accessFlags := 8, nameIndex := 49, descriptorIndex := 50, attributes := #[] }] 32 4 #[] #[{ accessFlags := 24, nameIndex := 34, descriptorIndex := 35, attributes := #[] }, { accessFlags := 24, nameIndex := 15, descriptorIndex := 16, attributes := #[] }, { accessFlags := 24, nameIndex := 19, descriptorIndex := 16, attributes := #[] }, { accessFlags := 26, nameIndex := 38, descriptorIndex := 16, attributes := #[] }, { accessFlags := 26, nameIndex := 22, descriptorIndex := 23, attributes := #[] }])
  fields := #[{ name := "HEIGHT", type := .int, accessFlags := 24, slot := 0, constantValue := 0 }, { name := "BOTTOM", type := .long, accessFlags := 24, slot := 1, constantValue := 0 }, { name := "BOARD", type := .long, accessFlags := 24, slot := 2, constantValue := 0 }, { name := "COLUMN", type := .long, accessFlags := 26, slot := 3, constantValue := 0 }, { name := "DIRECTIONS", type := (.array .int), accessFlags := 26, slot := 4, constantValue := 0 }]
  methods := #[k2m0, k2m1, k2m2]
  instanceTypes := #[]
  staticTypes := #[.int, .long, .long, .long, (.array .int)]
  resolved := Array.replicate 56 none
  statics := some 0 }

def pool3 : Array CpInfo := pool [(1, u "java/lang/Cloneable"), (0, .class_ 1), (0, u "java/lang/Object"), (0, .class_ 3)] 3

/-- java/lang/Cloneable -/
def k3 : Class := { plain "java/lang/Cloneable" (some 0) with
  accessFlags := 1537
  interfaces := #[]
  cf := some (fileOf pool3 2 #[] #[] 1537 4 #[] #[])
  fields := #[]
  methods := #[]
  instanceTypes := #[]
  staticTypes := #[]
  resolved := Array.replicate 8 none
  statics := none }

def pool4 : Array CpInfo := pool [(1, u "java/io/Serializable"), (0, .class_ 1), (0, u "java/lang/Object"), (0, .class_ 3)] 3

/-- java/io/Serializable -/
def k4 : Class := { plain "java/io/Serializable" (some 0) with
  accessFlags := 1537
  interfaces := #[]
  cf := some (fileOf pool4 2 #[] #[] 1537 4 #[] #[])
  fields := #[]
  methods := #[]
  instanceTypes := #[]
  staticTypes := #[]
  resolved := Array.replicate 8 none
  statics := none }

/-- the primitive byte -/
def k5 : Class := { plain "byte" none with kind := .primitive 'B', accessFlags := 0x411 }
/-- [B -/
def k6 : Class := { plain "[B" (some 0) with kind := .array 5 .byte, interfaces := #[3, 4], accessFlags := 1041 }

/-- the primitive int -/
def k7 : Class := { plain "int" none with kind := .primitive 'I', accessFlags := 0x411 }
/-- [I -/
def k8 : Class := { plain "[I" (some 0) with kind := .array 7 .int, interfaces := #[3, 4], accessFlags := 1041 }

def heap : Heap := #[{ cls := 2, slots := #[.int 0, .long 0, .long 279258638311359, .long 0, .ref 1], vm := .statics 2 },
  { cls := 8, slots := #[.int 1, .int 7, .int 8, .int 6], vm := .none }]
def classes : Array Class := #[k0, k1, k2, k3, k4, k5, k6, k7, k8]
def interned : List (Array UInt16 × Addr) := []
def slotsUsed : Nat := 9
def theMethod : MethodId := ⟨1, 1⟩
def args0 : Array Value := #[.long 5, .long 6, .int 3, .int 4]
def aboutOver (below : List Frame) : State where
  vm := { classes := classes, interned := interned.toArray }
  heap := heap
  slotsUsed := slotsUsed
  threads := #[{ frames := .invoking theMethod args0 :: below }]
def below0 : List Frame := [.native { method := ⟨0, 0⟩, args := #[] }]
def about1 : State := aboutOver below0
def p0 : Program := .bare "" "" ""
def e0 : Env := launch0.env 0 0 0
theorem w_frames : about1.frames = Frame.invoking theMethod args0 :: below0 := rfl
set_option maxRecDepth 65536 in
theorem w_args : argsFit about1.vm theMethod args0 = true := by decide +kernel
set_option maxRecDepth 65536 in
theorem w_heap : heapFits about1 = true := by decide +kernel
set_option maxRecDepth 65536 in
theorem w_runnable : about1.curStatus? = some .runnable := by decide +kernel
set_option maxRecDepth 65536 in
theorem w_alone : about1.alone = true := by decide +kernel
set_option maxRecDepth 65536 in
theorem w_named : about1.methodNamed? x = some theMethod := by decide +kernel
set_option maxRecDepth 65536 in
theorem w_hears : about1.hears theMethod below0 = true := by decide +kernel
set_option maxRecDepth 65536 in
theorem w_ripe : about1.ripe theMethod args0 below0 = true := by decide +kernel
theorem w_running : about1.status = .running := rfl
set_option maxRecDepth 65536 in
theorem w_room : about1.hasRoom e0.platform room_1 = true :=
  launch0.hasRoom_least _ room_1 (by decide +kernel) (by decide +kernel) (by decide +kernel) (by decide +kernel) (by decide +kernel) (by decide +kernel)
theorem allAtoms_all (ts : List Jvm.Cond) (a : Array Jvm.Value) (st : Jvm.State) : (allAtoms ts).before a st = ts.all (fun c => c.before a st) := by
  induction ts with
  | nil => rfl
  | cons c t ih =>
    show (Jvm.Cond.and c (allAtoms t)).before a st = _
    rw [Jvm.Cond.before_and, ih, List.all_cons]
def words1 : List Jvm.Cond := Jvm.Cond.code x code maxLocals ret :: tables_1
/-- a 'code' word, met by the world's own term for the bytes: nothing is compared byte by byte -/
theorem code_word {y : MethodName} {bytes : ByteArray} {mx : Nat} {rt : Option FieldType} {a : Array Value} {s : State} {m : MethodId} {meth : Method} {c : Code} (h1 : s.methodNamed? y = some m) (h2 : s.vm.method? m = some meth) (h3 : meth.code = some c) (h4 : c.code = bytes)
    (h5 : (c.maxLocals == mx && c.exceptionTable.isEmpty && decide (c.maxStack ≤ mostOperands) && decide (meth.sig.returnType = rt) && !meth.locks && decide (parseMethodDescriptor y.desc = some meth.sig)) = true) : (Jvm.Cond.code y bytes mx rt).before a s = true := by
  simp only [Bool.and_eq_true, beq_iff_eq, Bool.not_eq_true', decide_eq_true_eq] at h5
  obtain ⟨⟨⟨⟨⟨g1, g2⟩, g3⟩, g4⟩, g5⟩, g6⟩ := h5
  simp [Cond.before, Cond.holds, Cond.value, h1, h2, h3, h4, g1, g2, g3, g4, g5, g6]
def isCode : Jvm.Cond → Bool
  | .code _ _ _ _ => true
  | _ => false
theorem all_split {L : List Jvm.Cond} {P : Jvm.Cond → Bool} (h1 : L.all (fun c => isCode c || P c) = true) (h2 : ∀ c ∈ L.filter isCode, P c = true) : L.all P = true := by
  refine List.all_eq_true.mpr fun c hc => ?_
  have h := List.all_eq_true.mp h1 c hc
  rcases Bool.eq_false_or_eq_true (isCode c) with hi | hi
  · exact h2 c (List.mem_filter.mpr ⟨hc, hi⟩)
  · simpa [hi] using h
set_option maxRecDepth 65536 in
theorem w_c0 : (Jvm.Cond.code x code maxLocals ret).before args0 about1 = true := code_word (m := ⟨1, 1⟩) (meth := k1m1) (c := k1c1) (by decide +kernel) rfl rfl rfl (by decide +kernel)
set_option maxRecDepth 65536 in
theorem w_c1 : (Jvm.Cond.code ({ cls := "com/example/afterstate/afterstate/connect4/Bitboard", name := "threats", desc := "(JJ)J" } : Jvm.MethodName) prog_22_method_6_code (14 : Nat) (Option.some Jvm.ClassFile.FieldType.long)).before args0 about1 = true := code_word (m := ⟨2, 2⟩) (meth := k2m2) (c := k2c2) (by decide +kernel) rfl rfl rfl (by decide +kernel)
set_option maxRecDepth 65536 in
theorem w_c2 : (Jvm.Cond.code ({ cls := "com/example/afterstate/afterstate/connect4/BitboardThreatsPinLaw", name := "ray", desc := "(JIJ)J" } : Jvm.MethodName) method_3_code (17 : Nat) (Option.some Jvm.ClassFile.FieldType.long)).before args0 about1 = true := code_word (m := ⟨1, 2⟩) (meth := k1m2) (c := k1c2) (by decide +kernel) rfl rfl rfl (by decide +kernel)
set_option maxRecDepth 65536 in
theorem w_c3 : (Jvm.Cond.code ({ cls := "com/example/afterstate/afterstate/connect4/Bitboard", name := "hasFour", desc := "(J)Z" } : Jvm.MethodName) prog_22_method_5_code (8 : Nat) (Option.some Jvm.ClassFile.FieldType.boolean)).before args0 about1 = true := code_word (m := ⟨2, 1⟩) (meth := k2m1) (c := k2c1) (by decide +kernel) rfl rfl rfl (by decide +kernel)
def codes1 : List Jvm.Cond := [Jvm.Cond.code x code maxLocals ret, Jvm.Cond.code ({ cls := "com/example/afterstate/afterstate/connect4/Bitboard", name := "threats", desc := "(JJ)J" } : Jvm.MethodName) prog_22_method_6_code (14 : Nat) (Option.some Jvm.ClassFile.FieldType.long), Jvm.Cond.code ({ cls := "com/example/afterstate/afterstate/connect4/BitboardThreatsPinLaw", name := "ray", desc := "(JIJ)J" } : Jvm.MethodName) method_3_code (17 : Nat) (Option.some Jvm.ClassFile.FieldType.long), Jvm.Cond.code ({ cls := "com/example/afterstate/afterstate/connect4/Bitboard", name := "hasFour", desc := "(J)Z" } : Jvm.MethodName) prog_22_method_5_code (8 : Nat) (Option.some Jvm.ClassFile.FieldType.boolean)]
set_option maxRecDepth 65536 in
theorem codes_eq : words1.filter isCode = codes1 := rfl
theorem w_codes : ∀ c ∈ words1.filter isCode, c.before args0 about1 = true := by
  rw [codes_eq]
  intro c hc
  simp only [codes1, List.mem_cons, List.not_mem_nil, or_false] at hc
  rcases hc with rfl | rfl | rfl | rfl
  · exact w_c0
  · exact w_c1
  · exact w_c2
  · exact w_c3
set_option maxRecDepth 65536 in
theorem w_t1 : words1.all (fun c => isCode c || c.before args0 about1) = true := by decide +kernel
theorem w_tables : (allAtoms (Jvm.Cond.code x code maxLocals ret :: tables_1)).before args0 about1 = true := by
  rw [allAtoms_all]
  show words1.all (fun c => c.before args0 about1) = true
  refine all_split ?_ w_codes
  rw [w_t1]
set_option maxRecDepth 65536 in
theorem w_case : (Jvm.Cond.and given_1 narrow_1).before args0 about1 = true := by decide +kernel
theorem w_applies : (headSpec (Jvm.Cond.code x code maxLocals ret :: tables_1) room_1).applies x e0.platform about1 = true :=
  (Spec.applies_iff w_frames).mpr ⟨w_running, w_runnable, w_alone, w_named, w_hears, w_ripe, w_room, w_tables⟩
theorem atStart : AtStart classFile x code maxLocals ret World_1 tables_1 room_1 Calls_1 rest_1 Pre_1 launch0 p0 e0 about1 theMethod args0 below0 :=
  ⟨lists_1, trivial, launch0.admits_env _ _ _, launch0.least_env, fairChoices_fair.cas, fairChoices_fair.clock, w_frames, w_args, w_heap, w_applies, trivial, trivial, w_case⟩
end start1
theorem witness_1 : WitnessClaimed_1 := ⟨start1.p0, start1.e0, start1.about1, start1.theMethod, start1.args0, start1.below0, start1.atStart⟩
end Jvm.Pilot.@@N@@
