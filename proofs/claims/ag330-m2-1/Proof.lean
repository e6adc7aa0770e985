import JvmDerived
import JvmDerived.Pilot.@@N@@Statement
import JvmDerived.Pilot.@@N@@Code
set_option linter.unusedVariables false
set_option linter.unusedSimpArgs false
@@BLOCK:NumsL.lean.txt@@
namespace Jvm.Pilot.@@N@@
open Jvm Jvm.ClassFile Sem Op Lib Jvm.Free Jvm.Stand Jvm.LawKit Jvm.RoadKit Bundle Jvm.Pilot.@@N@@.Jvm.D
/-! OWN: the walks' own small calculus: 'Go' says that the run, standing in T with the top frame g, comes to an end that answers; every step carries a Go at the next place back to a Go at this one, so that a walk may fork and join. -/
section Own
variable {p : Program} {l : Launch} {e : Env} {R : Room} {s Z : State} {m : MethodId} {args a0 : Array Value} {below : List Frame} {meth : Method} {c : Code} {T : State} {locs : List Loc} {cells slots : Nat} {h : Heap} {P : Outcome → State → Prop}
/-- what a body must come to -/
def OwnEnd (Q : Option Value → Heap → List Loc → Prop) (s : State) (k n : Nat) (o : Outcome) (t : State) : Prop := ∃ v L, o = .returned v ∧ Q v t.heap L ∧ FrameEnd s o t L k n
def Go (p : Program) (e : Env) (below : List Frame) (P : Outcome → State → Prop) (T : State) (g : JFrame) : Prop := ∃ t o, Steps p.tables e below (T.setTop g) t ∧ t.status = .running ∧ Ended t below o ∧ P o t
theorem Go.of {T' : State} {g g' : JFrame} (k : ∀ t, Steps p.tables e below (T'.setTop g') t → Steps p.tables e below (T.setTop g) t) (K : Go p e below P T' g') : Go p e below P T g := by
  obtain ⟨t, o, h1, h2⟩ := K
  exact ⟨t, o, k t h1, h2⟩
theorem Go.joinI {g : JFrame} (X : Stand p l e R s m args below meth c T locs cells slots) (eT : T.heap = h) (v0 : Int32) (g1 : Int32 → JFrame) (K : (∀ (T' : State) (v : Int32), v = v0 → Stand p l e R s m args below meth c T' locs cells slots → T'.heap = h → Go p e below P T' (g1 v)) → Go p e below P T g)
    (J : ∀ T', Stand p l e R s m args below meth c T' locs cells slots → T'.heap = h → Go p e below P T' (g1 v0)) : Go p e below P T g := K fun T' v q X' e' => q ▸ J T' X' e'
theorem Go.joinJ {g : JFrame} (X : Stand p l e R s m args below meth c T locs cells slots) (eT : T.heap = h) (v0 : Int64) (g1 : Int64 → JFrame) (K : (∀ (T' : State) (v : Int64), v = v0 → Stand p l e R s m args below meth c T' locs cells slots → T'.heap = h → Go p e below P T' (g1 v)) → Go p e below P T g)
    (J : ∀ T', Stand p l e R s m args below meth c T' locs cells slots → T'.heap = h → Go p e below P T' (g1 v0)) : Go p e below P T g := K fun T' v q X' e' => q ▸ J T' X' e'
theorem Go.joinR {g : JFrame} (X : Stand p l e R s m args below meth c T locs cells slots) (eT : T.heap = h) (v0 : Addr) (g1 : Addr → JFrame) (K : (∀ (T' : State) (v : Addr), v = v0 → Stand p l e R s m args below meth c T' locs cells slots → T'.heap = h → Go p e below P T' (g1 v)) → Go p e below P T g)
    (J : ∀ T', Stand p l e R s m args below meth c T' locs cells slots → T'.heap = h → Go p e below P T' (g1 v0)) : Go p e below P T g := K fun T' v q X' e' => q ▸ J T' X' e'
theorem Go.cast {g g' : JFrame} (q : g = g') (K : Go p e below P T g') : Go p e below P T g := q ▸ K
theorem Go.leave (X : Stand p l e R s m args below meth c T locs cells slots) {g : JFrame} {v : Option Value} (hv : meth.sig.returnType = none → v = none) (hlk : meth.locks = false) {Q : Option Value → Heap → List Loc → Prop} {k n : Nat} (hc : cells ≤ k) (hs : slots ≤ n) (hQ : Q v T.heap locs)
    (st : ∀ fs, (∀ (f : JFrame) (acts : List Action), f.method = m → f.locked = none → f.entered = [] → (doReturn e (T.setTop f) acts v).1 = T.setFrames fs) → Steps p.tables e below (T.setTop g) (T.setFrames fs)) : Go p e below (OwnEnd Q s k n) T g := by
  obtain ⟨fs, hr, hrun, hended, hW, hsame⟩ := X.leave hv hlk
  exact ⟨_, _, st fs hr, hrun, hended, _, _, rfl, hQ, ⟨_, rfl⟩, hW, hsame.mono hc hs⟩
theorem Go.retZ (X : Stand p l e R s m args below meth c T locs cells slots) (hx : p.tables.exec = Jvm.exec) {pc pc0 : Nat} {Ls : Array Slot} {z z' : Int32} {rest : List Value} (hret : meth.sig.returnType = some .boolean) (hlk : meth.locks = false) (hd : decode c.code pc0 = .ok (.ireturn, 1)) (hpc : pc = pc0) {Q : Option Value → Heap → List Loc → Prop} {k n : Nat}
    (hz : z &&& 1 = z') (hQ : Q (some (.int z')) T.heap locs) (hc : cells ≤ k) (hs : slots ≤ n) : Go p e below (OwnEnd Q s k n) T (mkF m pc Ls (.int z :: rest)) := by
  subst hz hpc
  exact Go.leave X (v := some (.int (nar .boolean z))) (fun q => by rw [hret] at q; cases q) hlk hc hs hQ fun fs hr => retN X hx (t := .boolean) hret (by simp) hd hr
theorem Go.retW (X : Stand p l e R s m args below meth c T locs cells slots) (hx : p.tables.exec = Jvm.exec) {pc pc0 : Nat} {Ls : Array Slot} {w : Value} {t : FieldType} {i : Instr} {rest : List Value} (hret : meth.sig.returnType = some t) (hlk : meth.locks = false) (hn : narrow t w = w)
    (hi : (i = .ireturn ∧ (t = .int ∨ t = .boolean ∨ t = .byte ∨ t = .char ∨ t = .short) ∧ ∃ z, w = .int z) ∨ (i = .lreturn ∧ t = .long ∧ ∃ z, w = .long z) ∨ (i = .dreturn ∧ t = .double ∧ ∃ z, w = .double z) ∨ (i = .freturn ∧ t = .float ∧ ∃ z, w = .float z) ∨ (i = .areturn ∧ t.isReference = true ∧ w.isRef = true))
    (hd : decode c.code pc0 = .ok (i, 1)) (hpc : pc = pc0) {Q : Option Value → Heap → List Loc → Prop} {k n : Nat} (hQ : Q (some w) T.heap locs) (hc : cells ≤ k) (hs : slots ≤ n) : Go p e below (OwnEnd Q s k n) T (mkF m pc Ls (w :: rest)) := by
  subst hpc
  exact Go.leave X (v := some w) (fun q => by rw [hret] at q; cases q) hlk hc hs hQ fun fs hr => retOut X hx hret hn hi hd hr
theorem Go.retI (X : Stand p l e R s m args below meth c T locs cells slots) (hx : p.tables.exec = Jvm.exec) {pc pc0 : Nat} {Ls : Array Slot} {z : Int32} {rest : List Value} (hret : meth.sig.returnType = some .int) (hlk : meth.locks = false) (hd : decode c.code pc0 = .ok (.ireturn, 1)) (hpc : pc = pc0) {Q : Option Value → Heap → List Loc → Prop} {k n : Nat}
    (hQ : Q (some (.int z)) T.heap locs) (hc : cells ≤ k) (hs : slots ≤ n) : Go p e below (OwnEnd Q s k n) T (mkF m pc Ls (.int z :: rest)) := Go.retW X hx hret hlk rfl (Or.inl ⟨rfl, Or.inl rfl, _, rfl⟩) hd hpc hQ hc hs
theorem Go.retJ (X : Stand p l e R s m args below meth c T locs cells slots) (hx : p.tables.exec = Jvm.exec) {pc pc0 : Nat} {Ls : Array Slot} {z : Int64} {rest : List Value} (hret : meth.sig.returnType = some .long) (hlk : meth.locks = false) (hd : decode c.code pc0 = .ok (.lreturn, 1)) (hpc : pc = pc0) {Q : Option Value → Heap → List Loc → Prop} {k n : Nat}
    (hQ : Q (some (.long z)) T.heap locs) (hc : cells ≤ k) (hs : slots ≤ n) : Go p e below (OwnEnd Q s k n) T (mkF m pc Ls (.long z :: rest)) := Go.retW X hx hret hlk rfl (Or.inr (Or.inl ⟨rfl, rfl, _, rfl⟩)) hd hpc hQ hc hs
theorem Go.retA (X : Stand p l e R s m args below meth c T locs cells slots) (hx : p.tables.exec = Jvm.exec) {pc pc0 : Nat} {Ls : Array Slot} {w : Value} {t : FieldType} {rest : List Value} (hret : meth.sig.returnType = some t) (hlk : meth.locks = false) (ht : t.isReference = true) (hw : w.isRef = true) (hd : decode c.code pc0 = .ok (.areturn, 1)) (hpc : pc = pc0) {Q : Option Value → Heap → List Loc → Prop} {k n : Nat}
    (hQ : Q (some w) T.heap locs) (hc : cells ≤ k) (hs : slots ≤ n) : Go p e below (OwnEnd Q s k n) T (mkF m pc Ls (w :: rest)) := by
  refine Go.retW X hx hret hlk ?_ (Or.inr (Or.inr (Or.inr (Or.inr ⟨rfl, ht, hw⟩)))) hd hpc hQ hc hs
  rcases ref_cases hw with rfl | ⟨a, rfl⟩ <;> cases t <;> first | rfl | (simp [FieldType.isReference] at ht)
theorem Go.retV (X : Stand p l e R s m args below meth c T locs cells slots) (hx : p.tables.exec = Jvm.exec) {pc pc0 : Nat} {Ls : Array Slot} (hret : meth.sig.returnType = none) (hlk : meth.locks = false) (hd : decode c.code pc0 = .ok (.return_, 1)) (hpc : pc = pc0) {Q : Option Value → Heap → List Loc → Prop} {k n : Nat}
    (hQ : Q none T.heap locs) (hc : cells ≤ k) (hs : slots ≤ n) : Go p e below (OwnEnd Q s k n) T (mkF m pc Ls []) := by
  subst hpc
  exact Go.leave X (v := none) (fun _ => rfl) hlk hc hs hQ fun fs hr => X.returnOut hx hret hd hr
/-- a contract of a body: called on these arguments and this heap -/
def Ctr (l : Launch) (Z : State) (y : MethodName) (code : ByteArray) (mx : Nat) (ret : Option FieldType) (Rm : Room) (as' : Array Value) (h : Heap) (Q : Option Value → Heap → List Loc → Prop) : Prop :=
  ∀ ws : List Cond, MetFree l y (head1 (Cond.code y code mx ret :: ws) Rm) (fun a U => a = as' ∧ Z.Warmed39 U.vm ∧ U.heap = h) (fun _ _ _ _ _ => True) (fun _ U o U' => OwnEnd Q U Rm.cells Rm.slots o U')
theorem Ctr.of {y : MethodName} {code : ByteArray} {mx : Nat} {ret : Option FieldType} {Rm : Room} {as' : Array Value} {Q : Option Value → Heap → List Loc → Prop} (hp : plainFor y = true)
    (body : ∀ (p : Program) (e : Env) (s : State) (m : MethodId) (below : List Frame) (meth : Method) (c : Code) (s₁ : State), p.tables.exec = Jvm.exec → c.code = code → c.maxLocals = mx → s.vm.findClass y.cls = some m.cls → meth.name = y.name → meth.sig.returnType = ret → meth.locks = false → Z.Warmed39 s.vm →
      Stand p l e Rm s m as' below meth c s₁ [] 0 0 → s₁.heap = h → Go p e below (OwnEnd Q s Rm.cells Rm.slots) s₁ (entryFrame m as' mx)) : Ctr l Z y code mx ret Rm as' h Q := by
  intro ws
  refine MetFree.of_bodySF hp hisR ?_
  intro p e s m args below meth c s₁ Bd hml hP hK
  obtain ⟨rfl, hZ, hh⟩ := hP
  exact body p e s m below meth c s₁ Bd.exec Bd.bytes hml (findClass_of_methodNamed Bd.named) (name_of_methodNamed Bd.named Bd.method).1 Bd.returns Bd.notSynchronized hZ (Stand.of_body Bd) (by rw [← hh, Bd.state]; rfl)
/-- a body that returns V, writes nothing and makes nothing -/
def Pur (l : Launch) (Z : State) (y : MethodName) (code : ByteArray) (mx : Nat) (ret : Option FieldType) (fr lo : Nat) (as' : Array Value) (h : Heap) (V : Option Value) : Prop :=
  Ctr l Z y code mx ret ({ frames := fr, cells := 0, slots := 0, locals := lo } : Room) as' h fun v h' L => v = V ∧ L = [] ∧ h' = h
theorem Go.callS (X : Stand p l e R s m args below meth c T locs cells slots) (hx : p.tables.exec = Jvm.exec) (hZ : Z.Warmed39 s.vm) {own : String} {index : Nat} {y : MethodName} {bytes : ByteArray} {maxL : Nat} {ret : Option FieldType} (hown : s.vm.findClass own = some m.cls)
    (w1 : (Cond.methodLink own index y).before a0 Z = true) (w2 : (Cond.static y).before a0 Z = true) (w3 : (Cond.initialized y.cls).before a0 Z = true) (w4 : (Cond.code y bytes maxL ret).before a0 Z = true) (hy : y.cls ≠ "java/lang/invoke/MethodHandle" ∧ y.cls ≠ "java/lang/invoke/VarHandle")
    {Rm : Room} {Q : Option Value → Heap → List Loc → Prop} (argsL rest : List Value) (C : Ctr l Z y bytes maxL ret Rm argsL.toArray h Q) (eT : T.heap = h) {pc : Nat} {Ls : Array Slot} {st : List Value} (hst : st = argsL.reverse ++ rest) (hsz : Ls.size = c.maxLocals) {ps : List FieldType} {r : Option FieldType} (hpd : parseMethodDescriptor y.desc = some ⟨ps, r⟩) (hln : argsL.length = ps.length)
    (hd : decode c.code pc = .ok (.invokestatic index, 3)) (hfr : Rm.frames + 1 ≤ R.frames) (hlo : (rest.map fun v => v.category).sum + (maxL + 11) + Rm.locals ≤ R.locals) (hc : cells + Rm.cells ≤ R.cells) (hs : slots + Rm.slots ≤ R.slots)
    (K : ∀ v T' L, Stand p l e R s m args below meth c T' (locs ++ L) (cells + Rm.cells) (slots + Rm.slots) → Q v T'.heap L → Go p e below P T' (mkF m (pc + 3) Ls (v.toList ++ rest))) : Go p e below P T (mkF m pc Ls st) := by
  subst hst
  obtain ⟨v, _, ⟨T', L', k', n'⟩, -, X', ⟨L, hQ, l1, l2, l3⟩, st⟩ := Jvm.LawKit.callS X hx (y := y) hown (mvT hZ w1) (mvT hZ w2) (mvT hZ w3) (mvT hZ w4) hy (backOf (W := (rest.map fun v => v.category).sum) (Q := Q) (C []) hZ w4 w3 hfr hlo) (g := mkF m pc Ls (argsL.reverse ++ rest)) rfl hsz (argsL := argsL) (rest := rest) (lenOf hpd hln) rfl (by show 2 * 0 + _ ≤ _; omega) hd (fun _ _ => ⟨rfl, eT, hc, hs⟩)
  dsimp only [Pt.U, Pt.locs, Pt.cells, Pt.slots] at X' l1 l2 l3 st hQ
  subst l1 l2 l3
  exact Go.of st (K v T' L X' hQ)
theorem Go.pureS (X : Stand p l e R s m args below meth c T locs cells slots) (hx : p.tables.exec = Jvm.exec) (hZ : Z.Warmed39 s.vm) {own : String} {index : Nat} {y : MethodName} {bytes : ByteArray} {maxL : Nat} {ret : Option FieldType} (hown : s.vm.findClass own = some m.cls)
    (w1 : (Cond.methodLink own index y).before a0 Z = true) (w2 : (Cond.static y).before a0 Z = true) (w3 : (Cond.initialized y.cls).before a0 Z = true) (w4 : (Cond.code y bytes maxL ret).before a0 Z = true) (hy : y.cls ≠ "java/lang/invoke/MethodHandle" ∧ y.cls ≠ "java/lang/invoke/VarHandle")
    {fr lo : Nat} {V : Option Value} (argsL rest : List Value) (C : Pur l Z y bytes maxL ret fr lo argsL.toArray h V) (eT : T.heap = h) {pc : Nat} {Ls : Array Slot} {st : List Value} (hst : st = argsL.reverse ++ rest) (hsz : Ls.size = c.maxLocals) {ps : List FieldType} {r : Option FieldType} (hpd : parseMethodDescriptor y.desc = some ⟨ps, r⟩) (hln : argsL.length = ps.length)
    (hd : decode c.code pc = .ok (.invokestatic index, 3)) (hfr : fr + 1 ≤ R.frames) (hlo : (rest.map fun v => v.category).sum + (maxL + 11) + lo ≤ R.locals) (hc : cells ≤ R.cells) (hs : slots ≤ R.slots)
    (K : ∀ T', Stand p l e R s m args below meth c T' locs cells slots → T'.heap = h → Go p e below P T' (mkF m (pc + 3) Ls (V.toList ++ rest))) : Go p e below P T (mkF m pc Ls st) := by
  refine Go.callS X hx hZ hown w1 w2 w3 w4 hy argsL rest C eT hst hsz hpd hln hd hfr hlo hc hs ?_
  rintro v T' L X' ⟨rfl, rfl, e'⟩
  rw [List.append_nil] at X'
  exact K T' X' e'
theorem Go.callV (X : Stand p l e R s m args below meth c T locs cells slots) (hx : p.tables.exec = Jvm.exec) (hZ : Z.Warmed39 s.vm) {own C : String} {index : Nat} {y z : MethodName} {bytes : ByteArray} {maxL : Nat} {ret : Option FieldType} (hown : s.vm.findClass own = some m.cls)
    (w1 : (Cond.methodLink own index y).before a0 Z = true) (w2 : (Cond.declares y).before a0 Z = true) (hnf : NotFace s y) (w3 : (Cond.selects C y z).before a0 Z = true) (w4 : (Cond.instanceMethod z).before a0 Z = true) (w5 : (Cond.initialized z.cls).before a0 Z = true) (w6 : (Cond.code z bytes maxL ret).before a0 Z = true) (hy : y.cls ≠ "java/lang/invoke/MethodHandle" ∧ y.cls ≠ "java/lang/invoke/VarHandle")
    {Rm : Room} {Q : Option Value → Heap → List Loc → Prop} {b : Addr} (argsL rest : List Value) (E : Exa Z h b C) (Ct : Ctr l Z z bytes maxL ret Rm (.ref b :: argsL).toArray h Q) (eT : T.heap = h) {pc : Nat} {Ls : Array Slot} {st : List Value} (hst : st = argsL.reverse ++ .ref b :: rest) (hsz : Ls.size = c.maxLocals) {ps : List FieldType} {r : Option FieldType} (hpd : parseMethodDescriptor y.desc = some ⟨ps, r⟩) (hln : argsL.length = ps.length)
    (hd : decode c.code pc = .ok (.invokevirtual index, 3)) (hfr : Rm.frames + 1 ≤ R.frames) (hlo : (rest.map fun v => v.category).sum + (maxL + 11) + Rm.locals ≤ R.locals) (hc : cells + Rm.cells ≤ R.cells) (hs : slots + Rm.slots ≤ R.slots)
    (K : ∀ v T' L, Stand p l e R s m args below meth c T' (locs ++ L) (cells + Rm.cells) (slots + Rm.slots) → Q v T'.heap L → Go p e below P T' (mkF m (pc + 3) Ls (v.toList ++ rest))) : Go p e below P T (mkF m pc Ls st) := by
  subst hst
  obtain ⟨cq, kq, q1, q2, q3⟩ := isOf hZ eT E
  obtain ⟨v, _, ⟨T', L', k', n'⟩, -, X', ⟨L, hQ, l1, l2, l3⟩, st⟩ := X.virtualBack hx (y := y) (z := z) hown (mvT hZ w1) (mvT hZ w2) hnf (mvT hZ w3) (mvT hZ w4) hy (backOf (W := (rest.map fun v => v.category).sum) (Q := Q) (Ct []) hZ w6 w5 hfr hlo) q1 q3 (g := mkF m pc Ls (argsL.reverse ++ .ref b :: rest)) rfl hsz (Steps.refl _) (argsL := argsL) (rest := rest) (lenOf hpd hln) rfl (by show 2 * 0 + _ ≤ _; omega) hd (fun _ _ => ⟨rfl, eT, hc, hs⟩)
  dsimp only [Pt.U, Pt.locs, Pt.cells, Pt.slots] at X' l1 l2 l3 st hQ
  subst l1 l2 l3
  exact Go.of (fun _ k => st.trans k) (K v T' L X' hQ)
theorem Go.pureV (X : Stand p l e R s m args below meth c T locs cells slots) (hx : p.tables.exec = Jvm.exec) (hZ : Z.Warmed39 s.vm) {own C : String} {index : Nat} {y z : MethodName} {bytes : ByteArray} {maxL : Nat} {ret : Option FieldType} (hown : s.vm.findClass own = some m.cls)
    (w1 : (Cond.methodLink own index y).before a0 Z = true) (w2 : (Cond.declares y).before a0 Z = true) (hnf : NotFace s y) (w3 : (Cond.selects C y z).before a0 Z = true) (w4 : (Cond.instanceMethod z).before a0 Z = true) (w5 : (Cond.initialized z.cls).before a0 Z = true) (w6 : (Cond.code z bytes maxL ret).before a0 Z = true) (hy : y.cls ≠ "java/lang/invoke/MethodHandle" ∧ y.cls ≠ "java/lang/invoke/VarHandle")
    {fr lo : Nat} {V : Option Value} {b : Addr} (argsL rest : List Value) (E : Exa Z h b C) (Ct : Pur l Z z bytes maxL ret fr lo (.ref b :: argsL).toArray h V) (eT : T.heap = h) {pc : Nat} {Ls : Array Slot} {st : List Value} (hst : st = argsL.reverse ++ .ref b :: rest) (hsz : Ls.size = c.maxLocals) {ps : List FieldType} {r : Option FieldType} (hpd : parseMethodDescriptor y.desc = some ⟨ps, r⟩) (hln : argsL.length = ps.length)
    (hd : decode c.code pc = .ok (.invokevirtual index, 3)) (hfr : fr + 1 ≤ R.frames) (hlo : (rest.map fun v => v.category).sum + (maxL + 11) + lo ≤ R.locals) (hc : cells ≤ R.cells) (hs : slots ≤ R.slots)
    (K : ∀ T', Stand p l e R s m args below meth c T' locs cells slots → T'.heap = h → Go p e below P T' (mkF m (pc + 3) Ls (V.toList ++ rest))) : Go p e below P T (mkF m pc Ls st) := by
  refine Go.callV X hx hZ hown w1 w2 hnf w3 w4 w5 w6 hy argsL rest E Ct eT hst hsz hpd hln hd hfr hlo hc hs ?_
  rintro v T' L X' ⟨rfl, rfl, e'⟩
  rw [List.append_nil] at X'
  exact K T' X' e'
theorem Go.callU (X : Stand p l e R s m args below meth c T locs cells slots) (hx : p.tables.exec = Jvm.exec) (hZ : Z.Warmed39 s.vm) {own C ow : String} {index : Nat} {y z : MethodName} {bytes : ByteArray} {maxL : Nat} {ret : Option FieldType} (hown : s.vm.findClass own = some m.cls)
    (w1 : (Cond.methodLink own index y).before a0 Z = true) (w2 : (Cond.sameMethod y.cls ow y.name y.desc).before a0 Z = true) (w2' : (Cond.declares ⟨ow, y.name, y.desc⟩).before a0 Z = true) (w3 : (Cond.selects C y z).before a0 Z = true) (w4 : (Cond.instanceMethod z).before a0 Z = true) (w5 : (Cond.initialized z.cls).before a0 Z = true) (w6 : (Cond.code z bytes maxL ret).before a0 Z = true) (hy : ow ≠ "java/lang/invoke/MethodHandle" ∧ ow ≠ "java/lang/invoke/VarHandle")
    {Rm : Room} {Q : Option Value → Heap → List Loc → Prop} {b : Addr} (argsL rest : List Value) (E : Exa Z h b C) (Ct : Ctr l Z z bytes maxL ret Rm (.ref b :: argsL).toArray h Q) (eT : T.heap = h) {pc : Nat} {Ls : Array Slot} {st : List Value} (hst : st = argsL.reverse ++ .ref b :: rest) (hsz : Ls.size = c.maxLocals) {ps : List FieldType} {r : Option FieldType} (hpd : parseMethodDescriptor y.desc = some ⟨ps, r⟩) (hln : argsL.length = ps.length)
    (hd : decode c.code pc = .ok (.invokevirtual index, 3)) (hfr : Rm.frames + 1 ≤ R.frames) (hlo : (rest.map fun v => v.category).sum + (maxL + 11) + Rm.locals ≤ R.locals) (hc : cells + Rm.cells ≤ R.cells) (hs : slots + Rm.slots ≤ R.slots)
    (K : ∀ v T' L, Stand p l e R s m args below meth c T' (locs ++ L) (cells + Rm.cells) (slots + Rm.slots) → Q v T'.heap L → Go p e below P T' (mkF m (pc + 3) Ls (v.toList ++ rest))) : Go p e below P T (mkF m pc Ls st) := by
  subst hst
  obtain ⟨cq, kq, q1, q2, q3⟩ := isOf hZ eT E
  obtain ⟨v, _, ⟨T', L', k', n'⟩, -, X', ⟨L, hQ, l1, l2, l3⟩, st⟩ := X.virtualBackUp hx (x := y) (y := z) (owner := ow) hown (mvT hZ w1) (mvT hZ w2) (mvT hZ w2') hy (mvT hZ w3) (mvT hZ w4) (backOf (W := (rest.map fun v => v.category).sum) (Q := Q) (Ct []) hZ w6 w5 hfr hlo) q1 q3 (g := mkF m pc Ls (argsL.reverse ++ .ref b :: rest)) rfl hsz (Steps.refl _) (argsL := argsL) (rest := rest) (lenOf hpd hln) rfl (by show 2 * 0 + _ ≤ _; omega) hd (fun _ _ => ⟨rfl, eT, hc, hs⟩)
  dsimp only [Pt.U, Pt.locs, Pt.cells, Pt.slots] at X' l1 l2 l3 st hQ
  subst l1 l2 l3
  exact Go.of (fun _ k => st.trans k) (K v T' L X' hQ)
theorem Go.pureU (X : Stand p l e R s m args below meth c T locs cells slots) (hx : p.tables.exec = Jvm.exec) (hZ : Z.Warmed39 s.vm) {own C ow : String} {index : Nat} {y z : MethodName} {bytes : ByteArray} {maxL : Nat} {ret : Option FieldType} (hown : s.vm.findClass own = some m.cls)
    (w1 : (Cond.methodLink own index y).before a0 Z = true) (w2 : (Cond.sameMethod y.cls ow y.name y.desc).before a0 Z = true) (w2' : (Cond.declares ⟨ow, y.name, y.desc⟩).before a0 Z = true) (w3 : (Cond.selects C y z).before a0 Z = true) (w4 : (Cond.instanceMethod z).before a0 Z = true) (w5 : (Cond.initialized z.cls).before a0 Z = true) (w6 : (Cond.code z bytes maxL ret).before a0 Z = true) (hy : ow ≠ "java/lang/invoke/MethodHandle" ∧ ow ≠ "java/lang/invoke/VarHandle")
    {fr lo : Nat} {V : Option Value} {b : Addr} (argsL rest : List Value) (E : Exa Z h b C) (Ct : Pur l Z z bytes maxL ret fr lo (.ref b :: argsL).toArray h V) (eT : T.heap = h) {pc : Nat} {Ls : Array Slot} {st : List Value} (hst : st = argsL.reverse ++ .ref b :: rest) (hsz : Ls.size = c.maxLocals) {ps : List FieldType} {r : Option FieldType} (hpd : parseMethodDescriptor y.desc = some ⟨ps, r⟩) (hln : argsL.length = ps.length)
    (hd : decode c.code pc = .ok (.invokevirtual index, 3)) (hfr : fr + 1 ≤ R.frames) (hlo : (rest.map fun v => v.category).sum + (maxL + 11) + lo ≤ R.locals) (hc : cells ≤ R.cells) (hs : slots ≤ R.slots)
    (K : ∀ T', Stand p l e R s m args below meth c T' locs cells slots → T'.heap = h → Go p e below P T' (mkF m (pc + 3) Ls (V.toList ++ rest))) : Go p e below P T (mkF m pc Ls st) := by
  refine Go.callU X hx hZ hown w1 w2 w2' w3 w4 w5 w6 hy argsL rest E Ct eT hst hsz hpd hln hd hfr hlo hc hs ?_
  rintro v T' L X' ⟨rfl, rfl, e'⟩
  rw [List.append_nil] at X'
  exact K T' X' e'
theorem Go.callI (X : Stand p l e R s m args below meth c T locs cells slots) (hx : p.tables.exec = Jvm.exec) (hZ : Z.Warmed39 s.vm) {own : String} {index : Nat} {y : MethodName} {bytes : ByteArray} {maxL : Nat} (hyn : y.name = "<init>") (hown : s.vm.findClass own = some m.cls)
    (w1 : (Cond.methodLink own index y).before a0 Z = true) (w2 : (Cond.instanceMethod y).before a0 Z = true) (w3 : (Cond.initialized y.cls).before a0 Z = true) (w4 : (Cond.code y bytes maxL none).before a0 Z = true) (hy : y.cls ≠ "java/lang/invoke/MethodHandle" ∧ y.cls ≠ "java/lang/invoke/VarHandle")
    {Rm : Room} {Q : Option Value → Heap → List Loc → Prop} {b : Addr} (argsL rest : List Value) (C : Ctr l Z y bytes maxL none Rm (.ref b :: argsL).toArray h Q) (eT : T.heap = h) {pc : Nat} {Ls : Array Slot} {st : List Value} (hst : st = argsL.reverse ++ .ref b :: rest) (hsz : Ls.size = c.maxLocals) {ps : List FieldType} {r : Option FieldType} (hpd : parseMethodDescriptor y.desc = some ⟨ps, r⟩) (hln : argsL.length = ps.length)
    (hd : decode c.code pc = .ok (.invokespecial index, 3)) (hfr : Rm.frames + 1 ≤ R.frames) (hlo : (rest.map fun v => v.category).sum + (maxL + 11) + Rm.locals ≤ R.locals) (hc : cells + Rm.cells ≤ R.cells) (hs : slots + Rm.slots ≤ R.slots)
    (K : ∀ v T' L, Stand p l e R s m args below meth c T' (locs ++ L) (cells + Rm.cells) (slots + Rm.slots) → Q v T'.heap L → Go p e below P T' (mkF m (pc + 3) Ls (v.toList ++ rest))) : Go p e below P T (mkF m pc Ls st) := by
  subst hst
  obtain ⟨v, _, ⟨T', L', k', n'⟩, -, X', ⟨L, hQ, l1, l2, l3⟩, st⟩ := X.specialBack hx (y := y) hyn hown (mvT hZ w1) (mvT hZ w2) (mvT hZ w4) hy (backOf (W := (rest.map fun v => v.category).sum) (Q := Q) (C []) hZ w4 w3 hfr hlo) (g := mkF m pc Ls (argsL.reverse ++ .ref b :: rest)) rfl hsz (Steps.refl _) (a := b) (argsL := argsL) (rest := rest) (lenOf hpd hln) rfl (by show 2 * 0 + _ ≤ _; omega) hd (fun _ _ => ⟨rfl, eT, hc, hs⟩)
  dsimp only [Pt.U, Pt.locs, Pt.cells, Pt.slots] at X' l1 l2 l3 st hQ
  subst l1 l2 l3
  exact Go.of (fun _ k => st.trans k) (K v T' L X' hQ)
end Own
theorem own_nf {args : Array Value} {s : State} {C : String} {y y' : MethodName} (hc : y.cls = y'.cls) (hsel : (Cond.selects C y' y').before args s = true) : NotFace s y := fun r0 h0 => by
  obtain ⟨c2, r2, m2, q1, q2, q3, q4, kP, hkP, hkPi⟩ := Cond.selects_spec hsel
  have e1 := findClass_of_methodNamed h0
  have e2 := findClass_of_methodNamed q3
  rw [hc] at e1
  have e3 : r0.cls = m2.cls := Option.some.inj (e1.symm.trans e2)
  exact ⟨kP, e3 ▸ hkP, hkPi⟩
section OwnWords
variable {args : Array Value} {s : State} {a b t i : Term} {v : Value}
theorem own_eqv (g : (Cond.eq a b).value args s none s [] = some true) (hb : b.eval args s none [] s = some v) : a.eval args s none [] s = some v := by
  cases ha : a.eval args s none [] s with
  | none => simp [Cond.value, ha] at g
  | some x => cases x <;> cases v <;> simp [Cond.value, ha, hb] at g ⊢ <;> exact g
theorem own_len {x : Addr} {cl : Cell} {ty : FieldType} {n : Int32} (A : Arr s s.heap x cl ty) (ht : t.eval args s none [] s = some (.ref x)) (g : (Term.length t).eval args s none [] s = some (.int n)) : cl.slots.size < 2 ^ 31 ∧ cl.slots.size.toInt32 = n := by
  have q := A.fin (Vm.Alike.refl _)
  by_cases hl : cl.slots.size < 2 ^ 31
  · refine ⟨hl, ?_⟩
    have e := len_f (args := args) (first := s) (o := none) (idx := []) ht q hl
    exact Value.int.inj (Option.some.inj (e.symm.trans g))
  · simp [Term.eval, ht, q, hl] at g
theorem own_elem {x : Addr} {cl : Cell} {ty : FieldType} {j : Int32} {k : Nat} (A : Arr s s.heap x cl ty) (ht : t.eval args s none [] s = some (.ref x)) (hk : j.toNatClampNeg = k) (g : (Term.elem t (.int j)).eval args s none [] s = some v) : cl.slots[k]? = some v := by
  have e := (elem_in (j := j) (a := .int j) g ht rfl A.1).2
  rw [hk] at e; exact e
end OwnWords
section OwnSteps
variable {p : Program} {l : Launch} {e : Env} {R : Room} {s Z : State} {m : MethodId} {args a0 : Array Value} {below : List Frame} {meth : Method} {c : Code} {T : State} {locs : List Loc} {cells slots : Nat} {h : Heap} {P : Outcome → State → Prop} {pc pc0 : Nat} {Ls : Array Slot} {st : List Value}
theorem Go.iload (X : Stand p l e R s m args below meth c T locs cells slots) (hx : p.tables.exec = Jvm.exec) {k : Nat} {v : Int32} (hd : decode c.code pc0 = .ok (.iload k, 2)) (hpc : pc = pc0) (hl : Ls[k]? = some (.val (.int v))) (K : Go p e below P T (mkF m (pc0 + 2) Ls (.int v :: st))) : Go p e below P T (mkF m pc Ls (st)) := by
  subst hpc
  exact Go.of (fun _ q => XS.iload X.here hx rfl hd hl q) K
theorem Go.iloadN (X : Stand p l e R s m args below meth c T locs cells slots) (hx : p.tables.exec = Jvm.exec) {k : Fin 4} {v : Int32} (hd : decode c.code pc0 = .ok (.iload_n k, 1)) (hpc : pc = pc0) (hl : Ls[k.val]? = some (.val (.int v))) (K : Go p e below P T (mkF m (pc0 + 1) Ls (.int v :: st))) : Go p e below P T (mkF m pc Ls (st)) := by
  subst hpc
  exact Go.of (fun _ q => XS.iloadN X.here hx rfl hd hl q) K
theorem Go.istore (X : Stand p l e R s m args below meth c T locs cells slots) (hx : p.tables.exec = Jvm.exec) {k : Nat} {v : Int32} (hd : decode c.code pc0 = .ok (.istore k, 2)) (hpc : pc = pc0) (l' : Array Slot) (hl : storeLocals Ls k (.int v) = some l') (K : Go p e below P T (mkF m (pc0 + 2) l' (st))) : Go p e below P T (mkF m pc Ls (.int v :: st)) := by
  subst hpc
  exact Go.of (fun _ q => XS.istore X.here hx rfl hd rfl hl q) K
theorem Go.istoreN (X : Stand p l e R s m args below meth c T locs cells slots) (hx : p.tables.exec = Jvm.exec) {k : Fin 4} {v : Int32} (hd : decode c.code pc0 = .ok (.istore_n k, 1)) (hpc : pc = pc0) (l' : Array Slot) (hl : storeLocals Ls k.val (.int v) = some l') (K : Go p e below P T (mkF m (pc0 + 1) l' (st))) : Go p e below P T (mkF m pc Ls (.int v :: st)) := by
  subst hpc
  exact Go.of (fun _ q => XS.istoreN X.here hx rfl hd rfl hl q) K
theorem Go.lload (X : Stand p l e R s m args below meth c T locs cells slots) (hx : p.tables.exec = Jvm.exec) {k : Nat} {v : Int64} (hd : decode c.code pc0 = .ok (.lload k, 2)) (hpc : pc = pc0) (hl : Ls[k]? = some (.val (.long v))) (K : Go p e below P T (mkF m (pc0 + 2) Ls (.long v :: st))) : Go p e below P T (mkF m pc Ls (st)) := by
  subst hpc
  exact Go.of (fun _ q => XS.lload X.here hx rfl hd hl q) K
theorem Go.lloadN (X : Stand p l e R s m args below meth c T locs cells slots) (hx : p.tables.exec = Jvm.exec) {k : Fin 4} {v : Int64} (hd : decode c.code pc0 = .ok (.lload_n k, 1)) (hpc : pc = pc0) (hl : Ls[k.val]? = some (.val (.long v))) (K : Go p e below P T (mkF m (pc0 + 1) Ls (.long v :: st))) : Go p e below P T (mkF m pc Ls (st)) := by
  subst hpc
  exact Go.of (fun _ q => XS.lloadN X.here hx rfl hd hl q) K
theorem Go.lstore (X : Stand p l e R s m args below meth c T locs cells slots) (hx : p.tables.exec = Jvm.exec) {k : Nat} {v : Int64} (hd : decode c.code pc0 = .ok (.lstore k, 2)) (hpc : pc = pc0) (l' : Array Slot) (hl : storeLocals Ls k (.long v) = some l') (K : Go p e below P T (mkF m (pc0 + 2) l' (st))) : Go p e below P T (mkF m pc Ls (.long v :: st)) := by
  subst hpc
  exact Go.of (fun _ q => XS.lstore X.here hx rfl hd rfl hl q) K
theorem Go.lstoreN (X : Stand p l e R s m args below meth c T locs cells slots) (hx : p.tables.exec = Jvm.exec) {k : Fin 4} {v : Int64} (hd : decode c.code pc0 = .ok (.lstore_n k, 1)) (hpc : pc = pc0) (l' : Array Slot) (hl : storeLocals Ls k.val (.long v) = some l') (K : Go p e below P T (mkF m (pc0 + 1) l' (st))) : Go p e below P T (mkF m pc Ls (.long v :: st)) := by
  subst hpc
  exact Go.of (fun _ q => XS.lstoreN X.here hx rfl hd rfl hl q) K
theorem Go.aload (X : Stand p l e R s m args below meth c T locs cells slots) (hx : p.tables.exec = Jvm.exec) {k : Nat} {v : Value} (hd : decode c.code pc0 = .ok (.aload k, 2)) (hpc : pc = pc0) (hl : Ls[k]? = some (.val v)) (hv : v.isRef = true) (K : Go p e below P T (mkF m (pc0 + 2) Ls (v :: st))) : Go p e below P T (mkF m pc Ls (st)) := by
  subst hpc
  exact Go.of (fun _ q => XS.aload X.here hx rfl hd hl hv q) K
theorem Go.aloadN (X : Stand p l e R s m args below meth c T locs cells slots) (hx : p.tables.exec = Jvm.exec) {k : Fin 4} {v : Value} (hd : decode c.code pc0 = .ok (.aload_n k, 1)) (hpc : pc = pc0) (hl : Ls[k.val]? = some (.val v)) (hv : v.isRef = true) (K : Go p e below P T (mkF m (pc0 + 1) Ls (v :: st))) : Go p e below P T (mkF m pc Ls (st)) := by
  subst hpc
  exact Go.of (fun _ q => XS.aloadN X.here hx rfl hd hl hv q) K
theorem Go.astore (X : Stand p l e R s m args below meth c T locs cells slots) (hx : p.tables.exec = Jvm.exec) {k : Nat} {v : Value} (hd : decode c.code pc0 = .ok (.astore k, 2)) (hpc : pc = pc0) (hv : v.isRef = true) (l' : Array Slot) (hl : storeLocals Ls k v = some l') (K : Go p e below P T (mkF m (pc0 + 2) l' (st))) : Go p e below P T (mkF m pc Ls (v :: st)) := by
  subst hpc
  exact Go.of (fun _ q => XS.astore X.here hx rfl hd rfl hv hl q) K
theorem Go.astoreN (X : Stand p l e R s m args below meth c T locs cells slots) (hx : p.tables.exec = Jvm.exec) {k : Fin 4} {v : Value} (hd : decode c.code pc0 = .ok (.astore_n k, 1)) (hpc : pc = pc0) (hv : v.isRef = true) (l' : Array Slot) (hl : storeLocals Ls k.val v = some l') (K : Go p e below P T (mkF m (pc0 + 1) l' (st))) : Go p e below P T (mkF m pc Ls (v :: st)) := by
  subst hpc
  exact Go.of (fun _ q => XS.astoreN X.here hx rfl hd rfl hv hl q) K
theorem Go.iconst (X : Stand p l e R s m args below meth c T locs cells slots) (hx : p.tables.exec = Jvm.exec) {i : Int} (hd : decode c.code pc0 = .ok (.iconst i, 1)) (hpc : pc = pc0) (v : Int32) (hv : Int32.ofInt i = v) (K : Go p e below P T (mkF m (pc0 + 1) Ls (.int v :: st))) : Go p e below P T (mkF m pc Ls (st)) := by
  subst hpc
  subst hv
  exact Go.of (fun _ q => XS.iconst X.here hx rfl hd q) K
theorem Go.bipush (X : Stand p l e R s m args below meth c T locs cells slots) (hx : p.tables.exec = Jvm.exec) {i : Int} (hd : decode c.code pc0 = .ok (.bipush i, 2)) (hpc : pc = pc0) (v : Int32) (hv : (Int8.ofInt i).toInt32 = v) (K : Go p e below P T (mkF m (pc0 + 2) Ls (.int v :: st))) : Go p e below P T (mkF m pc Ls (st)) := by
  subst hpc
  subst hv
  exact Go.of (fun _ q => XS.bipush X.here hx rfl hd q) K
theorem Go.sipush (X : Stand p l e R s m args below meth c T locs cells slots) (hx : p.tables.exec = Jvm.exec) {i : Int} (hd : decode c.code pc0 = .ok (.sipush i, 3)) (hpc : pc = pc0) (v : Int32) (hv : (Int16.ofInt i).toInt32 = v) (K : Go p e below P T (mkF m (pc0 + 3) Ls (.int v :: st))) : Go p e below P T (mkF m pc Ls (st)) := by
  subst hpc
  subst hv
  exact Go.of (fun _ q => XS.sipush X.here hx rfl hd q) K
theorem Go.lconst (X : Stand p l e R s m args below meth c T locs cells slots) (hx : p.tables.exec = Jvm.exec) {k : Fin 2} (hd : decode c.code pc0 = .ok (.lconst k, 1)) (hpc : pc = pc0) (v : Int64) (hv : Int64.ofNat k = v) (K : Go p e below P T (mkF m (pc0 + 1) Ls (.long v :: st))) : Go p e below P T (mkF m pc Ls (st)) := by
  subst hpc
  subst hv
  exact Go.of (fun _ q => XS.lconst X.here hx rfl hd q) K
theorem Go.aconstNull (X : Stand p l e R s m args below meth c T locs cells slots) (hx : p.tables.exec = Jvm.exec)  (hd : decode c.code pc0 = .ok (.aconst_null, 1)) (hpc : pc = pc0)  (K : Go p e below P T (mkF m (pc0 + 1) Ls (.null :: st))) : Go p e below P T (mkF m pc Ls (st)) := by
  subst hpc
  exact Go.of (fun _ q => XS.aconstNull X.here hx rfl hd q) K
theorem Go.iadd (X : Stand p l e R s m args below meth c T locs cells slots) (hx : p.tables.exec = Jvm.exec) {x y : Int32} (hd : decode c.code pc0 = .ok (.iadd, 1)) (hpc : pc = pc0)  (K : Go p e below P T (mkF m (pc0 + 1) Ls (.int (x + y) :: st))) : Go p e below P T (mkF m pc Ls (.int y :: .int x :: st)) := by
  subst hpc
  exact Go.of (fun _ q => XS.iadd X.here hx rfl hd rfl q) K
theorem Go.isub (X : Stand p l e R s m args below meth c T locs cells slots) (hx : p.tables.exec = Jvm.exec) {x y : Int32} (hd : decode c.code pc0 = .ok (.isub, 1)) (hpc : pc = pc0)  (K : Go p e below P T (mkF m (pc0 + 1) Ls (.int (x - y) :: st))) : Go p e below P T (mkF m pc Ls (.int y :: .int x :: st)) := by
  subst hpc
  exact Go.of (fun _ q => XS.isub X.here hx rfl hd rfl q) K
theorem Go.imul (X : Stand p l e R s m args below meth c T locs cells slots) (hx : p.tables.exec = Jvm.exec) {x y : Int32} (hd : decode c.code pc0 = .ok (.imul, 1)) (hpc : pc = pc0)  (K : Go p e below P T (mkF m (pc0 + 1) Ls (.int (x * y) :: st))) : Go p e below P T (mkF m pc Ls (.int y :: .int x :: st)) := by
  subst hpc
  exact Go.of (fun _ q => XS.imul X.here hx rfl hd rfl q) K
theorem Go.iand (X : Stand p l e R s m args below meth c T locs cells slots) (hx : p.tables.exec = Jvm.exec) {x y : Int32} (hd : decode c.code pc0 = .ok (.iand, 1)) (hpc : pc = pc0)  (K : Go p e below P T (mkF m (pc0 + 1) Ls (.int (x &&& y) :: st))) : Go p e below P T (mkF m pc Ls (.int y :: .int x :: st)) := by
  subst hpc
  exact Go.of (fun _ q => XS.iand X.here hx rfl hd rfl q) K
theorem Go.ior (X : Stand p l e R s m args below meth c T locs cells slots) (hx : p.tables.exec = Jvm.exec) {x y : Int32} (hd : decode c.code pc0 = .ok (.ior, 1)) (hpc : pc = pc0)  (K : Go p e below P T (mkF m (pc0 + 1) Ls (.int (x ||| y) :: st))) : Go p e below P T (mkF m pc Ls (.int y :: .int x :: st)) := by
  subst hpc
  exact Go.of (fun _ q => XS.ior X.here hx rfl hd rfl q) K
theorem Go.ixor (X : Stand p l e R s m args below meth c T locs cells slots) (hx : p.tables.exec = Jvm.exec) {x y : Int32} (hd : decode c.code pc0 = .ok (.ixor, 1)) (hpc : pc = pc0)  (K : Go p e below P T (mkF m (pc0 + 1) Ls (.int (x ^^^ y) :: st))) : Go p e below P T (mkF m pc Ls (.int y :: .int x :: st)) := by
  subst hpc
  exact Go.of (fun _ q => XS.ixor X.here hx rfl hd rfl q) K
theorem Go.idiv (X : Stand p l e R s m args below meth c T locs cells slots) (hx : p.tables.exec = Jvm.exec) {x y : Int32} (hd : decode c.code pc0 = .ok (.idiv, 1)) (hpc : pc = pc0) (hy : y ≠ 0) (K : Go p e below P T (mkF m (pc0 + 1) Ls (.int (x / y) :: st))) : Go p e below P T (mkF m pc Ls (.int y :: .int x :: st)) := by
  subst hpc
  exact Go.of (fun _ q => XS.idiv X.here hx rfl hd rfl hy q) K
theorem Go.ineg (X : Stand p l e R s m args below meth c T locs cells slots) (hx : p.tables.exec = Jvm.exec) {x : Int32} (hd : decode c.code pc0 = .ok (.ineg, 1)) (hpc : pc = pc0)  (K : Go p e below P T (mkF m (pc0 + 1) Ls (.int (-x) :: st))) : Go p e below P T (mkF m pc Ls (.int x :: st)) := by
  subst hpc
  exact Go.of (fun _ q => XS.ineg X.here hx rfl hd rfl q) K
theorem Go.ladd (X : Stand p l e R s m args below meth c T locs cells slots) (hx : p.tables.exec = Jvm.exec) {x y : Int64} (hd : decode c.code pc0 = .ok (.ladd, 1)) (hpc : pc = pc0)  (K : Go p e below P T (mkF m (pc0 + 1) Ls (.long (x + y) :: st))) : Go p e below P T (mkF m pc Ls (.long y :: .long x :: st)) := by
  subst hpc
  exact Go.of (fun _ q => XS.ladd X.here hx rfl hd rfl q) K
theorem Go.lsub (X : Stand p l e R s m args below meth c T locs cells slots) (hx : p.tables.exec = Jvm.exec) {x y : Int64} (hd : decode c.code pc0 = .ok (.lsub, 1)) (hpc : pc = pc0)  (K : Go p e below P T (mkF m (pc0 + 1) Ls (.long (x - y) :: st))) : Go p e below P T (mkF m pc Ls (.long y :: .long x :: st)) := by
  subst hpc
  exact Go.of (fun _ q => XS.lsub X.here hx rfl hd rfl q) K
theorem Go.lmul (X : Stand p l e R s m args below meth c T locs cells slots) (hx : p.tables.exec = Jvm.exec) {x y : Int64} (hd : decode c.code pc0 = .ok (.lmul, 1)) (hpc : pc = pc0)  (K : Go p e below P T (mkF m (pc0 + 1) Ls (.long (x * y) :: st))) : Go p e below P T (mkF m pc Ls (.long y :: .long x :: st)) := by
  subst hpc
  exact Go.of (fun _ q => XS.lmul X.here hx rfl hd rfl q) K
theorem Go.land (X : Stand p l e R s m args below meth c T locs cells slots) (hx : p.tables.exec = Jvm.exec) {x y : Int64} (hd : decode c.code pc0 = .ok (.land, 1)) (hpc : pc = pc0)  (K : Go p e below P T (mkF m (pc0 + 1) Ls (.long (x &&& y) :: st))) : Go p e below P T (mkF m pc Ls (.long y :: .long x :: st)) := by
  subst hpc
  exact Go.of (fun _ q => XS.land X.here hx rfl hd rfl q) K
theorem Go.lor (X : Stand p l e R s m args below meth c T locs cells slots) (hx : p.tables.exec = Jvm.exec) {x y : Int64} (hd : decode c.code pc0 = .ok (.lor, 1)) (hpc : pc = pc0)  (K : Go p e below P T (mkF m (pc0 + 1) Ls (.long (x ||| y) :: st))) : Go p e below P T (mkF m pc Ls (.long y :: .long x :: st)) := by
  subst hpc
  exact Go.of (fun _ q => XS.lor X.here hx rfl hd rfl q) K
theorem Go.lxor (X : Stand p l e R s m args below meth c T locs cells slots) (hx : p.tables.exec = Jvm.exec) {x y : Int64} (hd : decode c.code pc0 = .ok (.lxor, 1)) (hpc : pc = pc0)  (K : Go p e below P T (mkF m (pc0 + 1) Ls (.long (x ^^^ y) :: st))) : Go p e below P T (mkF m pc Ls (.long y :: .long x :: st)) := by
  subst hpc
  exact Go.of (fun _ q => XS.lxor X.here hx rfl hd rfl q) K
theorem Go.ldiv (X : Stand p l e R s m args below meth c T locs cells slots) (hx : p.tables.exec = Jvm.exec) {x y : Int64} (hd : decode c.code pc0 = .ok (.ldiv, 1)) (hpc : pc = pc0) (hy : y ≠ 0) (K : Go p e below P T (mkF m (pc0 + 1) Ls (.long (x / y) :: st))) : Go p e below P T (mkF m pc Ls (.long y :: .long x :: st)) := by
  subst hpc
  exact Go.of (fun _ q => XS.ldiv X.here hx rfl hd rfl hy q) K
theorem Go.lneg (X : Stand p l e R s m args below meth c T locs cells slots) (hx : p.tables.exec = Jvm.exec) {x : Int64} (hd : decode c.code pc0 = .ok (.lneg, 1)) (hpc : pc = pc0)  (K : Go p e below P T (mkF m (pc0 + 1) Ls (.long (-x) :: st))) : Go p e below P T (mkF m pc Ls (.long x :: st)) := by
  subst hpc
  exact Go.of (fun _ q => XS.lneg X.here hx rfl hd rfl q) K
theorem Go.irem (X : Stand p l e R s m args below meth c T locs cells slots) (hx : p.tables.exec = Jvm.exec) {x y : Int32} (hd : decode c.code pc0 = .ok (.irem, 1)) (hpc : pc = pc0) (hy : y ≠ 0) (K : Go p e below P T (mkF m (pc0 + 1) Ls (.int (x % y) :: st))) : Go p e below P T (mkF m pc Ls (.int y :: .int x :: st)) := by
  subst hpc
  exact Go.of (fun _ q => iremM X hx rfl hd rfl hy q) K
theorem Go.lrem (X : Stand p l e R s m args below meth c T locs cells slots) (hx : p.tables.exec = Jvm.exec) {x y : Int64} (hd : decode c.code pc0 = .ok (.lrem, 1)) (hpc : pc = pc0) (hy : y ≠ 0) (K : Go p e below P T (mkF m (pc0 + 1) Ls (.long (x - (x / y) * y) :: st))) : Go p e below P T (mkF m pc Ls (.long y :: .long x :: st)) := by
  subst hpc
  exact Go.of (fun _ q => XS.lrem X.here hx rfl hd rfl hy q) K
theorem Go.ishl (X : Stand p l e R s m args below meth c T locs cells slots) (hx : p.tables.exec = Jvm.exec) {x y : Int32} (hd : decode c.code pc0 = .ok (.ishl, 1)) (hpc : pc = pc0)  (K : Go p e below P T (mkF m (pc0 + 1) Ls (.int (x <<< (y &&& 31)) :: st))) : Go p e below P T (mkF m pc Ls (.int y :: .int x :: st)) := by
  subst hpc
  exact Go.of (fun _ q => XS.ishl X.here hx rfl hd rfl q) K
theorem Go.ishr (X : Stand p l e R s m args below meth c T locs cells slots) (hx : p.tables.exec = Jvm.exec) {x y : Int32} (hd : decode c.code pc0 = .ok (.ishr, 1)) (hpc : pc = pc0)  (K : Go p e below P T (mkF m (pc0 + 1) Ls (.int (x >>> (y &&& 31)) :: st))) : Go p e below P T (mkF m pc Ls (.int y :: .int x :: st)) := by
  subst hpc
  exact Go.of (fun _ q => XS.ishr X.here hx rfl hd rfl q) K
theorem Go.iushr (X : Stand p l e R s m args below meth c T locs cells slots) (hx : p.tables.exec = Jvm.exec) {x y : Int32} (hd : decode c.code pc0 = .ok (.iushr, 1)) (hpc : pc = pc0)  (K : Go p e below P T (mkF m (pc0 + 1) Ls (.int ((x.toUInt32 >>> (y &&& 31).toUInt32).toInt32) :: st))) : Go p e below P T (mkF m pc Ls (.int y :: .int x :: st)) := by
  subst hpc
  exact Go.of (fun _ q => XS.iushr X.here hx rfl hd rfl q) K
theorem Go.lshl (X : Stand p l e R s m args below meth c T locs cells slots) (hx : p.tables.exec = Jvm.exec) {x : Int64} {y : Int32} (hd : decode c.code pc0 = .ok (.lshl, 1)) (hpc : pc = pc0)  (K : Go p e below P T (mkF m (pc0 + 1) Ls (.long (x <<< (y &&& 0x3f).toInt64) :: st))) : Go p e below P T (mkF m pc Ls (.int y :: .long x :: st)) := by
  subst hpc
  exact Go.of (fun _ q => XS.lshl X.here hx rfl hd rfl q) K
theorem Go.lshr (X : Stand p l e R s m args below meth c T locs cells slots) (hx : p.tables.exec = Jvm.exec) {x : Int64} {y : Int32} (hd : decode c.code pc0 = .ok (.lshr, 1)) (hpc : pc = pc0)  (K : Go p e below P T (mkF m (pc0 + 1) Ls (.long (x >>> (y &&& 0x3f).toInt64) :: st))) : Go p e below P T (mkF m pc Ls (.int y :: .long x :: st)) := by
  subst hpc
  exact Go.of (fun _ q => XS.lshr X.here hx rfl hd rfl q) K
theorem Go.lushr (X : Stand p l e R s m args below meth c T locs cells slots) (hx : p.tables.exec = Jvm.exec) {x : Int64} {y : Int32} (hd : decode c.code pc0 = .ok (.lushr, 1)) (hpc : pc = pc0)  (K : Go p e below P T (mkF m (pc0 + 1) Ls (.long ((x.toUInt64 >>> (y &&& 0x3f).toInt64.toUInt64).toInt64) :: st))) : Go p e below P T (mkF m pc Ls (.int y :: .long x :: st)) := by
  subst hpc
  exact Go.of (fun _ q => XS.lushr X.here hx rfl hd rfl q) K
theorem Go.i2l (X : Stand p l e R s m args below meth c T locs cells slots) (hx : p.tables.exec = Jvm.exec) {x : Int32} (hd : decode c.code pc0 = .ok (.i2l, 1)) (hpc : pc = pc0)  (K : Go p e below P T (mkF m (pc0 + 1) Ls (.long x.toInt64 :: st))) : Go p e below P T (mkF m pc Ls (.int x :: st)) := by
  subst hpc
  exact Go.of (fun _ q => XS.i2l X.here hx rfl hd rfl q) K
theorem Go.l2i (X : Stand p l e R s m args below meth c T locs cells slots) (hx : p.tables.exec = Jvm.exec) {x : Int64} (hd : decode c.code pc0 = .ok (.l2i, 1)) (hpc : pc = pc0)  (K : Go p e below P T (mkF m (pc0 + 1) Ls (.int x.toInt32 :: st))) : Go p e below P T (mkF m pc Ls (.long x :: st)) := by
  subst hpc
  exact Go.of (fun _ q => XS.l2i X.here hx rfl hd rfl q) K
theorem Go.i2b (X : Stand p l e R s m args below meth c T locs cells slots) (hx : p.tables.exec = Jvm.exec) {x : Int32} (hd : decode c.code pc0 = .ok (.i2b, 1)) (hpc : pc = pc0)  (K : Go p e below P T (mkF m (pc0 + 1) Ls (.int x.toInt8.toInt32 :: st))) : Go p e below P T (mkF m pc Ls (.int x :: st)) := by
  subst hpc
  exact Go.of (fun _ q => XS.i2b X.here hx rfl hd rfl q) K
theorem Go.i2s (X : Stand p l e R s m args below meth c T locs cells slots) (hx : p.tables.exec = Jvm.exec) {x : Int32} (hd : decode c.code pc0 = .ok (.i2s, 1)) (hpc : pc = pc0)  (K : Go p e below P T (mkF m (pc0 + 1) Ls (.int x.toInt16.toInt32 :: st))) : Go p e below P T (mkF m pc Ls (.int x :: st)) := by
  subst hpc
  exact Go.of (fun _ q => XS.i2s X.here hx rfl hd rfl q) K
theorem Go.i2c (X : Stand p l e R s m args below meth c T locs cells slots) (hx : p.tables.exec = Jvm.exec) {x : Int32} (hd : decode c.code pc0 = .ok (.i2c, 1)) (hpc : pc = pc0)  (K : Go p e below P T (mkF m (pc0 + 1) Ls (.int x.toUInt32.toUInt16.toUInt32.toInt32 :: st))) : Go p e below P T (mkF m pc Ls (.int x :: st)) := by
  subst hpc
  exact Go.of (fun _ q => XS.i2c X.here hx rfl hd rfl q) K
theorem Go.lcmp (X : Stand p l e R s m args below meth c T locs cells slots) (hx : p.tables.exec = Jvm.exec) {x y : Int64} (hd : decode c.code pc0 = .ok (.lcmp, 1)) (hpc : pc = pc0)  (K : Go p e below P T (mkF m (pc0 + 1) Ls (.int (lcmpW x y) :: st))) : Go p e below P T (mkF m pc Ls (.long y :: .long x :: st)) := by
  subst hpc
  exact Go.of (fun _ q => XS.lcmp X.here hx rfl hd rfl q) K
theorem Go.dup (X : Stand p l e R s m args below meth c T locs cells slots) (hx : p.tables.exec = Jvm.exec) {x : Value} (hd : decode c.code pc0 = .ok (.dup, 1)) (hpc : pc = pc0) (hc : x.category = 1) (K : Go p e below P T (mkF m (pc0 + 1) Ls (x :: x :: st))) : Go p e below P T (mkF m pc Ls (x :: st)) := by
  subst hpc
  exact Go.of (fun _ q => XS.dup X.here hx rfl hd rfl hc q) K
theorem Go.dupX1 (X : Stand p l e R s m args below meth c T locs cells slots) (hx : p.tables.exec = Jvm.exec) {x y : Value} (hd : decode c.code pc0 = .ok (.dup_x1, 1)) (hpc : pc = pc0) (hc : x.category = 1) (hc' : y.category = 1) (K : Go p e below P T (mkF m (pc0 + 1) Ls (x :: y :: x :: st))) : Go p e below P T (mkF m pc Ls (x :: y :: st)) := by
  subst hpc
  exact Go.of (fun _ q => XS.dupX1 X.here hx rfl hd rfl hc hc' q) K
theorem Go.dup2 (X : Stand p l e R s m args below meth c T locs cells slots) (hx : p.tables.exec = Jvm.exec) {x y : Value} (hd : decode c.code pc0 = .ok (.dup2, 1)) (hpc : pc = pc0) (hc : x.category = 1) (hc' : y.category = 1) (K : Go p e below P T (mkF m (pc0 + 1) Ls (x :: y :: x :: y :: st))) : Go p e below P T (mkF m pc Ls (x :: y :: st)) := by
  subst hpc
  exact Go.of (fun _ q => XT.dup2 X.here hx rfl hd rfl hc hc' q) K
theorem Go.pop (X : Stand p l e R s m args below meth c T locs cells slots) (hx : p.tables.exec = Jvm.exec) {x : Value} (hd : decode c.code pc0 = .ok (.pop, 1)) (hpc : pc = pc0) (hc : x.category = 1) (K : Go p e below P T (mkF m (pc0 + 1) Ls (st))) : Go p e below P T (mkF m pc Ls (x :: st)) := by
  subst hpc
  exact Go.of (fun _ q => XS.pop X.here hx rfl hd rfl hc q) K
theorem Go.iinc (X : Stand p l e R s m args below meth c T locs cells slots) (hx : p.tables.exec = Jvm.exec) {k : Nat} {cst : Int} {x : Int32} (hd : decode c.code pc0 = .ok (.iinc k cst, 3)) (hpc : pc = pc0) (hl : Ls[k]? = some (.val (.int x))) (l' : Array Slot) (hl' : storeLocals Ls k (.int (x + Int32.ofInt cst)) = some l') (K : Go p e below P T (mkF m (pc0 + 3) l' (st))) : Go p e below P T (mkF m pc Ls (st)) := by
  subst hpc
  exact Go.of (fun _ q => XS.iinc X.here hx rfl hd hl hl' q) K
theorem Go.goto (X : Stand p l e R s m args below meth c T locs cells slots) (hx : p.tables.exec = Jvm.exec)  {o : Int} (hd : decode c.code pc0 = .ok (.goto o, 3)) (hpc : pc = pc0) (pc' : Nat)  (ho : 0 ≤ (pc0 : Int) + o) (hp : ((pc0 : Int) + o).toNat = pc') (K : Go p e below P T (mkF m pc' Ls st)) : Go p e below P T (mkF m pc Ls (st)) := by
  subst hpc
  exact Go.of (fun _ q => XS.goto X.here hx rfl rfl hd ho hp q) K
theorem Go.ifYes (X : Stand p l e R s m args below meth c T locs cells slots) (hx : p.tables.exec = Jvm.exec) {cd : ClassFile.Cond} {x : Int32} {o : Int} (hd : decode c.code pc0 = .ok (.ifCond cd o, 3)) (hpc : pc = pc0) (pc' : Nat) (hc : ifCond.holds cd x = true) (ho : 0 ≤ (pc0 : Int) + o) (hp : ((pc0 : Int) + o).toNat = pc') (K : Go p e below P T (mkF m pc' Ls st)) : Go p e below P T (mkF m pc Ls (.int x :: st)) := by
  subst hpc
  exact Go.of (fun _ q => XS.ifYes X.here hx rfl rfl hd rfl hc ho hp q) K
theorem Go.icmpYes (X : Stand p l e R s m args below meth c T locs cells slots) (hx : p.tables.exec = Jvm.exec) {cd : ClassFile.Cond} {x y : Int32} {o : Int} (hd : decode c.code pc0 = .ok (.if_icmp cd o, 3)) (hpc : pc = pc0) (pc' : Nat) (hc : if_icmp.holds cd x y = true) (ho : 0 ≤ (pc0 : Int) + o) (hp : ((pc0 : Int) + o).toNat = pc') (K : Go p e below P T (mkF m pc' Ls st)) : Go p e below P T (mkF m pc Ls (.int y :: .int x :: st)) := by
  subst hpc
  exact Go.of (fun _ q => XS.icmpYes X.here hx rfl rfl hd rfl hc ho hp q) K
theorem Go.ifnullYes (X : Stand p l e R s m args below meth c T locs cells slots) (hx : p.tables.exec = Jvm.exec)  {o : Int} (hd : decode c.code pc0 = .ok (.ifnull o, 3)) (hpc : pc = pc0) (pc' : Nat)  (ho : 0 ≤ (pc0 : Int) + o) (hp : ((pc0 : Int) + o).toNat = pc') (K : Go p e below P T (mkF m pc' Ls st)) : Go p e below P T (mkF m pc Ls (.null :: st)) := by
  subst hpc
  exact Go.of (fun _ q => XS.ifnullYes X.here hx rfl rfl hd rfl ho hp q) K
theorem Go.ifnonnullYes (X : Stand p l e R s m args below meth c T locs cells slots) (hx : p.tables.exec = Jvm.exec) {b : Addr} {o : Int} (hd : decode c.code pc0 = .ok (.ifnonnull o, 3)) (hpc : pc = pc0) (pc' : Nat)  (ho : 0 ≤ (pc0 : Int) + o) (hp : ((pc0 : Int) + o).toNat = pc') (K : Go p e below P T (mkF m pc' Ls st)) : Go p e below P T (mkF m pc Ls (.ref b :: st)) := by
  subst hpc
  exact Go.of (fun _ q => XS.ifnonnullYes X.here hx rfl rfl hd rfl ho hp q) K
theorem Go.ifNo (X : Stand p l e R s m args below meth c T locs cells slots) (hx : p.tables.exec = Jvm.exec) {cd : ClassFile.Cond} {o : Int} {x : Int32} (hd : decode c.code pc0 = .ok (.ifCond cd o, 3)) (hpc : pc = pc0) (hc : ifCond.holds cd x = false) (K : Go p e below P T (mkF m (pc0 + 3) Ls (st))) : Go p e below P T (mkF m pc Ls (.int x :: st)) := by
  subst hpc
  exact Go.of (fun _ q => XS.ifNo X.here hx rfl hd rfl hc q) K
theorem Go.icmpNo (X : Stand p l e R s m args below meth c T locs cells slots) (hx : p.tables.exec = Jvm.exec) {cd : ClassFile.Cond} {o : Int} {x y : Int32} (hd : decode c.code pc0 = .ok (.if_icmp cd o, 3)) (hpc : pc = pc0) (hc : if_icmp.holds cd x y = false) (K : Go p e below P T (mkF m (pc0 + 3) Ls (st))) : Go p e below P T (mkF m pc Ls (.int y :: .int x :: st)) := by
  subst hpc
  exact Go.of (fun _ q => XS.icmpNo X.here hx rfl hd rfl hc q) K
theorem Go.ifnullNo (X : Stand p l e R s m args below meth c T locs cells slots) (hx : p.tables.exec = Jvm.exec) {o : Int} {b : Addr} (hd : decode c.code pc0 = .ok (.ifnull o, 3)) (hpc : pc = pc0)  (K : Go p e below P T (mkF m (pc0 + 3) Ls (st))) : Go p e below P T (mkF m pc Ls (.ref b :: st)) := by
  subst hpc
  exact Go.of (fun _ q => XS.ifnullNo X.here hx rfl hd rfl q) K
theorem Go.ifnonnullNo (X : Stand p l e R s m args below meth c T locs cells slots) (hx : p.tables.exec = Jvm.exec) {o : Int} (hd : decode c.code pc0 = .ok (.ifnonnull o, 3)) (hpc : pc = pc0)  (K : Go p e below P T (mkF m (pc0 + 3) Ls (st))) : Go p e below P T (mkF m pc Ls (.null :: st)) := by
  subst hpc
  exact Go.of (fun _ q => XS.ifnonnullNo X.here hx rfl hd rfl q) K
theorem Go.acmp (X : Stand p l e R s m args below meth c T locs cells slots) (hx : p.tables.exec = Jvm.exec) {cd : ACond} {x y : Value} {o : Int} (hd : decode c.code pc0 = .ok (.if_acmp cd o, 3)) (hpc : pc = pc0) (h1 : x.isRef = true) (h2 : y.isRef = true) (same : Bool) (hq : decide (x = y) = same) (pc' : Nat) (ho : 0 ≤ (pc0 : Int) + o) (hp : pc' = if acV cd same = true then ((pc0 : Int) + o).toNat else pc0 + 3) (K : Go p e below P T (mkF m pc' Ls st)) : Go p e below P T (mkF m pc Ls (y :: x :: st)) := by
  subst hpc
  exact Go.of (fun _ q => Jvm.RoadKit.acmp X hx rfl h1 h2 rfl hd rfl hq ho hp q) K
theorem Go.tswIn (X : Stand p l e R s m args below meth c T locs cells slots) (hx : p.tables.exec = Jvm.exec) {dflt low high : Int} {offs : Array Int} {len : Nat} {o : Int} {i : Int32} (hd : decode c.code pc0 = .ok (.tableswitch dflt low high offs, len)) (hpc : pc = pc0) (pc' : Nat) (hin : ¬ (i.toInt < low ∨ i.toInt > high)) (hoff : offs[(i.toInt - low).toNat]? = some o) (ho : 0 ≤ (pc0 : Int) + o) (hp : ((pc0 : Int) + o).toNat = pc') (K : Go p e below P T (mkF m pc' Ls st)) : Go p e below P T (mkF m pc Ls (.int i :: st)) := by
  subst hpc
  exact Go.of (fun _ q => XS.tswIn X.here hx rfl rfl hd rfl hin hoff ho hp q) K
theorem Go.ldc (X : Stand p l e R s m args below meth c T locs cells slots) (hx : p.tables.exec = Jvm.exec) (hZ : Z.Warmed39 s.vm) {own : String} {index : Nat} (hown : s.vm.findClass own = some m.cls) {v : Int32} (w : (Cond.constant own index v).before a0 Z = true) (hd : decode c.code pc0 = .ok (.ldc index, 2)) (hpc : pc = pc0) (K : Go p e below P T (mkF m (pc0 + 2) Ls (.int v :: st))) : Go p e below P T (mkF m pc Ls st) := by
  subst hpc
  exact Go.of (fun _ q => X.ldcInt hx hown (mvT hZ w) (g := mkF m pc Ls st) rfl hd _ q) K
theorem Go.ldc_w (X : Stand p l e R s m args below meth c T locs cells slots) (hx : p.tables.exec = Jvm.exec) (hZ : Z.Warmed39 s.vm) {own : String} {index : Nat} (hown : s.vm.findClass own = some m.cls) {v : Int32} (w : (Cond.constant own index v).before a0 Z = true) (hd : decode c.code pc0 = .ok (.ldc_w index, 3)) (hpc : pc = pc0) (K : Go p e below P T (mkF m (pc0 + 3) Ls (.int v :: st))) : Go p e below P T (mkF m pc Ls st) := by
  subst hpc
  exact Go.of (fun _ q => X.ldcwInt hx hown (mvT hZ w) (g := mkF m pc Ls st) rfl hd _ q) K
theorem Go.ldc2_w (X : Stand p l e R s m args below meth c T locs cells slots) (hx : p.tables.exec = Jvm.exec) (hZ : Z.Warmed39 s.vm) {own : String} {index : Nat} (hown : s.vm.findClass own = some m.cls) {v : Int64} (w : (Cond.constantLong own index v).before a0 Z = true) (hd : decode c.code pc0 = .ok (.ldc2_w index, 3)) (hpc : pc = pc0) (K : Go p e below P T (mkF m (pc0 + 3) Ls (.long v :: st))) : Go p e below P T (mkF m pc Ls st) := by
  subst hpc
  exact Go.of (fun _ q => X.ldc2Long hx hown (mvT hZ w) (g := mkF m pc Ls st) rfl hd _ q) K
theorem Go.getS (X : Stand p l e R s m args below meth c T locs cells slots) (hx : p.tables.exec = Jvm.exec) (hZ : Z.Warmed39 s.vm) {own : String} {index : Nat} (hown : s.vm.findClass own = some m.cls) {R0 O n d host : String} {v : Value} (w : (Cond.fieldLink own index R0 n d).before a0 Z = true ∨ (Cond.fieldLinkNest own index R0 n d host).before a0 Z = true) (via : Via Z R0 O n d) (eT : T.heap = h) (F : Sta Z h O n d v) (hd : decode c.code pc0 = .ok (.getstatic index, 3)) (hpc : pc = pc0) (K : ∀ T', Stand p l e R s m args below meth c T' locs cells slots → T'.heap = h → Go p e below P T' (mkF m (pc0 + 3) Ls (v :: st))) : Go p e below P T (mkF m pc Ls st) := by
  subst hpc
  obtain ⟨T', X', e', q⟩ := getS2 X hx hZ hown w via eT F (g := mkF m pc Ls st) rfl hd
  exact Go.of q (K T' X' e')
theorem Go.getF (X : Stand p l e R s m args below meth c T locs cells slots) (hx : p.tables.exec = Jvm.exec) (hZ : Z.Warmed39 s.vm) {own : String} {index : Nat} (hown : s.vm.findClass own = some m.cls) {R0 O n d host : String} {a : Addr} {v : Value} (w : (Cond.fieldLink own index R0 n d).before a0 Z = true ∨ (Cond.fieldLinkNest own index R0 n d host).before a0 Z = true) (via : Via Z R0 O n d) (eT : T.heap = h) (F : Fld Z h a O n d v) (hd : decode c.code pc0 = .ok (.getfield index, 3)) (hpc : pc = pc0) (K : ∀ T', Stand p l e R s m args below meth c T' locs cells slots → T'.heap = h → Go p e below P T' (mkF m (pc0 + 3) Ls (v :: st))) : Go p e below P T (mkF m pc Ls (.ref a :: st)) := by
  subst hpc
  obtain ⟨T', X', e', q⟩ := Jvm.RoadKit.getF X hx hZ hown w via eT F (g := mkF m pc Ls (.ref a :: st)) rfl rfl hd
  exact Go.of q (K T' X' e')
theorem Go.putF (X : Stand p l e R s m args below meth c T locs cells slots) (hx : p.tables.exec = Jvm.exec) (hZ : Z.Warmed39 s.vm) {own : String} {index : Nat} (hown : s.vm.findClass own = some m.cls) {R0 O n d host C : String} {kk : Nat} {a : Addr} {v old : Value} {ty : FieldType} (w : (Cond.fieldLink own index R0 n d).before a0 Z = true ∨ (Cond.fieldLinkNest own index R0 n d host).before a0 Z = true) (via : Via Z R0 O n d) (eT : T.heap = h) (F : Fld Z h a O n d old) (E : Exa Z h a C) (L : (Cond.lays C O n d).before a0 Z = true ∨ ((Cond.laysFinal C O n d).before a0 Z = true ∧ own = O ∧ meth.name = "<init>")) (wi : (Cond.instantiable C kk).before a0 Z = true) (hty : parseFieldDescriptor d = some ty) (hn : narrow ty v = v) (hf : fits ty v = true) (hd : decode c.code pc0 = .ok (.putfield index, 3)) (hpc : pc = pc0)
    (K : ∀ T' h', Stand p l e R s m args below meth c T' (locs ++ [⟨a, Jvm.RoadKit.slotOf Z O n d⟩]) cells slots → T'.heap = h' → Wr h h' a (Jvm.RoadKit.slotOf Z O n d) v → Fld Z h' a O n d v → Go p e below P T' (mkF m (pc0 + 3) Ls st)) : Go p e below P T (mkF m pc Ls (v :: .ref a :: st)) := by
  subst hpc
  obtain ⟨T', h', X', e', W, q⟩ := Jvm.RoadKit.putF X hx hZ hown w via eT F E L wi hty hn hf (g := mkF m pc Ls (v :: .ref a :: st)) rfl rfl hd
  exact Go.of q (K T' h' X' e' W (F.same W))
theorem Go.newO (X : Stand p l e R s m args below meth c T locs cells slots) (hx : p.tables.exec = Jvm.exec) (hZ : Z.Warmed39 s.vm) {own : String} {index : Nat} (hown : s.vm.findClass own = some m.cls) {C : String} {n : Nat} (w : (Cond.classLink own index C).before a0 Z = true) (wi : (Cond.instantiable C n).before a0 Z = true) (wz : (Cond.initialized C).before a0 Z = true) (eT : T.heap = h) (hd : decode c.code pc0 = .ok (.new index, 3)) (hpc : pc = pc0) (hc : cells + 1 ≤ R.cells) (hl : slots + n ≤ R.slots)
    (K : ∀ T' h' b, b = h.size → Stand p l e R s m args below meth c T' locs (cells + 1) (slots + n) → T'.heap = h' → Ext h h' → Exa Z h' b C → (∀ {O nm d : String} {ty : FieldType}, Laid Z a0 C O nm d → parseFieldDescriptor d = some ty → Fld Z h' b O nm d (defaultValue ty)) → Go p e below P T' (mkF m (pc0 + 3) Ls (.ref b :: st))) : Go p e below P T (mkF m pc Ls st) := by
  subst hpc
  obtain ⟨T', h', X', e', E, A, D, -, q⟩ := Jvm.RoadKit.newO X hx hZ hown w wi wz eT (g := mkF m pc Ls st) rfl hd hc hl
  exact Go.of q (K T' h' _ rfl X' e' E A D)
theorem Go.initO (X : Stand p l e R s m args below meth c T locs cells slots) (hx : p.tables.exec = Jvm.exec) (hZ : Z.Warmed39 s.vm) {own : String} {index : Nat} (hown : s.vm.findClass own = some m.cls) (w1 : (Cond.methodLink own index Lib.objectInit).before a0 Z = true) (w2 : (Cond.instanceMethod Lib.objectInit).before a0 Z = true) (w3 : (Cond.code Lib.objectInit ⟨#[0xb1]⟩ 1 none).before a0 Z = true) (eT : T.heap = h) (hsz : Ls.size = c.maxLocals) {a : Addr} (hd : decode c.code pc0 = .ok (.invokespecial index, 3)) (hpc : pc = pc0) (hf : 1 ≤ R.frames) (hl : (st.map fun v => v.category).sum + 12 ≤ R.locals) (K : ∀ T', Stand p l e R s m args below meth c T' locs cells slots → T'.heap = h → Go p e below P T' (mkF m (pc0 + 3) Ls (st))) : Go p e below P T (mkF m pc Ls (.ref a :: st)) := by
  subst hpc
  obtain ⟨T', X', e', q⟩ := Jvm.RoadKit.initO X hx hZ hown w1 w2 w3 eT (g := mkF m pc Ls (.ref a :: st)) rfl hsz rfl hd hf (W := (st.map fun v => v.category).sum) (by show 2 * 0 + _ ≤ _; omega) hl
  exact Go.of q (K T' X' e')
theorem Go.alen (X : Stand p l e R s m args below meth c T locs cells slots) (hx : p.tables.exec = Jvm.exec) (hZ : Z.Warmed39 s.vm) {a : Addr} {k : ClassId} {ty : FieldType} {n : Int32} {vs : List Value} {dv : Value} (A : Arv Z h a k ty n vs dv) (eT : T.heap = h) (hd : decode c.code pc0 = .ok (.arraylength, 1)) (hpc : pc = pc0) (K : Go p e below P T (mkF m (pc0 + 1) Ls (.int n :: st))) : Go p e below P T (mkF m pc Ls (.ref a :: st)) := by
  subst hpc
  obtain ⟨cl, Ar, -, Sz, Ng, -, -⟩ := A
  refine Go.of (fun _ q => X.arraylength hx (by rw [eT]; exact Ar.1) (State.isArrayOf_alike hZ.alike Ar.2.1) (g := mkF m pc Ls (.ref a :: st)) rfl rfl hd _ q) ?_
  rw [len_of Sz Ng]
  exact K
theorem Go.iaload (X : Stand p l e R s m args below meth c T locs cells slots) (hx : p.tables.exec = Jvm.exec) (hZ : Z.Warmed39 s.vm) {a : Addr} {k : ClassId} {n : Int32} {vs : List Value} {dv : Value} {j : Int32} (v : Value) (A : Arv Z h a k .int n vs dv) (eT : T.heap = h) (hj : ¬ j < 0 ∧ j < n) (hv : vs.getD j.toNatClampNeg dv = v) (hd : decode c.code pc0 = .ok (.iaload, 1)) (hpc : pc = pc0) (K : Go p e below P T (mkF m (pc0 + 1) Ls (v :: st))) : Go p e below P T (mkF m pc Ls (.int j :: .ref a :: st)) := by
  subst hpc
  obtain ⟨cl, Ar, -, Sz, Ng, Hs, -⟩ := A
  have hin : ¬ (j < 0 ∨ cl.slots.size ≤ j.toNatClampNeg) := inb_of Sz hj
  exact Go.of (fun _ q => X.iaload hx (j := j) (v := v) (by rw [eT]; exact Ar.1) (State.isArrayOf_alike hZ.alike Ar.2.1) Ar.2.2 hin (Has.at Hs hin hv) (g := mkF m pc Ls (.int j :: .ref a :: st)) rfl rfl hd _ q) K
theorem Go.laload (X : Stand p l e R s m args below meth c T locs cells slots) (hx : p.tables.exec = Jvm.exec) (hZ : Z.Warmed39 s.vm) {a : Addr} {k : ClassId} {n : Int32} {vs : List Value} {dv : Value} {j : Int32} (v : Value) (A : Arv Z h a k .long n vs dv) (eT : T.heap = h) (hj : ¬ j < 0 ∧ j < n) (hv : vs.getD j.toNatClampNeg dv = v) (hd : decode c.code pc0 = .ok (.laload, 1)) (hpc : pc = pc0) (K : Go p e below P T (mkF m (pc0 + 1) Ls (v :: st))) : Go p e below P T (mkF m pc Ls (.int j :: .ref a :: st)) := by
  subst hpc
  obtain ⟨cl, Ar, -, Sz, Ng, Hs, -⟩ := A
  have hin : ¬ (j < 0 ∨ cl.slots.size ≤ j.toNatClampNeg) := inb_of Sz hj
  exact Go.of (fun _ q => X.laload hx (j := j) (v := v) (by rw [eT]; exact Ar.1) (State.isArrayOf_alike hZ.alike Ar.2.1) Ar.2.2 hin (Has.at Hs hin hv) (g := mkF m pc Ls (.int j :: .ref a :: st)) rfl rfl hd _ q) K
theorem Go.aaload (X : Stand p l e R s m args below meth c T locs cells slots) (hx : p.tables.exec = Jvm.exec) (hZ : Z.Warmed39 s.vm) {a : Addr} {k : ClassId} {ty : FieldType} {n : Int32} {vs : List Value} {dv : Value} {j : Int32} (v : Value) (A : Arv Z h a k ty n vs dv) (eT : T.heap = h) (hty : ty.isReference = true) (hj : ¬ j < 0 ∧ j < n) (hv : vs.getD j.toNatClampNeg dv = v) (hd : decode c.code pc0 = .ok (.aaload, 1)) (hpc : pc = pc0) (K : Go p e below P T (mkF m (pc0 + 1) Ls (v :: st))) : Go p e below P T (mkF m pc Ls (.int j :: .ref a :: st)) := by
  subst hpc
  obtain ⟨cl, Ar, -, Sz, Ng, Hs, -⟩ := A
  have hin : ¬ (j < 0 ∨ cl.slots.size ≤ j.toNatClampNeg) := inb_of Sz hj
  exact Go.of (fun _ q => X.aaload hx (j := j) (v := v) (by rw [eT]; exact Ar.1) (State.isArrayOf_alike hZ.alike Ar.2.1) hty Ar.2.2 hin (Has.at Hs hin hv) (g := mkF m pc Ls (.int j :: .ref a :: st)) rfl rfl hd _ q) K
theorem Go.iastore (X : Stand p l e R s m args below meth c T locs cells slots) (hx : p.tables.exec = Jvm.exec) (hZ : Z.Warmed39 s.vm) {a : Addr} {k : ClassId} {n : Int32} {vs : List Value} {dv : Value} {j : Int32} {x : Int32} (A : Arv Z h a k .int n vs dv) (eT : T.heap = h) (hj : ¬ j < 0 ∧ j < n) (i : Nat) (hi : j.toNatClampNeg = i) (hl : i < vs.length) (hd : decode c.code pc0 = .ok (.iastore, 1)) (hpc : pc = pc0)
    (K : ∀ T' h', Stand p l e R s m args below meth c T' (locs ++ [⟨a, j.toNatClampNeg⟩]) cells slots → T'.heap = h' → Wr h h' a j.toNatClampNeg (.int x) → Arv Z h' a k .int n (vs.set i (.int x)) dv → Go p e below P T' (mkF m (pc0 + 1) Ls st)) : Go p e below P T (mkF m pc Ls (.int x :: .int j :: .ref a :: st)) := by
  subst hpc
  obtain ⟨cl, Ar, cq, Sz, Ng, Hs, Gs⟩ := A
  have hin : ¬ (j < 0 ∨ cl.slots.size ≤ j.toNatClampNeg) := inb_of Sz hj
  obtain ⟨T', h', X', e', W, q⟩ := stI X hx hZ eT Ar (j := j) hin (g := mkF m pc Ls (.int x :: .int j :: .ref a :: st)) rfl rfl hd
  exact Go.of q (K T' h' X' e' W (Arv.set Ar cq Sz Ng Hs Gs rfl W i hi hl))
theorem Go.lastore (X : Stand p l e R s m args below meth c T locs cells slots) (hx : p.tables.exec = Jvm.exec) (hZ : Z.Warmed39 s.vm) {a : Addr} {k : ClassId} {n : Int32} {vs : List Value} {dv : Value} {j : Int32} {x : Int64} (A : Arv Z h a k .long n vs dv) (eT : T.heap = h) (hj : ¬ j < 0 ∧ j < n) (i : Nat) (hi : j.toNatClampNeg = i) (hl : i < vs.length) (hd : decode c.code pc0 = .ok (.lastore, 1)) (hpc : pc = pc0)
    (K : ∀ T' h', Stand p l e R s m args below meth c T' (locs ++ [⟨a, j.toNatClampNeg⟩]) cells slots → T'.heap = h' → Wr h h' a j.toNatClampNeg (.long x) → Arv Z h' a k .long n (vs.set i (.long x)) dv → Go p e below P T' (mkF m (pc0 + 1) Ls st)) : Go p e below P T (mkF m pc Ls (.long x :: .int j :: .ref a :: st)) := by
  subst hpc
  obtain ⟨cl, Ar, cq, Sz, Ng, Hs, Gs⟩ := A
  have hin : ¬ (j < 0 ∨ cl.slots.size ≤ j.toNatClampNeg) := inb_of Sz hj
  obtain ⟨T', h', X', e', W, q⟩ := stJ X hx hZ eT Ar (j := j) hin (g := mkF m pc Ls (.long x :: .int j :: .ref a :: st)) rfl rfl hd
  exact Go.of q (K T' h' X' e' W (Arv.set Ar cq Sz Ng Hs Gs rfl W i hi hl))
theorem Go.aastore (X : Stand p l e R s m args below meth c T locs cells slots) (hx : p.tables.exec = Jvm.exec) (hZ : Z.Warmed39 s.vm) {a : Addr} {k : ClassId} {ty : FieldType} {n : Int32} {vs : List Value} {dv : Value} {j : Int32} {v : Value} (A : Arv Z h a k ty n vs dv) (eT : T.heap = h) (hj : ¬ j < 0 ∧ j < n) (i : Nat) (hi : j.toNatClampNeg = i) (hl : i < vs.length) (hty : ty.isReference = true) (hfv : fits ty v = true) (F : ∀ cl, Arr Z h a cl ty → cl.cls = k → Sto Z h a v) (hd : decode c.code pc0 = .ok (.aastore, 1)) (hpc : pc = pc0)
    (K : ∀ T' h', Stand p l e R s m args below meth c T' (locs ++ [⟨a, j.toNatClampNeg⟩]) cells slots → T'.heap = h' → Wr h h' a j.toNatClampNeg (v) → Arv Z h' a k ty n (vs.set i (v)) dv → Go p e below P T' (mkF m (pc0 + 1) Ls st)) : Go p e below P T (mkF m pc Ls (v :: .int j :: .ref a :: st)) := by
  subst hpc
  obtain ⟨cl, Ar, cq, Sz, Ng, Hs, Gs⟩ := A
  have hin : ¬ (j < 0 ∨ cl.slots.size ≤ j.toNatClampNeg) := inb_of Sz hj
  obtain ⟨T', h', X', e', W, q⟩ := stR X hx hZ eT Ar (j := j) hin hty (F cl Ar cq) (g := mkF m pc Ls (v :: .int j :: .ref a :: st)) rfl rfl hd
  exact Go.of q (K T' h' X' e' W (Arv.set Ar cq Sz Ng Hs Gs hfv W i hi hl))
theorem Go.newP (X : Stand p l e R s m args below meth c T locs cells slots) (hx : p.tables.exec = Jvm.exec) (hZ : Z.Warmed39 s.vm) {aty : ArrayType} {n : Int32} (w : (Cond.arrayClass (newarray.typeOf aty)).before a0 Z = true) (eT : T.heap = h) (u : Nat) (hn : ¬ n < 0) (cap : Nat) (hcap : n.toNatClampNeg ≤ cap) (hb : cap * 8 ≤ 536870912) (hc : cells + 1 ≤ R.cells) (hl : slots + cap ≤ R.slots) (ad : String) (had : "[" ++ (newarray.typeOf aty).toString = ad) (hd : decode c.code pc0 = .ok (.newarray aty, 2)) (hpc : pc = pc0)
    (K : ∀ T' h' b k, b = h.size → Stand p l e R s m args below meth c T' locs (cells + 1) (slots + cap) → T'.heap = h' → Ext h h' → Arv Z h' b k (newarray.typeOf aty) n ([] ++ List.replicate u (defaultValue (newarray.typeOf aty))) (defaultValue (newarray.typeOf aty)) → Exa Z h' b ad → Go p e below P T' (mkF m (pc0 + 2) Ls (.ref b :: st))) : Go p e below P T (mkF m pc Ls (.int n :: st)) := by
  subst hpc
  obtain ⟨T', h', cA, X', e', E, A, A', q⟩ := newPE X hx hZ w eT (g := mkF m pc Ls (.int n :: st)) rfl hd rfl hn (cap := cap) hcap hb hc hl had
  exact Go.of q (K T' h' _ cA rfl X' e' E ((Arv.new A hn).pad (pad_rep [] _ u)) A')
theorem Go.newR (X : Stand p l e R s m args below meth c T locs cells slots) (hx : p.tables.exec = Jvm.exec) (hZ : Z.Warmed39 s.vm) {own : String} {index : Nat} (hown : s.vm.findClass own = some m.cls) {C : String} {n : Int32} (w1 : (Cond.classLink own index C).before a0 Z = true) (w2 : (Cond.arrayOver (.object C)).before a0 Z = true) (eT : T.heap = h) (u : Nat) (hn : ¬ n < 0) (cap : Nat) (hcap : n.toNatClampNeg ≤ cap) (hb : cap * 8 ≤ 536870912) (hc : cells + 1 ≤ R.cells) (hl : slots + cap ≤ R.slots) (hd : decode c.code pc0 = .ok (.anewarray index, 3)) (hpc : pc = pc0)
    (K : ∀ T' h' b k, b = h.size → Stand p l e R s m args below meth c T' locs (cells + 1) (slots + cap) → T'.heap = h' → Ext h h' → Arv Z h' b k (.object C) n ([] ++ List.replicate u (.null)) (.null) → Ovr Z k C → Go p e below P T' (mkF m (pc0 + 3) Ls (.ref b :: st))) : Go p e below P T (mkF m pc Ls (.int n :: st)) := by
  subst hpc
  obtain ⟨T', h', cA, X', e', E, A, O, q⟩ := Jvm.RoadKit.newR X hx hZ hown w1 w2 eT (g := mkF m pc Ls (.int n :: st)) rfl hd rfl hn (cap := cap) hcap hb hc hl
  exact Go.of q (K T' h' _ cA rfl X' e' E ((Arv.new A hn).pad (pad_rep [] _ u)) O)
theorem Go.newRA (X : Stand p l e R s m args below meth c T locs cells slots) (hx : p.tables.exec = Jvm.exec) (hZ : Z.Warmed39 s.vm) {own : String} {index : Nat} (hown : s.vm.findClass own = some m.cls) {C : String} {ty : FieldType} {n : Int32} (hC : (FieldType.array ty).toString = C) (w1 : (Cond.classLink own index C).before a0 Z = true) (w2 : (Cond.arrayOver (.array ty)).before a0 Z = true) (eT : T.heap = h) (u : Nat) (hn : ¬ n < 0) (cap : Nat) (hcap : n.toNatClampNeg ≤ cap) (hb : cap * 8 ≤ 536870912) (hc : cells + 1 ≤ R.cells) (hl : slots + cap ≤ R.slots) (hd : decode c.code pc0 = .ok (.anewarray index, 3)) (hpc : pc = pc0)
    (K : ∀ T' h' b k, b = h.size → Stand p l e R s m args below meth c T' locs (cells + 1) (slots + cap) → T'.heap = h' → Ext h h' → Arv Z h' b k (.array ty) n ([] ++ List.replicate u (.null)) (.null) → OvrA Z k ty C → Go p e below P T' (mkF m (pc0 + 3) Ls (.ref b :: st))) : Go p e below P T (mkF m pc Ls (.int n :: st)) := by
  subst hpc
  obtain ⟨T', h', cA, X', e', E, A, -, O, q⟩ := Jvm.RoadKit.newRA X hx hZ hown hC w1 w2 eT (g := mkF m pc Ls (.int n :: st)) rfl hd rfl hn (cap := cap) hcap hb hc hl rfl
  exact Go.of q (K T' h' _ cA rfl X' e' E ((Arv.new A hn).pad (pad_rep [] _ u)) O)
end OwnSteps
theorem own_i32 {k n : Int32} {v : Int} (h : k.toInt = v) (hv : n.toInt = v) : k = n := Int32.toInt_inj.mp (h.trans hv.symm)
theorem own_rem42 (x : Int32) : (x &&& (2147483647 : Int32)) % (42 : Int32) = 0 ∨ (x &&& (2147483647 : Int32)) % (42 : Int32) = 1 ∨ (x &&& (2147483647 : Int32)) % (42 : Int32) = 2 ∨ (x &&& (2147483647 : Int32)) % (42 : Int32) = 3 ∨ (x &&& (2147483647 : Int32)) % (42 : Int32) = 4 ∨ (x &&& (2147483647 : Int32)) % (42 : Int32) = 5 ∨ (x &&& (2147483647 : Int32)) % (42 : Int32) = 6 ∨ (x &&& (2147483647 : Int32)) % (42 : Int32) = 7 ∨ (x &&& (2147483647 : Int32)) % (42 : Int32) = 8 ∨ (x &&& (2147483647 : Int32)) % (42 : Int32) = 9 ∨ (x &&& (2147483647 : Int32)) % (42 : Int32) = 10 ∨ (x &&& (2147483647 : Int32)) % (42 : Int32) = 11 ∨ (x &&& (2147483647 : Int32)) % (42 : Int32) = 12 ∨ (x &&& (2147483647 : Int32)) % (42 : Int32) = 13 ∨ (x &&& (2147483647 : Int32)) % (42 : Int32) = 14 ∨ (x &&& (2147483647 : Int32)) % (42 : Int32) = 15 ∨ (x &&& (2147483647 : Int32)) % (42 : Int32) = 16 ∨ (x &&& (2147483647 : Int32)) % (42 : Int32) = 17 ∨ (x &&& (2147483647 : Int32)) % (42 : Int32) = 18 ∨ (x &&& (2147483647 : Int32)) % (42 : Int32) = 19 ∨ (x &&& (2147483647 : Int32)) % (42 : Int32) = 20 ∨ (x &&& (2147483647 : Int32)) % (42 : Int32) = 21 ∨ (x &&& (2147483647 : Int32)) % (42 : Int32) = 22 ∨ (x &&& (2147483647 : Int32)) % (42 : Int32) = 23 ∨ (x &&& (2147483647 : Int32)) % (42 : Int32) = 24 ∨ (x &&& (2147483647 : Int32)) % (42 : Int32) = 25 ∨ (x &&& (2147483647 : Int32)) % (42 : Int32) = 26 ∨ (x &&& (2147483647 : Int32)) % (42 : Int32) = 27 ∨ (x &&& (2147483647 : Int32)) % (42 : Int32) = 28 ∨ (x &&& (2147483647 : Int32)) % (42 : Int32) = 29 ∨ (x &&& (2147483647 : Int32)) % (42 : Int32) = 30 ∨ (x &&& (2147483647 : Int32)) % (42 : Int32) = 31 ∨ (x &&& (2147483647 : Int32)) % (42 : Int32) = 32 ∨ (x &&& (2147483647 : Int32)) % (42 : Int32) = 33 ∨ (x &&& (2147483647 : Int32)) % (42 : Int32) = 34 ∨ (x &&& (2147483647 : Int32)) % (42 : Int32) = 35 ∨ (x &&& (2147483647 : Int32)) % (42 : Int32) = 36 ∨ (x &&& (2147483647 : Int32)) % (42 : Int32) = 37 ∨ (x &&& (2147483647 : Int32)) % (42 : Int32) = 38 ∨ (x &&& (2147483647 : Int32)) % (42 : Int32) = 39 ∨ (x &&& (2147483647 : Int32)) % (42 : Int32) = 40 ∨ (x &&& (2147483647 : Int32)) % (42 : Int32) = 41 := by
  have e1 : (x &&& (2147483647 : Int32)).toInt = x.toInt % 2 ^ 31 := Jvm.Kit.i32_mask x 2147483647 (k := 31) (by decide) (by decide)
  have e2 := Jvm.Kit.i32_rem_nonneg (x := x &&& (2147483647 : Int32)) (y := 42) (by omega)
  rw [show (42 : Int32).toInt = 42 from by decide] at e2
  generalize (x &&& (2147483647 : Int32)) % (42 : Int32) = k at *
  have e3 : k.toInt = 0 ∨ k.toInt = 1 ∨ k.toInt = 2 ∨ k.toInt = 3 ∨ k.toInt = 4 ∨ k.toInt = 5 ∨ k.toInt = 6 ∨ k.toInt = 7 ∨ k.toInt = 8 ∨ k.toInt = 9 ∨ k.toInt = 10 ∨ k.toInt = 11 ∨ k.toInt = 12 ∨ k.toInt = 13 ∨ k.toInt = 14 ∨ k.toInt = 15 ∨ k.toInt = 16 ∨ k.toInt = 17 ∨ k.toInt = 18 ∨ k.toInt = 19 ∨ k.toInt = 20 ∨ k.toInt = 21 ∨ k.toInt = 22 ∨ k.toInt = 23 ∨ k.toInt = 24 ∨ k.toInt = 25 ∨ k.toInt = 26 ∨ k.toInt = 27 ∨ k.toInt = 28 ∨ k.toInt = 29 ∨ k.toInt = 30 ∨ k.toInt = 31 ∨ k.toInt = 32 ∨ k.toInt = 33 ∨ k.toInt = 34 ∨ k.toInt = 35 ∨ k.toInt = 36 ∨ k.toInt = 37 ∨ k.toInt = 38 ∨ k.toInt = 39 ∨ k.toInt = 40 ∨ k.toInt = 41 := by omega
  rcases e3 with h | h | h | h | h | h | h | h | h | h | h | h | h | h | h | h | h | h | h | h | h | h | h | h | h | h | h | h | h | h | h | h | h | h | h | h | h | h | h | h | h | h
  · exact Or.inl (own_i32 h (by decide))
  · exact Or.inr (Or.inl (own_i32 h (by decide)))
  · exact Or.inr (Or.inr (Or.inl (own_i32 h (by decide))))
  · exact Or.inr (Or.inr (Or.inr (Or.inl (own_i32 h (by decide)))))
  · exact Or.inr (Or.inr (Or.inr (Or.inr (Or.inl (own_i32 h (by decide))))))
  · exact Or.inr (Or.inr (Or.inr (Or.inr (Or.inr (Or.inl (own_i32 h (by decide)))))))
  · exact Or.inr (Or.inr (Or.inr (Or.inr (Or.inr (Or.inr (Or.inl (own_i32 h (by decide))))))))
  · exact Or.inr (Or.inr (Or.inr (Or.inr (Or.inr (Or.inr (Or.inr (Or.inl (own_i32 h (by decide)))))))))
  · exact Or.inr (Or.inr (Or.inr (Or.inr (Or.inr (Or.inr (Or.inr (Or.inr (Or.inl (own_i32 h (by decide))))))))))
  · exact Or.inr (Or.inr (Or.inr (Or.inr (Or.inr (Or.inr (Or.inr (Or.inr (Or.inr (Or.inl (own_i32 h (by decide)))))))))))
  · exact Or.inr (Or.inr (Or.inr (Or.inr (Or.inr (Or.inr (Or.inr (Or.inr (Or.inr (Or.inr (Or.inl (own_i32 h (by decide))))))))))))
  · exact Or.inr (Or.inr (Or.inr (Or.inr (Or.inr (Or.inr (Or.inr (Or.inr (Or.inr (Or.inr (Or.inr (Or.inl (own_i32 h (by decide)))))))))))))
  · exact Or.inr (Or.inr (Or.inr (Or.inr (Or.inr (Or.inr (Or.inr (Or.inr (Or.inr (Or.inr (Or.inr (Or.inr (Or.inl (own_i32 h (by decide))))))))))))))
  · exact Or.inr (Or.inr (Or.inr (Or.inr (Or.inr (Or.inr (Or.inr (Or.inr (Or.inr (Or.inr (Or.inr (Or.inr (Or.inr (Or.inl (own_i32 h (by decide)))))))))))))))
  · exact Or.inr (Or.inr (Or.inr (Or.inr (Or.inr (Or.inr (Or.inr (Or.inr (Or.inr (Or.inr (Or.inr (Or.inr (Or.inr (Or.inr (Or.inl (own_i32 h (by decide))))))))))))))))
  · exact Or.inr (Or.inr (Or.inr (Or.inr (Or.inr (Or.inr (Or.inr (Or.inr (Or.inr (Or.inr (Or.inr (Or.inr (Or.inr (Or.inr (Or.inr (Or.inl (own_i32 h (by decide)))))))))))))))))
  · exact Or.inr (Or.inr (Or.inr (Or.inr (Or.inr (Or.inr (Or.inr (Or.inr (Or.inr (Or.inr (Or.inr (Or.inr (Or.inr (Or.inr (Or.inr (Or.inr (Or.inl (own_i32 h (by decide))))))))))))))))))
  · exact Or.inr (Or.inr (Or.inr (Or.inr (Or.inr (Or.inr (Or.inr (Or.inr (Or.inr (Or.inr (Or.inr (Or.inr (Or.inr (Or.inr (Or.inr (Or.inr (Or.inr (Or.inl (own_i32 h (by decide)))))))))))))))))))
  · exact Or.inr (Or.inr (Or.inr (Or.inr (Or.inr (Or.inr (Or.inr (Or.inr (Or.inr (Or.inr (Or.inr (Or.inr (Or.inr (Or.inr (Or.inr (Or.inr (Or.inr (Or.inr (Or.inl (own_i32 h (by decide))))))))))))))))))))
  · exact Or.inr (Or.inr (Or.inr (Or.inr (Or.inr (Or.inr (Or.inr (Or.inr (Or.inr (Or.inr (Or.inr (Or.inr (Or.inr (Or.inr (Or.inr (Or.inr (Or.inr (Or.inr (Or.inr (Or.inl (own_i32 h (by decide)))))))))))))))))))))
  · exact Or.inr (Or.inr (Or.inr (Or.inr (Or.inr (Or.inr (Or.inr (Or.inr (Or.inr (Or.inr (Or.inr (Or.inr (Or.inr (Or.inr (Or.inr (Or.inr (Or.inr (Or.inr (Or.inr (Or.inr (Or.inl (own_i32 h (by decide))))))))))))))))))))))
  · exact Or.inr (Or.inr (Or.inr (Or.inr (Or.inr (Or.inr (Or.inr (Or.inr (Or.inr (Or.inr (Or.inr (Or.inr (Or.inr (Or.inr (Or.inr (Or.inr (Or.inr (Or.inr (Or.inr (Or.inr (Or.inr (Or.inl (own_i32 h (by decide)))))))))))))))))))))))
  · exact Or.inr (Or.inr (Or.inr (Or.inr (Or.inr (Or.inr (Or.inr (Or.inr (Or.inr (Or.inr (Or.inr (Or.inr (Or.inr (Or.inr (Or.inr (Or.inr (Or.inr (Or.inr (Or.inr (Or.inr (Or.inr (Or.inr (Or.inl (own_i32 h (by decide))))))))))))))))))))))))
  · exact Or.inr (Or.inr (Or.inr (Or.inr (Or.inr (Or.inr (Or.inr (Or.inr (Or.inr (Or.inr (Or.inr (Or.inr (Or.inr (Or.inr (Or.inr (Or.inr (Or.inr (Or.inr (Or.inr (Or.inr (Or.inr (Or.inr (Or.inr (Or.inl (own_i32 h (by decide)))))))))))))))))))))))))
  · exact Or.inr (Or.inr (Or.inr (Or.inr (Or.inr (Or.inr (Or.inr (Or.inr (Or.inr (Or.inr (Or.inr (Or.inr (Or.inr (Or.inr (Or.inr (Or.inr (Or.inr (Or.inr (Or.inr (Or.inr (Or.inr (Or.inr (Or.inr (Or.inr (Or.inl (own_i32 h (by decide))))))))))))))))))))))))))
  · exact Or.inr (Or.inr (Or.inr (Or.inr (Or.inr (Or.inr (Or.inr (Or.inr (Or.inr (Or.inr (Or.inr (Or.inr (Or.inr (Or.inr (Or.inr (Or.inr (Or.inr (Or.inr (Or.inr (Or.inr (Or.inr (Or.inr (Or.inr (Or.inr (Or.inr (Or.inl (own_i32 h (by decide)))))))))))))))))))))))))))
  · exact Or.inr (Or.inr (Or.inr (Or.inr (Or.inr (Or.inr (Or.inr (Or.inr (Or.inr (Or.inr (Or.inr (Or.inr (Or.inr (Or.inr (Or.inr (Or.inr (Or.inr (Or.inr (Or.inr (Or.inr (Or.inr (Or.inr (Or.inr (Or.inr (Or.inr (Or.inr (Or.inl (own_i32 h (by decide))))))))))))))))))))))))))))
  · exact Or.inr (Or.inr (Or.inr (Or.inr (Or.inr (Or.inr (Or.inr (Or.inr (Or.inr (Or.inr (Or.inr (Or.inr (Or.inr (Or.inr (Or.inr (Or.inr (Or.inr (Or.inr (Or.inr (Or.inr (Or.inr (Or.inr (Or.inr (Or.inr (Or.inr (Or.inr (Or.inr (Or.inl (own_i32 h (by decide)))))))))))))))))))))))))))))
  · exact Or.inr (Or.inr (Or.inr (Or.inr (Or.inr (Or.inr (Or.inr (Or.inr (Or.inr (Or.inr (Or.inr (Or.inr (Or.inr (Or.inr (Or.inr (Or.inr (Or.inr (Or.inr (Or.inr (Or.inr (Or.inr (Or.inr (Or.inr (Or.inr (Or.inr (Or.inr (Or.inr (Or.inr (Or.inl (own_i32 h (by decide))))))))))))))))))))))))))))))
  · exact Or.inr (Or.inr (Or.inr (Or.inr (Or.inr (Or.inr (Or.inr (Or.inr (Or.inr (Or.inr (Or.inr (Or.inr (Or.inr (Or.inr (Or.inr (Or.inr (Or.inr (Or.inr (Or.inr (Or.inr (Or.inr (Or.inr (Or.inr (Or.inr (Or.inr (Or.inr (Or.inr (Or.inr (Or.inr (Or.inl (own_i32 h (by decide)))))))))))))))))))))))))))))))
  · exact Or.inr (Or.inr (Or.inr (Or.inr (Or.inr (Or.inr (Or.inr (Or.inr (Or.inr (Or.inr (Or.inr (Or.inr (Or.inr (Or.inr (Or.inr (Or.inr (Or.inr (Or.inr (Or.inr (Or.inr (Or.inr (Or.inr (Or.inr (Or.inr (Or.inr (Or.inr (Or.inr (Or.inr (Or.inr (Or.inr (Or.inl (own_i32 h (by decide))))))))))))))))))))))))))))))))
  · exact Or.inr (Or.inr (Or.inr (Or.inr (Or.inr (Or.inr (Or.inr (Or.inr (Or.inr (Or.inr (Or.inr (Or.inr (Or.inr (Or.inr (Or.inr (Or.inr (Or.inr (Or.inr (Or.inr (Or.inr (Or.inr (Or.inr (Or.inr (Or.inr (Or.inr (Or.inr (Or.inr (Or.inr (Or.inr (Or.inr (Or.inr (Or.inl (own_i32 h (by decide)))))))))))))))))))))))))))))))))
  · exact Or.inr (Or.inr (Or.inr (Or.inr (Or.inr (Or.inr (Or.inr (Or.inr (Or.inr (Or.inr (Or.inr (Or.inr (Or.inr (Or.inr (Or.inr (Or.inr (Or.inr (Or.inr (Or.inr (Or.inr (Or.inr (Or.inr (Or.inr (Or.inr (Or.inr (Or.inr (Or.inr (Or.inr (Or.inr (Or.inr (Or.inr (Or.inr (Or.inl (own_i32 h (by decide))))))))))))))))))))))))))))))))))
  · exact Or.inr (Or.inr (Or.inr (Or.inr (Or.inr (Or.inr (Or.inr (Or.inr (Or.inr (Or.inr (Or.inr (Or.inr (Or.inr (Or.inr (Or.inr (Or.inr (Or.inr (Or.inr (Or.inr (Or.inr (Or.inr (Or.inr (Or.inr (Or.inr (Or.inr (Or.inr (Or.inr (Or.inr (Or.inr (Or.inr (Or.inr (Or.inr (Or.inr (Or.inl (own_i32 h (by decide)))))))))))))))))))))))))))))))))))
  · exact Or.inr (Or.inr (Or.inr (Or.inr (Or.inr (Or.inr (Or.inr (Or.inr (Or.inr (Or.inr (Or.inr (Or.inr (Or.inr (Or.inr (Or.inr (Or.inr (Or.inr (Or.inr (Or.inr (Or.inr (Or.inr (Or.inr (Or.inr (Or.inr (Or.inr (Or.inr (Or.inr (Or.inr (Or.inr (Or.inr (Or.inr (Or.inr (Or.inr (Or.inr (Or.inl (own_i32 h (by decide))))))))))))))))))))))))))))))))))))
  · exact Or.inr (Or.inr (Or.inr (Or.inr (Or.inr (Or.inr (Or.inr (Or.inr (Or.inr (Or.inr (Or.inr (Or.inr (Or.inr (Or.inr (Or.inr (Or.inr (Or.inr (Or.inr (Or.inr (Or.inr (Or.inr (Or.inr (Or.inr (Or.inr (Or.inr (Or.inr (Or.inr (Or.inr (Or.inr (Or.inr (Or.inr (Or.inr (Or.inr (Or.inr (Or.inr (Or.inl (own_i32 h (by decide)))))))))))))))))))))))))))))))))))))
  · exact Or.inr (Or.inr (Or.inr (Or.inr (Or.inr (Or.inr (Or.inr (Or.inr (Or.inr (Or.inr (Or.inr (Or.inr (Or.inr (Or.inr (Or.inr (Or.inr (Or.inr (Or.inr (Or.inr (Or.inr (Or.inr (Or.inr (Or.inr (Or.inr (Or.inr (Or.inr (Or.inr (Or.inr (Or.inr (Or.inr (Or.inr (Or.inr (Or.inr (Or.inr (Or.inr (Or.inr (Or.inl (own_i32 h (by decide))))))))))))))))))))))))))))))))))))))
  · exact Or.inr (Or.inr (Or.inr (Or.inr (Or.inr (Or.inr (Or.inr (Or.inr (Or.inr (Or.inr (Or.inr (Or.inr (Or.inr (Or.inr (Or.inr (Or.inr (Or.inr (Or.inr (Or.inr (Or.inr (Or.inr (Or.inr (Or.inr (Or.inr (Or.inr (Or.inr (Or.inr (Or.inr (Or.inr (Or.inr (Or.inr (Or.inr (Or.inr (Or.inr (Or.inr (Or.inr (Or.inr (Or.inl (own_i32 h (by decide)))))))))))))))))))))))))))))))))))))))
  · exact Or.inr (Or.inr (Or.inr (Or.inr (Or.inr (Or.inr (Or.inr (Or.inr (Or.inr (Or.inr (Or.inr (Or.inr (Or.inr (Or.inr (Or.inr (Or.inr (Or.inr (Or.inr (Or.inr (Or.inr (Or.inr (Or.inr (Or.inr (Or.inr (Or.inr (Or.inr (Or.inr (Or.inr (Or.inr (Or.inr (Or.inr (Or.inr (Or.inr (Or.inr (Or.inr (Or.inr (Or.inr (Or.inr (Or.inl (own_i32 h (by decide))))))))))))))))))))))))))))))))))))))))
  · exact Or.inr (Or.inr (Or.inr (Or.inr (Or.inr (Or.inr (Or.inr (Or.inr (Or.inr (Or.inr (Or.inr (Or.inr (Or.inr (Or.inr (Or.inr (Or.inr (Or.inr (Or.inr (Or.inr (Or.inr (Or.inr (Or.inr (Or.inr (Or.inr (Or.inr (Or.inr (Or.inr (Or.inr (Or.inr (Or.inr (Or.inr (Or.inr (Or.inr (Or.inr (Or.inr (Or.inr (Or.inr (Or.inr (Or.inr (Or.inl (own_i32 h (by decide)))))))))))))))))))))))))))))))))))))))))
  · exact Or.inr (Or.inr (Or.inr (Or.inr (Or.inr (Or.inr (Or.inr (Or.inr (Or.inr (Or.inr (Or.inr (Or.inr (Or.inr (Or.inr (Or.inr (Or.inr (Or.inr (Or.inr (Or.inr (Or.inr (Or.inr (Or.inr (Or.inr (Or.inr (Or.inr (Or.inr (Or.inr (Or.inr (Or.inr (Or.inr (Or.inr (Or.inr (Or.inr (Or.inr (Or.inr (Or.inr (Or.inr (Or.inr (Or.inr (Or.inr (Or.inl (own_i32 h (by decide))))))))))))))))))))))))))))))))))))))))))
  · exact Or.inr (Or.inr (Or.inr (Or.inr (Or.inr (Or.inr (Or.inr (Or.inr (Or.inr (Or.inr (Or.inr (Or.inr (Or.inr (Or.inr (Or.inr (Or.inr (Or.inr (Or.inr (Or.inr (Or.inr (Or.inr (Or.inr (Or.inr (Or.inr (Or.inr (Or.inr (Or.inr (Or.inr (Or.inr (Or.inr (Or.inr (Or.inr (Or.inr (Or.inr (Or.inr (Or.inr (Or.inr (Or.inr (Or.inr (Or.inr (Or.inr (own_i32 h (by decide))))))))))))))))))))))))))))))))))))))))))
def hfv (w : Int64) : Int32 := if ((w &&& (((w).toUInt64 >>> ((1 : Int32) &&& 0x3f).toInt64.toUInt64).toInt64)) &&& ((((w &&& (((w).toUInt64 >>> ((1 : Int32) &&& 0x3f).toInt64.toUInt64).toInt64))).toUInt64 >>> ((2 : Int32) &&& 0x3f).toInt64.toUInt64).toInt64)) = (0 : Int64) then (if ((w &&& (((w).toUInt64 >>> ((7 : Int32) &&& 0x3f).toInt64.toUInt64).toInt64)) &&& ((((w &&& (((w).toUInt64 >>> ((7 : Int32) &&& 0x3f).toInt64.toUInt64).toInt64))).toUInt64 >>> ((14 : Int32) &&& 0x3f).toInt64.toUInt64).toInt64)) = (0 : Int64) then (if ((w &&& (((w).toUInt64 >>> ((8 : Int32) &&& 0x3f).toInt64.toUInt64).toInt64)) &&& ((((w &&& (((w).toUInt64 >>> ((8 : Int32) &&& 0x3f).toInt64.toUInt64).toInt64))).toUInt64 >>> ((16 : Int32) &&& 0x3f).toInt64.toUInt64).toInt64)) = (0 : Int64) then (if ((w &&& (((w).toUInt64 >>> ((6 : Int32) &&& 0x3f).toInt64.toUInt64).toInt64)) &&& ((((w &&& (((w).toUInt64 >>> ((6 : Int32) &&& 0x3f).toInt64.toUInt64).toInt64))).toUInt64 >>> ((12 : Int32) &&& 0x3f).toInt64.toUInt64).toInt64)) = (0 : Int64) then (0) else 1) else 1) else 1) else 1
def imax (x y : Int32) : Int32 := if x < y then y else x
def imin (x y : Int32) : Int32 := if y < x then y else x
def dst (a b c d : Int32) : Int32 := if (¬ a = b ∧ ¬ a = c ∧ ¬ a = d ∧ ¬ b = c ∧ ¬ b = d ∧ ¬ c = d) then 1 else 0
def spn (a b c d : Int32) : Int32 := imax (imax a b) (imax c d) - imin (imin a b) (imin c d)
def lin (a b c d t u : Int32) : Int32 := if (a = b ∧ b = c ∧ c = d ∧ ¬ t = 0 ∧ u = 3) then 1 else 0
def isl (c0 r0 c1 r1 c2 r2 c3 r3 : Int32) : Int32 := if (lin r0 r1 r2 r3 (dst c0 c1 c2 c3) (spn c0 c1 c2 c3)) = 0 then (if (lin c0 c1 c2 c3 (dst r0 r1 r2 r3) (spn r0 r1 r2 r3)) = 0 then (if (lin (c0 - r0) (c1 - r1) (c2 - r2) (c3 - r3) (dst c0 c1 c2 c3) (spn c0 c1 c2 c3)) = 0 then (if (lin (c0 + r0) (c1 + r1) (c2 + r2) (c3 + r3) (dst c0 c1 c2 c3) (spn c0 c1 c2 c3)) = 0 then 0 else 1) else 1) else 1) else 1
def ix (x : Int32) : Int32 := (x &&& (2147483647 : Int32)) % (42 : Int32)
def cx (x : Int32) : Int32 := ix x / (6 : Int32)
def rx (x : Int32) : Int32 := ix x % (6 : Int32)
def own4 (x0 x1 x2 x3 : Int32) : Int64 := (((((1 : Int64) <<< ((((7 : Int32) * (cx x0)) + (rx x0)) &&& 0x3f).toInt64) ||| ((1 : Int64) <<< ((((7 : Int32) * (cx x1)) + (rx x1)) &&& 0x3f).toInt64)) ||| ((1 : Int64) <<< ((((7 : Int32) * (cx x2)) + (rx x2)) &&& 0x3f).toInt64)) ||| ((1 : Int64) <<< ((((7 : Int32) * (cx x3)) + (rx x3)) &&& 0x3f).toInt64))
/-! bits of longs (own work) -/
def bt (w : Int64) (i : Nat) : Bool := w.toBitVec.getLsbD i
theorem bt_and (a b : Int64) (i : Nat) : bt (a &&& b) i = (bt a i && bt b i) := by simp [bt]
theorem bt_or (a b : Int64) (i : Nat) : bt (a ||| b) i = (bt a i || bt b i) := by simp [bt]
theorem bt_sr (w : Int64) (k : Int32) (n : Nat) (hk : ((k &&& 0x3f).toInt64.toUInt64.toBitVec % 64#64).toNat = n) (i : Nat) : bt ((w.toUInt64 >>> (k &&& 0x3f).toInt64.toUInt64).toInt64) i = bt w (n + i) := by
  show ((w.toUInt64 >>> (k &&& 0x3f).toInt64.toUInt64).toInt64).toBitVec.getLsbD i = w.toBitVec.getLsbD (n + i)
  rw [UInt64.toBitVec_toInt64, UInt64.toBitVec_shiftRight, BitVec.ushiftRight_eq', BitVec.getLsbD_ushiftRight]
  have e : (((k &&& 0x3f).toInt64.toUInt64.toBitVec) % (64 : BitVec 64)).toNat = n := hk
  rw [e]; rfl
theorem bt_sl (w : Int64) (k : Int32) (n : Nat) (hk : ((k &&& 0x3f).toInt64.toBitVec.smod 64#64).toNat = n) (i : Nat) : bt (w <<< (k &&& 0x3f).toInt64) i = (decide (i < 64) && (!decide (i < n)) && bt w (i - n)) := by
  show (w <<< (k &&& 0x3f).toInt64).toBitVec.getLsbD i = (decide (i < 64) && (!decide (i < n)) && w.toBitVec.getLsbD (i - n))
  rw [Int64.toBitVec_shiftLeft, BitVec.shiftLeft_eq', BitVec.getLsbD_shiftLeft]
  have e : ((k &&& 0x3f).toInt64.toBitVec.smod (64 : BitVec 64)).toNat = n := hk
  rw [e]
theorem bt_lt (w : Int64) {i : Nat} (h : bt w i = true) : i < 64 := BitVec.lt_of_getLsbD h
theorem eq0_iff (w : Int64) : w = 0 ↔ ∀ i, bt w i = false := by
  constructor
  · intro h i; subst h; simp [bt]
  · intro h
    apply Int64.toBitVec_inj.mp
    apply BitVec.eq_of_getLsbD_eq
    intro i hi
    have := h i
    simpa [bt] using this
def hf4 (w : Int64) (s : Nat) : Prop := ∃ i, bt w i = true ∧ bt w (s + i) = true ∧ bt w (2 * s + i) = true ∧ bt w (3 * s + i) = true
theorem four0 (w : Int64) (k k2 : Int32) (s : Nat) (h1 : ((k &&& 0x3f).toInt64.toUInt64.toBitVec % 64#64).toNat = s) (h2 : ((k2 &&& 0x3f).toInt64.toUInt64.toBitVec % 64#64).toNat = 2 * s) :
    (((w &&& ((w.toUInt64 >>> (k &&& 0x3f).toInt64.toUInt64).toInt64)) &&& (((w &&& ((w.toUInt64 >>> (k &&& 0x3f).toInt64.toUInt64).toInt64)).toUInt64 >>> (k2 &&& 0x3f).toInt64.toUInt64).toInt64)) = (0 : Int64)) ↔ ¬ hf4 w s := by
  rw [eq0_iff]
  constructor
  · rintro h ⟨i, g1, g2, g3, g4⟩
    have := h i
    rw [bt_and, bt_sr _ k2 _ h2, bt_and, bt_and, bt_sr _ k _ h1, bt_sr _ k _ h1, g1, g2, g3] at this
    have e : s + (2 * s + i) = 3 * s + i := by omega
    rw [e, g4] at this
    simp at this
  · intro h i
    cases q : bt _ i with
    | false => rfl
    | true =>
      exfalso
      rw [bt_and, bt_sr _ k2 _ h2, bt_and, bt_and, bt_sr _ k _ h1, bt_sr _ k _ h1] at q
      have e : s + (2 * s + i) = 3 * s + i := by omega
      rw [e] at q
      simp only [Bool.and_eq_true] at q
      exact h ⟨i, q.1.1, q.1.2, q.2.1, q.2.2⟩
theorem hfv_spec (w : Int64) : (hfv w = 1 ∧ (hf4 w 1 ∨ hf4 w 7 ∨ hf4 w 8 ∨ hf4 w 6)) ∨ (hfv w = 0 ∧ ¬ hf4 w 1 ∧ ¬ hf4 w 7 ∧ ¬ hf4 w 8 ∧ ¬ hf4 w 6) := by
  have e1 := four0 w (1 : Int32) (2 : Int32) 1 (by decide) (by decide)
  have e7 := four0 w (7 : Int32) (14 : Int32) 7 (by decide) (by decide)
  have e8 := four0 w (8 : Int32) (16 : Int32) 8 (by decide) (by decide)
  have e6 := four0 w (6 : Int32) (12 : Int32) 6 (by decide) (by decide)
  unfold hfv
  by_cases q1 : hf4 w 1
  · left; rw [if_neg (fun z => (e1.mp z) q1)]; exact ⟨rfl, Or.inl q1⟩
  rw [if_pos (e1.mpr q1)]
  by_cases q7 : hf4 w 7
  · left; rw [if_neg (fun z => (e7.mp z) q7)]; exact ⟨rfl, Or.inr (Or.inl q7)⟩
  rw [if_pos (e7.mpr q7)]
  by_cases q8 : hf4 w 8
  · left; rw [if_neg (fun z => (e8.mp z) q8)]; exact ⟨rfl, Or.inr (Or.inr (Or.inl q8))⟩
  rw [if_pos (e8.mpr q8)]
  by_cases q6 : hf4 w 6
  · left; rw [if_neg (fun z => (e6.mp z) q6)]; exact ⟨rfl, Or.inr (Or.inr (Or.inr q6))⟩
  rw [if_pos (e6.mpr q6)]
  right; exact ⟨rfl, q1, q7, q8, q6⟩
theorem hf4_mono {a b : Int64} {s : Nat} (h : ∀ i, bt a i = true → bt b i = true) (q : hf4 a s) : hf4 b s := by
  obtain ⟨i, g1, g2, g3, g4⟩ := q
  exact ⟨i, h _ g1, h _ g2, h _ g3, h _ g4⟩
theorem hfv_mono {a b : Int64} (h : ∀ i, bt a i = true → bt b i = true) (q : hfv a = 1) : hfv b = 1 := by
  rcases hfv_spec b with ⟨g, -⟩ | ⟨g, n1, n7, n8, n6⟩
  · exact g
  · exfalso
    rcases hfv_spec a with ⟨-, u | u | u | u⟩ | ⟨u, -⟩
    · exact n1 (hf4_mono h u)
    · exact n7 (hf4_mono h u)
    · exact n8 (hf4_mono h u)
    · exact n6 (hf4_mono h u)
    · rw [q] at u; exact absurd u (by decide)
theorem own_safe (x : Int64) : hfv (x &&& (115119445691670 : Int64)) = 0 := by
  rcases hfv_spec (x &&& (115119445691670 : Int64)) with ⟨g, -⟩ | ⟨g, -⟩
  · have q := hfv_mono (b := (115119445691670 : Int64)) (fun i h => by rw [bt_and] at h; simp at h; exact h.2) g
    exact absurd q (by decide)
  · exact g
theorem own_c1 {x k : Int32} (h : ix x = k) (c r : Nat) (hc : c < 7) (hr : r < 6) (h1 : k / 6 = Int32.ofNat c) (h2 : k % 6 = Int32.ofNat r)
    (h3 : ((1 : Int64) <<< ((((7 : Int32) * Int32.ofNat c) + Int32.ofNat r) &&& 0x3f).toInt64).toBitVec = BitVec.twoPow 64 (7 * c + r)) :
    ∃ c r : Nat, c < 7 ∧ r < 6 ∧ cx x = Int32.ofNat c ∧ rx x = Int32.ofNat r ∧ ∀ i, bt ((1 : Int64) <<< ((((7 : Int32) * cx x) + rx x) &&& 0x3f).toInt64) i = decide (i = 7 * c + r) := by
  have e1 : cx x = Int32.ofNat c := by unfold cx; rw [h]; exact h1
  have e2 : rx x = Int32.ofNat r := by unfold rx; rw [h]; exact h2
  refine ⟨c, r, hc, hr, e1, e2, fun i => ?_⟩
  rw [e1, e2]
  show BitVec.getLsbD _ i = _
  rw [h3, BitVec.getLsbD_twoPow]
  have : 7 * c + r < 64 := by omega
  simp only [this, decide_true, Bool.true_and]
  exact decide_eq_decide.mpr ⟨Eq.symm, Eq.symm⟩
def mxI (a b : Int) : Int := if a < b then b else a
def mnI (a b : Int) : Int := if b < a then b else a
def Lq (a b c d u v w z : Int) : Prop := a = b ∧ b = c ∧ c = d ∧ (u ≠ v ∧ u ≠ w ∧ u ≠ z ∧ v ≠ w ∧ v ≠ z ∧ w ≠ z) ∧ mxI (mxI u v) (mxI w z) - mnI (mnI u v) (mnI w z) = 3
def Sm (x : Int32) (n : Int) : Prop := x.toInt = n ∧ -20 ≤ n ∧ n ≤ 20
theorem Sm.eq {x y : Int32} {a b : Int} (p : Sm x a) (q : Sm y b) : x = y ↔ a = b := by rw [← Int32.toInt_inj, p.1, q.1]
theorem Sm.max {x y : Int32} {a b : Int} (p : Sm x a) (q : Sm y b) : Sm (imax x y) (mxI a b) := by
  unfold imax mxI
  have e : x < y ↔ a < b := by rw [Int32.lt_iff_toInt_lt, p.1, q.1]
  by_cases h : a < b
  · rw [if_pos (e.mpr h), if_pos h]; exact q
  · rw [if_neg (fun z => h (e.mp z)), if_neg h]; exact p
theorem Sm.min {x y : Int32} {a b : Int} (p : Sm x a) (q : Sm y b) : Sm (imin x y) (mnI a b) := by
  unfold imin mnI
  have e : y < x ↔ b < a := by rw [Int32.lt_iff_toInt_lt, p.1, q.1]
  by_cases h : b < a
  · rw [if_pos (e.mpr h), if_pos h]; exact q
  · rw [if_neg (fun z => h (e.mp z)), if_neg h]; exact p
theorem Sm.sub {x y : Int32} {a b : Int} (p : Sm x a) (q : Sm y b) : (x - y).toInt = a - b := by
  obtain ⟨p1, p2, p3⟩ := p
  obtain ⟨q1, q2, q3⟩ := q
  rw [Jvm.Kit.i32_sub (by omega) (by omega), p1, q1]
theorem Sm.add {x y : Int32} {a b : Int} (p : Sm x a) (q : Sm y b) : (x + y).toInt = a + b := by
  obtain ⟨p1, p2, p3⟩ := p
  obtain ⟨q1, q2, q3⟩ := q
  rw [Jvm.Kit.i32_add (by omega) (by omega), p1, q1]
theorem lin_spec {a b c d u v w z : Int32} {a' b' c' d' u' v' w' z' : Int} (ha : Sm a a') (hb : Sm b b') (hc : Sm c c') (hd : Sm d d') (hu : Sm u u') (hv : Sm v v') (hw : Sm w w') (hz : Sm z z') :
    (lin a b c d (dst u v w z) (spn u v w z) = 0) ↔ ¬ Lq a' b' c' d' u' v' w' z' := by
  have s3 : spn u v w z = 3 ↔ mxI (mxI u' v') (mxI w' z') - mnI (mnI u' v') (mnI w' z') = 3 := by
    unfold spn
    rw [← Int32.toInt_inj, Sm.sub ((hu.max hv).max (hw.max hz)) ((hu.min hv).min (hw.min hz)), show (3 : Int32).toInt = 3 from by decide]
  have d3 : ¬ dst u v w z = 0 ↔ (u' ≠ v' ∧ u' ≠ w' ∧ u' ≠ z' ∧ v' ≠ w' ∧ v' ≠ z' ∧ w' ≠ z') := by
    unfold dst
    by_cases q : (¬ u = v ∧ ¬ u = w ∧ ¬ u = z ∧ ¬ v = w ∧ ¬ v = z ∧ ¬ w = z)
    · rw [if_pos q]
      rw [hu.eq hv, hu.eq hw, hu.eq hz, hv.eq hw, hv.eq hz, hw.eq hz] at q
      exact ⟨fun _ => q, fun _ => by decide⟩
    · rw [if_neg q]
      rw [hu.eq hv, hu.eq hw, hu.eq hz, hv.eq hw, hv.eq hz, hw.eq hz] at q
      exact ⟨fun h => absurd rfl h, fun h => absurd h q⟩
  unfold lin Lq
  by_cases q : (a = b ∧ b = c ∧ c = d ∧ ¬ dst u v w z = 0 ∧ spn u v w z = 3)
  · rw [if_pos q]
    rw [ha.eq hb, hb.eq hc, hc.eq hd, d3, s3] at q
    exact ⟨fun h => absurd h (by decide), fun h => absurd q h⟩
  · rw [if_neg q]
    rw [ha.eq hb, hb.eq hc, hc.eq hd, d3, s3] at q
    exact ⟨fun _ => q, fun _ => rfl⟩
theorem own_cell (x : Int32) : ∃ c r : Nat, c < 7 ∧ r < 6 ∧ cx x = Int32.ofNat c ∧ rx x = Int32.ofNat r ∧ ∀ i, bt ((1 : Int64) <<< ((((7 : Int32) * cx x) + rx x) &&& 0x3f).toInt64) i = decide (i = 7 * c + r) := by
  rcases own_rem42 x with h | h | h | h | h | h | h | h | h | h | h | h | h | h | h | h | h | h | h | h | h | h | h | h | h | h | h | h | h | h | h | h | h | h | h | h | h | h | h | h | h | h
  · exact own_c1 h 0 0 (by decide) (by decide) (by decide) (by decide) (by decide)
  · exact own_c1 h 0 1 (by decide) (by decide) (by decide) (by decide) (by decide)
  · exact own_c1 h 0 2 (by decide) (by decide) (by decide) (by decide) (by decide)
  · exact own_c1 h 0 3 (by decide) (by decide) (by decide) (by decide) (by decide)
  · exact own_c1 h 0 4 (by decide) (by decide) (by decide) (by decide) (by decide)
  · exact own_c1 h 0 5 (by decide) (by decide) (by decide) (by decide) (by decide)
  · exact own_c1 h 1 0 (by decide) (by decide) (by decide) (by decide) (by decide)
  · exact own_c1 h 1 1 (by decide) (by decide) (by decide) (by decide) (by decide)
  · exact own_c1 h 1 2 (by decide) (by decide) (by decide) (by decide) (by decide)
  · exact own_c1 h 1 3 (by decide) (by decide) (by decide) (by decide) (by decide)
  · exact own_c1 h 1 4 (by decide) (by decide) (by decide) (by decide) (by decide)
  · exact own_c1 h 1 5 (by decide) (by decide) (by decide) (by decide) (by decide)
  · exact own_c1 h 2 0 (by decide) (by decide) (by decide) (by decide) (by decide)
  · exact own_c1 h 2 1 (by decide) (by decide) (by decide) (by decide) (by decide)
  · exact own_c1 h 2 2 (by decide) (by decide) (by decide) (by decide) (by decide)
  · exact own_c1 h 2 3 (by decide) (by decide) (by decide) (by decide) (by decide)
  · exact own_c1 h 2 4 (by decide) (by decide) (by decide) (by decide) (by decide)
  · exact own_c1 h 2 5 (by decide) (by decide) (by decide) (by decide) (by decide)
  · exact own_c1 h 3 0 (by decide) (by decide) (by decide) (by decide) (by decide)
  · exact own_c1 h 3 1 (by decide) (by decide) (by decide) (by decide) (by decide)
  · exact own_c1 h 3 2 (by decide) (by decide) (by decide) (by decide) (by decide)
  · exact own_c1 h 3 3 (by decide) (by decide) (by decide) (by decide) (by decide)
  · exact own_c1 h 3 4 (by decide) (by decide) (by decide) (by decide) (by decide)
  · exact own_c1 h 3 5 (by decide) (by decide) (by decide) (by decide) (by decide)
  · exact own_c1 h 4 0 (by decide) (by decide) (by decide) (by decide) (by decide)
  · exact own_c1 h 4 1 (by decide) (by decide) (by decide) (by decide) (by decide)
  · exact own_c1 h 4 2 (by decide) (by decide) (by decide) (by decide) (by decide)
  · exact own_c1 h 4 3 (by decide) (by decide) (by decide) (by decide) (by decide)
  · exact own_c1 h 4 4 (by decide) (by decide) (by decide) (by decide) (by decide)
  · exact own_c1 h 4 5 (by decide) (by decide) (by decide) (by decide) (by decide)
  · exact own_c1 h 5 0 (by decide) (by decide) (by decide) (by decide) (by decide)
  · exact own_c1 h 5 1 (by decide) (by decide) (by decide) (by decide) (by decide)
  · exact own_c1 h 5 2 (by decide) (by decide) (by decide) (by decide) (by decide)
  · exact own_c1 h 5 3 (by decide) (by decide) (by decide) (by decide) (by decide)
  · exact own_c1 h 5 4 (by decide) (by decide) (by decide) (by decide) (by decide)
  · exact own_c1 h 5 5 (by decide) (by decide) (by decide) (by decide) (by decide)
  · exact own_c1 h 6 0 (by decide) (by decide) (by decide) (by decide) (by decide)
  · exact own_c1 h 6 1 (by decide) (by decide) (by decide) (by decide) (by decide)
  · exact own_c1 h 6 2 (by decide) (by decide) (by decide) (by decide) (by decide)
  · exact own_c1 h 6 3 (by decide) (by decide) (by decide) (by decide) (by decide)
  · exact own_c1 h 6 4 (by decide) (by decide) (by decide) (by decide) (by decide)
  · exact own_c1 h 6 5 (by decide) (by decide) (by decide) (by decide) (by decide)
theorem span4 {u v w z : Int} (h : mxI (mxI u v) (mxI w z) - mnI (mnI u v) (mnI w z) = 3) : ∃ m, (m ≤ u ∧ u ≤ m + 3) ∧ (m ≤ v ∧ v ≤ m + 3) ∧ (m ≤ w ∧ w ≤ m + 3) ∧ (m ≤ z ∧ z ≤ m + 3) := by
  have l1 : ∀ a b : Int, mnI a b ≤ a ∧ mnI a b ≤ b := fun a b => by unfold mnI; split <;> omega
  have l2 : ∀ a b : Int, a ≤ mxI a b ∧ b ≤ mxI a b := fun a b => by unfold mxI; split <;> omega
  have a1 := l1 u v
  have a2 := l1 w z
  have a3 := l1 (mnI u v) (mnI w z)
  have b1 := l2 u v
  have b2 := l2 w z
  have b3 := l2 (mxI u v) (mxI w z)
  exact ⟨mnI (mnI u v) (mnI w z), by omega, by omega, by omega, by omega⟩
set_option maxHeartbeats 40000000 in
theorem dir7 {w : Int64} {c0 r0 c1 r1 c2 r2 c3 r3 : Nat} (hc0 : c0 < 7) (hr0 : r0 < 6) (hc1 : c1 < 7) (hr1 : r1 < 6) (hc2 : c2 < 7) (hr2 : r2 < 6) (hc3 : c3 < 7) (hr3 : r3 < 6) (B : ∀ i, bt w i = true ↔ (i = 7 * c0 + r0 ∨ i = 7 * c1 + r1 ∨ i = 7 * c2 + r2 ∨ i = 7 * c3 + r3)) : hf4 w 7 ↔ Lq (r0 : Int) (r1 : Int) (r2 : Int) (r3 : Int) (c0 : Int) (c1 : Int) (c2 : Int) (c3 : Int) := by
  constructor
  · rintro ⟨i, g1, g2, g3, g4⟩
    rw [B] at g1 g2 g3 g4
    unfold Lq mxI mnI
    rcases g1 with g1 | g1 | g1 | g1 <;> rcases g2 with g2 | g2 | g2 | g2 <;> first
      | (exfalso; omega)
      | (rcases g3 with g3 | g3 | g3 | g3 <;> first
          | (exfalso; omega)
          | (rcases g4 with g4 | g4 | g4 | g4 <;> first
              | (exfalso; omega)
              | (refine ⟨by omega, by omega, by omega, ⟨by omega, by omega, by omega, by omega, by omega, by omega⟩, by omega⟩)))
  · rintro ⟨h1, h2, h3, ⟨n1, n2, n3, n4, n5, n6⟩, h4⟩
    obtain ⟨m, k0, k1, k2, k3⟩ := span4 h4
    clear h4
    have o0 : (c0 : Int) = m ∨ (c0 : Int) = m + 1 ∨ (c0 : Int) = m + 2 ∨ (c0 : Int) = m + 3 := by omega
    have o1 : (c1 : Int) = m ∨ (c1 : Int) = m + 1 ∨ (c1 : Int) = m + 2 ∨ (c1 : Int) = m + 3 := by omega
    have o2 : (c2 : Int) = m ∨ (c2 : Int) = m + 1 ∨ (c2 : Int) = m + 2 ∨ (c2 : Int) = m + 3 := by omega
    have o3 : (c3 : Int) = m ∨ (c3 : Int) = m + 1 ∨ (c3 : Int) = m + 2 ∨ (c3 : Int) = m + 3 := by omega
    clear k0 k1 k2 k3
    rcases o0 with o0 | o0 | o0 | o0 <;> rcases o1 with o1 | o1 | o1 | o1 <;> first
      | (exfalso; omega)
      | (rcases o2 with o2 | o2 | o2 | o2 <;> first
          | (exfalso; omega)
          | (rcases o3 with o3 | o3 | o3 | o3 <;> first
              | (exfalso; omega)
              | (have z0 : (c0 : Int) = m := by omega
                 exact ⟨7 * c0 + r0, (B _).mpr (by omega), (B _).mpr (by omega), (B _).mpr (by omega), (B _).mpr (by omega)⟩)
              | (have z1 : (c1 : Int) = m := by omega
                 exact ⟨7 * c1 + r1, (B _).mpr (by omega), (B _).mpr (by omega), (B _).mpr (by omega), (B _).mpr (by omega)⟩)
              | (have z2 : (c2 : Int) = m := by omega
                 exact ⟨7 * c2 + r2, (B _).mpr (by omega), (B _).mpr (by omega), (B _).mpr (by omega), (B _).mpr (by omega)⟩)
              | (have z3 : (c3 : Int) = m := by omega
                 exact ⟨7 * c3 + r3, (B _).mpr (by omega), (B _).mpr (by omega), (B _).mpr (by omega), (B _).mpr (by omega)⟩)))
set_option maxHeartbeats 40000000 in
theorem dir1 {w : Int64} {c0 r0 c1 r1 c2 r2 c3 r3 : Nat} (hc0 : c0 < 7) (hr0 : r0 < 6) (hc1 : c1 < 7) (hr1 : r1 < 6) (hc2 : c2 < 7) (hr2 : r2 < 6) (hc3 : c3 < 7) (hr3 : r3 < 6) (B : ∀ i, bt w i = true ↔ (i = 7 * c0 + r0 ∨ i = 7 * c1 + r1 ∨ i = 7 * c2 + r2 ∨ i = 7 * c3 + r3)) : hf4 w 1 ↔ Lq (c0 : Int) (c1 : Int) (c2 : Int) (c3 : Int) (r0 : Int) (r1 : Int) (r2 : Int) (r3 : Int) := by
  constructor
  · rintro ⟨i, g1, g2, g3, g4⟩
    rw [B] at g1 g2 g3 g4
    unfold Lq mxI mnI
    rcases g1 with g1 | g1 | g1 | g1 <;> rcases g2 with g2 | g2 | g2 | g2 <;> first
      | (exfalso; omega)
      | (rcases g3 with g3 | g3 | g3 | g3 <;> first
          | (exfalso; omega)
          | (rcases g4 with g4 | g4 | g4 | g4 <;> first
              | (exfalso; omega)
              | (refine ⟨by omega, by omega, by omega, ⟨by omega, by omega, by omega, by omega, by omega, by omega⟩, by omega⟩)))
  · rintro ⟨h1, h2, h3, ⟨n1, n2, n3, n4, n5, n6⟩, h4⟩
    obtain ⟨m, k0, k1, k2, k3⟩ := span4 h4
    clear h4
    have o0 : (r0 : Int) = m ∨ (r0 : Int) = m + 1 ∨ (r0 : Int) = m + 2 ∨ (r0 : Int) = m + 3 := by omega
    have o1 : (r1 : Int) = m ∨ (r1 : Int) = m + 1 ∨ (r1 : Int) = m + 2 ∨ (r1 : Int) = m + 3 := by omega
    have o2 : (r2 : Int) = m ∨ (r2 : Int) = m + 1 ∨ (r2 : Int) = m + 2 ∨ (r2 : Int) = m + 3 := by omega
    have o3 : (r3 : Int) = m ∨ (r3 : Int) = m + 1 ∨ (r3 : Int) = m + 2 ∨ (r3 : Int) = m + 3 := by omega
    clear k0 k1 k2 k3
    rcases o0 with o0 | o0 | o0 | o0 <;> rcases o1 with o1 | o1 | o1 | o1 <;> first
      | (exfalso; omega)
      | (rcases o2 with o2 | o2 | o2 | o2 <;> first
          | (exfalso; omega)
          | (rcases o3 with o3 | o3 | o3 | o3 <;> first
              | (exfalso; omega)
              | (have z0 : (r0 : Int) = m := by omega
                 exact ⟨7 * c0 + r0, (B _).mpr (by omega), (B _).mpr (by omega), (B _).mpr (by omega), (B _).mpr (by omega)⟩)
              | (have z1 : (r1 : Int) = m := by omega
                 exact ⟨7 * c1 + r1, (B _).mpr (by omega), (B _).mpr (by omega), (B _).mpr (by omega), (B _).mpr (by omega)⟩)
              | (have z2 : (r2 : Int) = m := by omega
                 exact ⟨7 * c2 + r2, (B _).mpr (by omega), (B _).mpr (by omega), (B _).mpr (by omega), (B _).mpr (by omega)⟩)
              | (have z3 : (r3 : Int) = m := by omega
                 exact ⟨7 * c3 + r3, (B _).mpr (by omega), (B _).mpr (by omega), (B _).mpr (by omega), (B _).mpr (by omega)⟩)))
set_option maxHeartbeats 40000000 in
theorem dir8 {w : Int64} {c0 r0 c1 r1 c2 r2 c3 r3 : Nat} (hc0 : c0 < 7) (hr0 : r0 < 6) (hc1 : c1 < 7) (hr1 : r1 < 6) (hc2 : c2 < 7) (hr2 : r2 < 6) (hc3 : c3 < 7) (hr3 : r3 < 6) (B : ∀ i, bt w i = true ↔ (i = 7 * c0 + r0 ∨ i = 7 * c1 + r1 ∨ i = 7 * c2 + r2 ∨ i = 7 * c3 + r3)) : hf4 w 8 ↔ Lq ((c0 : Int) - (r0 : Int)) ((c1 : Int) - (r1 : Int)) ((c2 : Int) - (r2 : Int)) ((c3 : Int) - (r3 : Int)) (c0 : Int) (c1 : Int) (c2 : Int) (c3 : Int) := by
  constructor
  · rintro ⟨i, g1, g2, g3, g4⟩
    rw [B] at g1 g2 g3 g4
    unfold Lq mxI mnI
    rcases g1 with g1 | g1 | g1 | g1 <;> rcases g2 with g2 | g2 | g2 | g2 <;> first
      | (exfalso; omega)
      | (rcases g3 with g3 | g3 | g3 | g3 <;> first
          | (exfalso; omega)
          | (rcases g4 with g4 | g4 | g4 | g4 <;> first
              | (exfalso; omega)
              | (refine ⟨by omega, by omega, by omega, ⟨by omega, by omega, by omega, by omega, by omega, by omega⟩, by omega⟩)))
  · rintro ⟨h1, h2, h3, ⟨n1, n2, n3, n4, n5, n6⟩, h4⟩
    obtain ⟨m, k0, k1, k2, k3⟩ := span4 h4
    clear h4
    have o0 : (c0 : Int) = m ∨ (c0 : Int) = m + 1 ∨ (c0 : Int) = m + 2 ∨ (c0 : Int) = m + 3 := by omega
    have o1 : (c1 : Int) = m ∨ (c1 : Int) = m + 1 ∨ (c1 : Int) = m + 2 ∨ (c1 : Int) = m + 3 := by omega
    have o2 : (c2 : Int) = m ∨ (c2 : Int) = m + 1 ∨ (c2 : Int) = m + 2 ∨ (c2 : Int) = m + 3 := by omega
    have o3 : (c3 : Int) = m ∨ (c3 : Int) = m + 1 ∨ (c3 : Int) = m + 2 ∨ (c3 : Int) = m + 3 := by omega
    clear k0 k1 k2 k3
    rcases o0 with o0 | o0 | o0 | o0 <;> rcases o1 with o1 | o1 | o1 | o1 <;> first
      | (exfalso; omega)
      | (rcases o2 with o2 | o2 | o2 | o2 <;> first
          | (exfalso; omega)
          | (rcases o3 with o3 | o3 | o3 | o3 <;> first
              | (exfalso; omega)
              | (have z0 : (c0 : Int) = m := by omega
                 exact ⟨7 * c0 + r0, (B _).mpr (by omega), (B _).mpr (by omega), (B _).mpr (by omega), (B _).mpr (by omega)⟩)
              | (have z1 : (c1 : Int) = m := by omega
                 exact ⟨7 * c1 + r1, (B _).mpr (by omega), (B _).mpr (by omega), (B _).mpr (by omega), (B _).mpr (by omega)⟩)
              | (have z2 : (c2 : Int) = m := by omega
                 exact ⟨7 * c2 + r2, (B _).mpr (by omega), (B _).mpr (by omega), (B _).mpr (by omega), (B _).mpr (by omega)⟩)
              | (have z3 : (c3 : Int) = m := by omega
                 exact ⟨7 * c3 + r3, (B _).mpr (by omega), (B _).mpr (by omega), (B _).mpr (by omega), (B _).mpr (by omega)⟩)))
set_option maxHeartbeats 40000000 in
theorem dir6 {w : Int64} {c0 r0 c1 r1 c2 r2 c3 r3 : Nat} (hc0 : c0 < 7) (hr0 : r0 < 6) (hc1 : c1 < 7) (hr1 : r1 < 6) (hc2 : c2 < 7) (hr2 : r2 < 6) (hc3 : c3 < 7) (hr3 : r3 < 6) (B : ∀ i, bt w i = true ↔ (i = 7 * c0 + r0 ∨ i = 7 * c1 + r1 ∨ i = 7 * c2 + r2 ∨ i = 7 * c3 + r3)) : hf4 w 6 ↔ Lq ((c0 : Int) + (r0 : Int)) ((c1 : Int) + (r1 : Int)) ((c2 : Int) + (r2 : Int)) ((c3 : Int) + (r3 : Int)) (c0 : Int) (c1 : Int) (c2 : Int) (c3 : Int) := by
  constructor
  · rintro ⟨i, g1, g2, g3, g4⟩
    rw [B] at g1 g2 g3 g4
    unfold Lq mxI mnI
    rcases g1 with g1 | g1 | g1 | g1 <;> rcases g2 with g2 | g2 | g2 | g2 <;> first
      | (exfalso; omega)
      | (rcases g3 with g3 | g3 | g3 | g3 <;> first
          | (exfalso; omega)
          | (rcases g4 with g4 | g4 | g4 | g4 <;> first
              | (exfalso; omega)
              | (refine ⟨by omega, by omega, by omega, ⟨by omega, by omega, by omega, by omega, by omega, by omega⟩, by omega⟩)))
  · rintro ⟨h1, h2, h3, ⟨n1, n2, n3, n4, n5, n6⟩, h4⟩
    obtain ⟨m, k0, k1, k2, k3⟩ := span4 h4
    clear h4
    have o0 : (c0 : Int) = m ∨ (c0 : Int) = m + 1 ∨ (c0 : Int) = m + 2 ∨ (c0 : Int) = m + 3 := by omega
    have o1 : (c1 : Int) = m ∨ (c1 : Int) = m + 1 ∨ (c1 : Int) = m + 2 ∨ (c1 : Int) = m + 3 := by omega
    have o2 : (c2 : Int) = m ∨ (c2 : Int) = m + 1 ∨ (c2 : Int) = m + 2 ∨ (c2 : Int) = m + 3 := by omega
    have o3 : (c3 : Int) = m ∨ (c3 : Int) = m + 1 ∨ (c3 : Int) = m + 2 ∨ (c3 : Int) = m + 3 := by omega
    clear k0 k1 k2 k3
    rcases o0 with o0 | o0 | o0 | o0 <;> rcases o1 with o1 | o1 | o1 | o1 <;> first
      | (exfalso; omega)
      | (rcases o2 with o2 | o2 | o2 | o2 <;> first
          | (exfalso; omega)
          | (rcases o3 with o3 | o3 | o3 | o3 <;> first
              | (exfalso; omega)
              | (have z0 : (c0 : Int) = m := by omega
                 exact ⟨7 * c0 + r0, (B _).mpr (by omega), (B _).mpr (by omega), (B _).mpr (by omega), (B _).mpr (by omega)⟩)
              | (have z1 : (c1 : Int) = m := by omega
                 exact ⟨7 * c1 + r1, (B _).mpr (by omega), (B _).mpr (by omega), (B _).mpr (by omega), (B _).mpr (by omega)⟩)
              | (have z2 : (c2 : Int) = m := by omega
                 exact ⟨7 * c2 + r2, (B _).mpr (by omega), (B _).mpr (by omega), (B _).mpr (by omega), (B _).mpr (by omega)⟩)
              | (have z3 : (c3 : Int) = m := by omega
                 exact ⟨7 * c3 + r3, (B _).mpr (by omega), (B _).mpr (by omega), (B _).mpr (by omega), (B _).mpr (by omega)⟩)))
theorem own_line (x0 x1 x2 x3 : Int32) : (hfv (own4 x0 x1 x2 x3) = 1 ∧ isl (cx x0) (rx x0) (cx x1) (rx x1) (cx x2) (rx x2) (cx x3) (rx x3) = 1) ∨ (hfv (own4 x0 x1 x2 x3) = 0 ∧ isl (cx x0) (rx x0) (cx x1) (rx x1) (cx x2) (rx x2) (cx x3) (rx x3) = 0) := by
  obtain ⟨c0, r0, hc0, hr0, a0, b0, B0⟩ := own_cell x0
  obtain ⟨c1, r1, hc1, hr1, a1, b1, B1⟩ := own_cell x1
  obtain ⟨c2, r2, hc2, hr2, a2, b2, B2⟩ := own_cell x2
  obtain ⟨c3, r3, hc3, hr3, a3, b3, B3⟩ := own_cell x3
  have B : ∀ i, bt (own4 x0 x1 x2 x3) i = true ↔ (i = 7 * c0 + r0 ∨ i = 7 * c1 + r1 ∨ i = 7 * c2 + r2 ∨ i = 7 * c3 + r3) := by
    intro i
    unfold own4
    rw [bt_or, bt_or, bt_or, B0, B1, B2, B3]
    simp [or_assoc]
  have sm : ∀ n : Nat, n < 7 → Sm (Int32.ofNat n) (n : Int) := fun n hn => ⟨Int32.toInt_ofNat_small (by omega), by omega, by omega⟩
  have C0 : Sm (cx x0) (c0 : Int) := a0 ▸ sm c0 hc0
  have C1 : Sm (cx x1) (c1 : Int) := a1 ▸ sm c1 hc1
  have C2 : Sm (cx x2) (c2 : Int) := a2 ▸ sm c2 hc2
  have C3 : Sm (cx x3) (c3 : Int) := a3 ▸ sm c3 hc3
  have R0 : Sm (rx x0) (r0 : Int) := b0 ▸ sm r0 (by omega)
  have R1 : Sm (rx x1) (r1 : Int) := b1 ▸ sm r1 (by omega)
  have R2 : Sm (rx x2) (r2 : Int) := b2 ▸ sm r2 (by omega)
  have R3 : Sm (rx x3) (r3 : Int) := b3 ▸ sm r3 (by omega)
  have D0 : Sm (cx x0 - rx x0) ((c0 : Int) - r0) := ⟨C0.sub R0, by omega, by omega⟩
  have D1 : Sm (cx x1 - rx x1) ((c1 : Int) - r1) := ⟨C1.sub R1, by omega, by omega⟩
  have D2 : Sm (cx x2 - rx x2) ((c2 : Int) - r2) := ⟨C2.sub R2, by omega, by omega⟩
  have D3 : Sm (cx x3 - rx x3) ((c3 : Int) - r3) := ⟨C3.sub R3, by omega, by omega⟩
  have E0 : Sm (cx x0 + rx x0) ((c0 : Int) + r0) := ⟨C0.add R0, by omega, by omega⟩
  have E1 : Sm (cx x1 + rx x1) ((c1 : Int) + r1) := ⟨C1.add R1, by omega, by omega⟩
  have E2 : Sm (cx x2 + rx x2) ((c2 : Int) + r2) := ⟨C2.add R2, by omega, by omega⟩
  have E3 : Sm (cx x3 + rx x3) ((c3 : Int) + r3) := ⟨C3.add R3, by omega, by omega⟩
  have l7 := lin_spec R0 R1 R2 R3 C0 C1 C2 C3
  have l1 := lin_spec C0 C1 C2 C3 R0 R1 R2 R3
  have l8 := lin_spec D0 D1 D2 D3 C0 C1 C2 C3
  have l6 := lin_spec E0 E1 E2 E3 C0 C1 C2 C3
  rw [← dir7 hc0 hr0 hc1 hr1 hc2 hr2 hc3 hr3 B] at l7
  rw [← dir1 hc0 hr0 hc1 hr1 hc2 hr2 hc3 hr3 B] at l1
  rw [← dir8 hc0 hr0 hc1 hr1 hc2 hr2 hc3 hr3 B] at l8
  rw [← dir6 hc0 hr0 hc1 hr1 hc2 hr2 hc3 hr3 B] at l6
  have hi : ∀ (P : Prop), P ∨ ¬ P := fun P => Classical.em P
  rcases hfv_spec (own4 x0 x1 x2 x3) with ⟨g, u⟩ | ⟨g, n1, n7, n8, n6⟩
  · left
    refine ⟨g, ?_⟩
    unfold isl
    by_cases q7 : hf4 (own4 x0 x1 x2 x3) 7
    · rw [if_neg fun z => l7.mp z q7]
    rw [if_pos (l7.mpr q7)]
    by_cases q1 : hf4 (own4 x0 x1 x2 x3) 1
    · rw [if_neg fun z => l1.mp z q1]
    rw [if_pos (l1.mpr q1)]
    by_cases q8 : hf4 (own4 x0 x1 x2 x3) 8
    · rw [if_neg fun z => l8.mp z q8]
    rw [if_pos (l8.mpr q8)]
    by_cases q6 : hf4 (own4 x0 x1 x2 x3) 6
    · rw [if_neg fun z => l6.mp z q6]
    exfalso
    rcases u with u | u | u | u
    · exact q1 u
    · exact q7 u
    · exact q8 u
    · exact q6 u
  · right
    refine ⟨g, ?_⟩
    unfold isl
    rw [if_pos (l7.mpr n7), if_pos (l1.mpr n1), if_pos (l8.mpr n8), if_pos (l6.mpr n6)]
theorem own_exact (x0 x1 x2 x3 : Int32) : hfv (own4 x0 x1 x2 x3) = isl (cx x0) (rx x0) (cx x1) (rx x1) (cx x2) (rx x2) (cx x3) (rx x3) := by
  rcases own_line x0 x1 x2 x3 with ⟨a, b⟩ | ⟨a, b⟩ <;> rw [a, b]
theorem own_sup (x0 x1 x2 x3 : Int32) (x4 : Int64) (h : ¬ isl (cx x0) (rx x0) (cx x1) (rx x1) (cx x2) (rx x2) (cx x3) (rx x3) = 0) : ¬ hfv (own4 x0 x1 x2 x3 ||| (x4 &&& (279258638311359 : Int64))) = 0 := by
  rcases own_line x0 x1 x2 x3 with ⟨a, b⟩ | ⟨a, b⟩
  · rw [hfv_mono (b := own4 x0 x1 x2 x3 ||| (x4 &&& (279258638311359 : Int64))) (fun i g => by rw [bt_or, g]; rfl) a]; decide
  · exact absurd b h
theorem pd_0 : parseMethodDescriptor "(II)I" = some ⟨[.int, .int], some .int⟩ := by decide +kernel
theorem pd_1 : parseMethodDescriptor "(II)J" = some ⟨[.int, .int], some .long⟩ := by decide +kernel
theorem pd_2 : parseMethodDescriptor "(IIIIIIII)Z" = some ⟨[.int, .int, .int, .int, .int, .int, .int, .int], some .boolean⟩ := by decide +kernel
theorem pd_3 : parseMethodDescriptor "(J)Z" = some ⟨[.long], some .boolean⟩ := by decide +kernel
def Facts (Z : State) (a_DIRECTIONS : Addr) (k_DIRECTIONS : ClassId) : Prop := (Sta Z Z.heap "com/example/afterstate/afterstate/connect4/Bitboard" "DIRECTIONS" "[I" (.ref a_DIRECTIONS)) ∧ (Arv Z Z.heap a_DIRECTIONS k_DIRECTIONS .int (4 : Int32) [(.int (1 : Int32)), (.int (7 : Int32)), (.int (8 : Int32)), (.int (6 : Int32))] (.int (0 : Int32)))
theorem d5_0 : decode prog_22_method_5_code 0 = .ok (.getstatic 20, 3) := by decide +kernel
theorem d5_3 : decode prog_22_method_5_code 3 = .ok (.astore_n 2, 1) := by decide +kernel
theorem d5_4 : decode prog_22_method_5_code 4 = .ok (.aload_n 2, 1) := by decide +kernel
theorem d5_5 : decode prog_22_method_5_code 5 = .ok (.arraylength, 1) := by decide +kernel
theorem d5_6 : decode prog_22_method_5_code 6 = .ok (.istore_n 3, 1) := by decide +kernel
theorem d5_7 : decode prog_22_method_5_code 7 = .ok (.iconst 0, 1) := by decide +kernel
theorem d5_8 : decode prog_22_method_5_code 8 = .ok (.istore 4, 2) := by decide +kernel
theorem d5_10 : decode prog_22_method_5_code 10 = .ok (.iload 4, 2) := by decide +kernel
theorem d5_12 : decode prog_22_method_5_code 12 = .ok (.iload_n 3, 1) := by decide +kernel
theorem d5_13 : decode prog_22_method_5_code 13 = .ok (.if_icmp .ge 40, 3) := by decide +kernel
theorem d5_16 : decode prog_22_method_5_code 16 = .ok (.aload_n 2, 1) := by decide +kernel
theorem d5_17 : decode prog_22_method_5_code 17 = .ok (.iload 4, 2) := by decide +kernel
theorem d5_19 : decode prog_22_method_5_code 19 = .ok (.iaload, 1) := by decide +kernel
theorem d5_20 : decode prog_22_method_5_code 20 = .ok (.istore 5, 2) := by decide +kernel
theorem d5_22 : decode prog_22_method_5_code 22 = .ok (.lload_n 0, 1) := by decide +kernel
theorem d5_23 : decode prog_22_method_5_code 23 = .ok (.lload_n 0, 1) := by decide +kernel
theorem d5_24 : decode prog_22_method_5_code 24 = .ok (.iload 5, 2) := by decide +kernel
theorem d5_26 : decode prog_22_method_5_code 26 = .ok (.lushr, 1) := by decide +kernel
theorem d5_27 : decode prog_22_method_5_code 27 = .ok (.land, 1) := by decide +kernel
theorem d5_28 : decode prog_22_method_5_code 28 = .ok (.lstore 6, 2) := by decide +kernel
theorem d5_30 : decode prog_22_method_5_code 30 = .ok (.lload 6, 2) := by decide +kernel
theorem d5_32 : decode prog_22_method_5_code 32 = .ok (.lload 6, 2) := by decide +kernel
theorem d5_34 : decode prog_22_method_5_code 34 = .ok (.iconst 2, 1) := by decide +kernel
theorem d5_35 : decode prog_22_method_5_code 35 = .ok (.iload 5, 2) := by decide +kernel
theorem d5_37 : decode prog_22_method_5_code 37 = .ok (.imul, 1) := by decide +kernel
theorem d5_38 : decode prog_22_method_5_code 38 = .ok (.lushr, 1) := by decide +kernel
theorem d5_39 : decode prog_22_method_5_code 39 = .ok (.land, 1) := by decide +kernel
theorem d5_40 : decode prog_22_method_5_code 40 = .ok (.lconst 0, 1) := by decide +kernel
theorem d5_41 : decode prog_22_method_5_code 41 = .ok (.lcmp, 1) := by decide +kernel
theorem d5_42 : decode prog_22_method_5_code 42 = .ok (.ifCond .eq 5, 3) := by decide +kernel
theorem d5_45 : decode prog_22_method_5_code 45 = .ok (.iconst 1, 1) := by decide +kernel
theorem d5_46 : decode prog_22_method_5_code 46 = .ok (.ireturn, 1) := by decide +kernel
theorem d5_47 : decode prog_22_method_5_code 47 = .ok (.iinc 4 1, 3) := by decide +kernel
theorem d5_50 : decode prog_22_method_5_code 50 = .ok (.goto (-40), 3) := by decide +kernel
theorem d5_53 : decode prog_22_method_5_code 53 = .ok (.iconst 0, 1) := by decide +kernel
theorem d5_54 : decode prog_22_method_5_code 54 = .ok (.ireturn, 1) := by decide +kernel
theorem pn_5 : plainName "com/example/afterstate/afterstate/connect4/Bitboard" = true := by first | (simp [plainName, overriddenIn]; done) | decide +kernel
theorem ef_5 (m : MethodId) (x0 : Int64) : entryFrame m #[(.long x0)] 8 = mkF m 0 #[.val (.long x0), .second, .unset, .unset, .unset, .unset, .unset, .unset] [] := by first | (simp [entryFrame, mkF, argsToLocals, Value.category]; done) | rfl
set_option maxRecDepth 65536 in
set_option maxHeartbeats 40000000 in
theorem rmH (l : Launch) (Z : State) (a0 : Array Value) (hw : ∀ d ∈ tables_1, d.before a0 Z = true) (w : Int64) (a_DIRECTIONS : Addr) (k_DIRECTIONS : ClassId) (h0 : Heap) (O0 : Old Z Z.heap.size h0) (FF : Facts Z a_DIRECTIONS k_DIRECTIONS) : Pur l Z (⟨"com/example/afterstate/afterstate/connect4/Bitboard", "hasFour", "(J)Z"⟩ : MethodName) prog_22_method_5_code 8 (some .boolean) 0 0 #[(.long w)] h0 (some (.int (hfv w))) := by
  refine Ctr.of (plainFor_of_name pn_5) ?_
  have wd : ∀ {d : Jvm.Cond} (i : Nat), tables_1[i]? = some d → d.before a0 Z = true := fun i q => hw _ (List.mem_of_getElem? q)
  intro p e s m below meth c s₁ hx hby hml hown hnm hret hlk hZ X0 e0
  have FF' := FF
  obtain ⟨S_DIRECTIONS, V_DIRECTIONS⟩ := FF'
  refine Go.cast (ef_5 m w) ?_
  show Go p e below _ s₁ (mkF m 0 #[.val (.long w), .second, .unset, .unset, .unset, .unset, .unset, .unset] [])
  refine Go.getS X0 hx hZ hown (host := "") (Or.inl (wd 21 rfl)) Via.refl e0 (S_DIRECTIONS.ext O0.2) (hb hby d5_0) rfl ?_
  intro T1 X1 e1
  refine Go.astoreN X1 hx (hb hby d5_3) rfl rfl #[.val (.long w), .second, .val (.ref a_DIRECTIONS), .unset, .unset, .unset, .unset, .unset] rfl ?_
  refine Go.aloadN X1 hx (hb hby d5_4) rfl rfl rfl ?_
  refine Go.alen X1 hx hZ (V_DIRECTIONS.ext O0.2) e1 (hb hby d5_5) rfl ?_
  refine Go.istoreN X1 hx (hb hby d5_6) rfl  #[.val (.long w), .second, .val (.ref a_DIRECTIONS), .val (.int (4 : Int32)), .unset, .unset, .unset, .unset] rfl ?_
  refine Go.iconst X1 hx (hb hby d5_7) rfl (0 : Int32) rfl ?_
  refine Go.istore X1 hx (hb hby d5_8) rfl  #[.val (.long w), .second, .val (.ref a_DIRECTIONS), .val (.int (4 : Int32)), .val (.int (0 : Int32)), .unset, .unset, .unset] rfl ?_
  refine Go.iload X1 hx (hb hby d5_10) rfl rfl  ?_
  refine Go.iloadN X1 hx (hb hby d5_12) rfl rfl  ?_
  refine Go.icmpNo X1 hx (hb hby d5_13) rfl (tlt (by decide : (0 : Int32) < (4 : Int32))).2.1 ?_
  refine Go.aloadN X1 hx (hb hby d5_16) rfl rfl rfl ?_
  refine Go.iload X1 hx (hb hby d5_17) rfl rfl  ?_
  refine Go.iaload X1 hx hZ (.int (1 : Int32)) (V_DIRECTIONS.ext O0.2) e1  ⟨by decide, by decide⟩ rfl (hb hby d5_19) rfl ?_
  refine Go.istore X1 hx (hb hby d5_20) rfl  #[.val (.long w), .second, .val (.ref a_DIRECTIONS), .val (.int (4 : Int32)), .val (.int (0 : Int32)), .val (.int (1 : Int32)), .unset, .unset] rfl ?_
  refine Go.lloadN X1 hx (hb hby d5_22) rfl rfl  ?_
  refine Go.lloadN X1 hx (hb hby d5_23) rfl rfl  ?_
  refine Go.iload X1 hx (hb hby d5_24) rfl rfl  ?_
  refine Go.lushr X1 hx (hb hby d5_26) rfl ?_
  refine Go.land X1 hx (hb hby d5_27) rfl ?_
  refine Go.lstore X1 hx (hb hby d5_28) rfl  #[.val (.long w), .second, .val (.ref a_DIRECTIONS), .val (.int (4 : Int32)), .val (.int (0 : Int32)), .val (.int (1 : Int32)), .val (.long (w &&& (((w).toUInt64 >>> ((1 : Int32) &&& 0x3f).toInt64.toUInt64).toInt64))), .second] rfl ?_
  refine Go.lload X1 hx (hb hby d5_30) rfl rfl  ?_
  refine Go.lload X1 hx (hb hby d5_32) rfl rfl  ?_
  refine Go.iconst X1 hx (hb hby d5_34) rfl (2 : Int32) rfl ?_
  refine Go.iload X1 hx (hb hby d5_35) rfl rfl  ?_
  refine Go.imul X1 hx (hb hby d5_37) rfl ?_
  show Go p e below _ T1 (mkF m 38 #[.val (.long w), .second, .val (.ref a_DIRECTIONS), .val (.int (4 : Int32)), .val (.int (0 : Int32)), .val (.int (1 : Int32)), .val (.long (w &&& (((w).toUInt64 >>> ((1 : Int32) &&& 0x3f).toInt64.toUInt64).toInt64))), .second] [(.int ((2 : Int32) * (1 : Int32))), (.long (w &&& (((w).toUInt64 >>> ((1 : Int32) &&& 0x3f).toInt64.toUInt64).toInt64))), (.long (w &&& (((w).toUInt64 >>> ((1 : Int32) &&& 0x3f).toInt64.toUInt64).toInt64)))])
  rw [show ((2 : Int32) * (1 : Int32)) = (2 : Int32) from by decide]
  refine Go.lushr X1 hx (hb hby d5_38) rfl ?_
  refine Go.land X1 hx (hb hby d5_39) rfl ?_
  refine Go.lconst X1 hx (hb hby d5_40) rfl (0 : Int64) rfl ?_
  refine Go.lcmp X1 hx (hb hby d5_41) rfl ?_
  by_cases hc2 : ((w &&& (((w).toUInt64 >>> ((1 : Int32) &&& 0x3f).toInt64.toUInt64).toInt64)) &&& ((((w &&& (((w).toUInt64 >>> ((1 : Int32) &&& 0x3f).toInt64.toUInt64).toInt64))).toUInt64 >>> ((2 : Int32) &&& 0x3f).toInt64.toUInt64).toInt64)) = (0 : Int64)
  · refine Go.ifYes X1 hx (hb hby d5_42) rfl 47 ((if0 _ _).trans (teq ((lw_eq ((w &&& (((w).toUInt64 >>> ((1 : Int32) &&& 0x3f).toInt64.toUInt64).toInt64)) &&& ((((w &&& (((w).toUInt64 >>> ((1 : Int32) &&& 0x3f).toInt64.toUInt64).toInt64))).toUInt64 >>> ((2 : Int32) &&& 0x3f).toInt64.toUInt64).toInt64)) (0 : Int64)).mpr hc2)).1) (by decide) (by decide) ?_
    refine Go.iinc X1 hx (hb hby d5_47) rfl rfl #[.val (.long w), .second, .val (.ref a_DIRECTIONS), .val (.int (4 : Int32)), .val (.int ((0 : Int32) + (1 : Int32))), .val (.int (1 : Int32)), .val (.long (w &&& (((w).toUInt64 >>> ((1 : Int32) &&& 0x3f).toInt64.toUInt64).toInt64))), .second] rfl ?_
    show Go p e below _ T1 (mkF m 50 #[.val (.long w), .second, .val (.ref a_DIRECTIONS), .val (.int (4 : Int32)), .val (.int ((0 : Int32) + (1 : Int32))), .val (.int (1 : Int32)), .val (.long (w &&& (((w).toUInt64 >>> ((1 : Int32) &&& 0x3f).toInt64.toUInt64).toInt64))), .second] [])
    rw [show ((0 : Int32) + (1 : Int32)) = (1 : Int32) from by decide]
    show Go p e below _ T1 (mkF m 50 #[.val (.long w), .second, .val (.ref a_DIRECTIONS), .val (.int (4 : Int32)), .val (.int (1 : Int32)), .val (.int (1 : Int32)), .val (.long (w &&& (((w).toUInt64 >>> ((1 : Int32) &&& 0x3f).toInt64.toUInt64).toInt64))), .second] [])
    refine Go.goto X1 hx (hb hby d5_50) rfl 10 (by decide) (by decide) ?_
    refine Go.iload X1 hx (hb hby d5_10) rfl rfl  ?_
    refine Go.iloadN X1 hx (hb hby d5_12) rfl rfl  ?_
    refine Go.icmpNo X1 hx (hb hby d5_13) rfl (tlt (by decide : (1 : Int32) < (4 : Int32))).2.1 ?_
    refine Go.aloadN X1 hx (hb hby d5_16) rfl rfl rfl ?_
    refine Go.iload X1 hx (hb hby d5_17) rfl rfl  ?_
    refine Go.iaload X1 hx hZ (.int (7 : Int32)) (V_DIRECTIONS.ext O0.2) e1  ⟨by decide, by decide⟩ rfl (hb hby d5_19) rfl ?_
    refine Go.istore X1 hx (hb hby d5_20) rfl  #[.val (.long w), .second, .val (.ref a_DIRECTIONS), .val (.int (4 : Int32)), .val (.int (1 : Int32)), .val (.int (7 : Int32)), .val (.long (w &&& (((w).toUInt64 >>> ((1 : Int32) &&& 0x3f).toInt64.toUInt64).toInt64))), .second] rfl ?_
    refine Go.lloadN X1 hx (hb hby d5_22) rfl rfl  ?_
    refine Go.lloadN X1 hx (hb hby d5_23) rfl rfl  ?_
    refine Go.iload X1 hx (hb hby d5_24) rfl rfl  ?_
    refine Go.lushr X1 hx (hb hby d5_26) rfl ?_
    refine Go.land X1 hx (hb hby d5_27) rfl ?_
    refine Go.lstore X1 hx (hb hby d5_28) rfl  #[.val (.long w), .second, .val (.ref a_DIRECTIONS), .val (.int (4 : Int32)), .val (.int (1 : Int32)), .val (.int (7 : Int32)), .val (.long (w &&& (((w).toUInt64 >>> ((7 : Int32) &&& 0x3f).toInt64.toUInt64).toInt64))), .second] rfl ?_
    refine Go.lload X1 hx (hb hby d5_30) rfl rfl  ?_
    refine Go.lload X1 hx (hb hby d5_32) rfl rfl  ?_
    refine Go.iconst X1 hx (hb hby d5_34) rfl (2 : Int32) rfl ?_
    refine Go.iload X1 hx (hb hby d5_35) rfl rfl  ?_
    refine Go.imul X1 hx (hb hby d5_37) rfl ?_
    show Go p e below _ T1 (mkF m 38 #[.val (.long w), .second, .val (.ref a_DIRECTIONS), .val (.int (4 : Int32)), .val (.int (1 : Int32)), .val (.int (7 : Int32)), .val (.long (w &&& (((w).toUInt64 >>> ((7 : Int32) &&& 0x3f).toInt64.toUInt64).toInt64))), .second] [(.int ((2 : Int32) * (7 : Int32))), (.long (w &&& (((w).toUInt64 >>> ((7 : Int32) &&& 0x3f).toInt64.toUInt64).toInt64))), (.long (w &&& (((w).toUInt64 >>> ((7 : Int32) &&& 0x3f).toInt64.toUInt64).toInt64)))])
    rw [show ((2 : Int32) * (7 : Int32)) = (14 : Int32) from by decide]
    refine Go.lushr X1 hx (hb hby d5_38) rfl ?_
    refine Go.land X1 hx (hb hby d5_39) rfl ?_
    refine Go.lconst X1 hx (hb hby d5_40) rfl (0 : Int64) rfl ?_
    refine Go.lcmp X1 hx (hb hby d5_41) rfl ?_
    by_cases hc3 : ((w &&& (((w).toUInt64 >>> ((7 : Int32) &&& 0x3f).toInt64.toUInt64).toInt64)) &&& ((((w &&& (((w).toUInt64 >>> ((7 : Int32) &&& 0x3f).toInt64.toUInt64).toInt64))).toUInt64 >>> ((14 : Int32) &&& 0x3f).toInt64.toUInt64).toInt64)) = (0 : Int64)
    · refine Go.ifYes X1 hx (hb hby d5_42) rfl 47 ((if0 _ _).trans (teq ((lw_eq ((w &&& (((w).toUInt64 >>> ((7 : Int32) &&& 0x3f).toInt64.toUInt64).toInt64)) &&& ((((w &&& (((w).toUInt64 >>> ((7 : Int32) &&& 0x3f).toInt64.toUInt64).toInt64))).toUInt64 >>> ((14 : Int32) &&& 0x3f).toInt64.toUInt64).toInt64)) (0 : Int64)).mpr hc3)).1) (by decide) (by decide) ?_
      refine Go.iinc X1 hx (hb hby d5_47) rfl rfl #[.val (.long w), .second, .val (.ref a_DIRECTIONS), .val (.int (4 : Int32)), .val (.int ((1 : Int32) + (1 : Int32))), .val (.int (7 : Int32)), .val (.long (w &&& (((w).toUInt64 >>> ((7 : Int32) &&& 0x3f).toInt64.toUInt64).toInt64))), .second] rfl ?_
      show Go p e below _ T1 (mkF m 50 #[.val (.long w), .second, .val (.ref a_DIRECTIONS), .val (.int (4 : Int32)), .val (.int ((1 : Int32) + (1 : Int32))), .val (.int (7 : Int32)), .val (.long (w &&& (((w).toUInt64 >>> ((7 : Int32) &&& 0x3f).toInt64.toUInt64).toInt64))), .second] [])
      rw [show ((1 : Int32) + (1 : Int32)) = (2 : Int32) from by decide]
      show Go p e below _ T1 (mkF m 50 #[.val (.long w), .second, .val (.ref a_DIRECTIONS), .val (.int (4 : Int32)), .val (.int (2 : Int32)), .val (.int (7 : Int32)), .val (.long (w &&& (((w).toUInt64 >>> ((7 : Int32) &&& 0x3f).toInt64.toUInt64).toInt64))), .second] [])
      refine Go.goto X1 hx (hb hby d5_50) rfl 10 (by decide) (by decide) ?_
      refine Go.iload X1 hx (hb hby d5_10) rfl rfl  ?_
      refine Go.iloadN X1 hx (hb hby d5_12) rfl rfl  ?_
      refine Go.icmpNo X1 hx (hb hby d5_13) rfl (tlt (by decide : (2 : Int32) < (4 : Int32))).2.1 ?_
      refine Go.aloadN X1 hx (hb hby d5_16) rfl rfl rfl ?_
      refine Go.iload X1 hx (hb hby d5_17) rfl rfl  ?_
      refine Go.iaload X1 hx hZ (.int (8 : Int32)) (V_DIRECTIONS.ext O0.2) e1  ⟨by decide, by decide⟩ rfl (hb hby d5_19) rfl ?_
      refine Go.istore X1 hx (hb hby d5_20) rfl  #[.val (.long w), .second, .val (.ref a_DIRECTIONS), .val (.int (4 : Int32)), .val (.int (2 : Int32)), .val (.int (8 : Int32)), .val (.long (w &&& (((w).toUInt64 >>> ((7 : Int32) &&& 0x3f).toInt64.toUInt64).toInt64))), .second] rfl ?_
      refine Go.lloadN X1 hx (hb hby d5_22) rfl rfl  ?_
      refine Go.lloadN X1 hx (hb hby d5_23) rfl rfl  ?_
      refine Go.iload X1 hx (hb hby d5_24) rfl rfl  ?_
      refine Go.lushr X1 hx (hb hby d5_26) rfl ?_
      refine Go.land X1 hx (hb hby d5_27) rfl ?_
      refine Go.lstore X1 hx (hb hby d5_28) rfl  #[.val (.long w), .second, .val (.ref a_DIRECTIONS), .val (.int (4 : Int32)), .val (.int (2 : Int32)), .val (.int (8 : Int32)), .val (.long (w &&& (((w).toUInt64 >>> ((8 : Int32) &&& 0x3f).toInt64.toUInt64).toInt64))), .second] rfl ?_
      refine Go.lload X1 hx (hb hby d5_30) rfl rfl  ?_
      refine Go.lload X1 hx (hb hby d5_32) rfl rfl  ?_
      refine Go.iconst X1 hx (hb hby d5_34) rfl (2 : Int32) rfl ?_
      refine Go.iload X1 hx (hb hby d5_35) rfl rfl  ?_
      refine Go.imul X1 hx (hb hby d5_37) rfl ?_
      show Go p e below _ T1 (mkF m 38 #[.val (.long w), .second, .val (.ref a_DIRECTIONS), .val (.int (4 : Int32)), .val (.int (2 : Int32)), .val (.int (8 : Int32)), .val (.long (w &&& (((w).toUInt64 >>> ((8 : Int32) &&& 0x3f).toInt64.toUInt64).toInt64))), .second] [(.int ((2 : Int32) * (8 : Int32))), (.long (w &&& (((w).toUInt64 >>> ((8 : Int32) &&& 0x3f).toInt64.toUInt64).toInt64))), (.long (w &&& (((w).toUInt64 >>> ((8 : Int32) &&& 0x3f).toInt64.toUInt64).toInt64)))])
      rw [show ((2 : Int32) * (8 : Int32)) = (16 : Int32) from by decide]
      refine Go.lushr X1 hx (hb hby d5_38) rfl ?_
      refine Go.land X1 hx (hb hby d5_39) rfl ?_
      refine Go.lconst X1 hx (hb hby d5_40) rfl (0 : Int64) rfl ?_
      refine Go.lcmp X1 hx (hb hby d5_41) rfl ?_
      by_cases hc4 : ((w &&& (((w).toUInt64 >>> ((8 : Int32) &&& 0x3f).toInt64.toUInt64).toInt64)) &&& ((((w &&& (((w).toUInt64 >>> ((8 : Int32) &&& 0x3f).toInt64.toUInt64).toInt64))).toUInt64 >>> ((16 : Int32) &&& 0x3f).toInt64.toUInt64).toInt64)) = (0 : Int64)
      · refine Go.ifYes X1 hx (hb hby d5_42) rfl 47 ((if0 _ _).trans (teq ((lw_eq ((w &&& (((w).toUInt64 >>> ((8 : Int32) &&& 0x3f).toInt64.toUInt64).toInt64)) &&& ((((w &&& (((w).toUInt64 >>> ((8 : Int32) &&& 0x3f).toInt64.toUInt64).toInt64))).toUInt64 >>> ((16 : Int32) &&& 0x3f).toInt64.toUInt64).toInt64)) (0 : Int64)).mpr hc4)).1) (by decide) (by decide) ?_
        refine Go.iinc X1 hx (hb hby d5_47) rfl rfl #[.val (.long w), .second, .val (.ref a_DIRECTIONS), .val (.int (4 : Int32)), .val (.int ((2 : Int32) + (1 : Int32))), .val (.int (8 : Int32)), .val (.long (w &&& (((w).toUInt64 >>> ((8 : Int32) &&& 0x3f).toInt64.toUInt64).toInt64))), .second] rfl ?_
        show Go p e below _ T1 (mkF m 50 #[.val (.long w), .second, .val (.ref a_DIRECTIONS), .val (.int (4 : Int32)), .val (.int ((2 : Int32) + (1 : Int32))), .val (.int (8 : Int32)), .val (.long (w &&& (((w).toUInt64 >>> ((8 : Int32) &&& 0x3f).toInt64.toUInt64).toInt64))), .second] [])
        rw [show ((2 : Int32) + (1 : Int32)) = (3 : Int32) from by decide]
        show Go p e below _ T1 (mkF m 50 #[.val (.long w), .second, .val (.ref a_DIRECTIONS), .val (.int (4 : Int32)), .val (.int (3 : Int32)), .val (.int (8 : Int32)), .val (.long (w &&& (((w).toUInt64 >>> ((8 : Int32) &&& 0x3f).toInt64.toUInt64).toInt64))), .second] [])
        refine Go.goto X1 hx (hb hby d5_50) rfl 10 (by decide) (by decide) ?_
        refine Go.iload X1 hx (hb hby d5_10) rfl rfl  ?_
        refine Go.iloadN X1 hx (hb hby d5_12) rfl rfl  ?_
        refine Go.icmpNo X1 hx (hb hby d5_13) rfl (tlt (by decide : (3 : Int32) < (4 : Int32))).2.1 ?_
        refine Go.aloadN X1 hx (hb hby d5_16) rfl rfl rfl ?_
        refine Go.iload X1 hx (hb hby d5_17) rfl rfl  ?_
        refine Go.iaload X1 hx hZ (.int (6 : Int32)) (V_DIRECTIONS.ext O0.2) e1  ⟨by decide, by decide⟩ rfl (hb hby d5_19) rfl ?_
        refine Go.istore X1 hx (hb hby d5_20) rfl  #[.val (.long w), .second, .val (.ref a_DIRECTIONS), .val (.int (4 : Int32)), .val (.int (3 : Int32)), .val (.int (6 : Int32)), .val (.long (w &&& (((w).toUInt64 >>> ((8 : Int32) &&& 0x3f).toInt64.toUInt64).toInt64))), .second] rfl ?_
        refine Go.lloadN X1 hx (hb hby d5_22) rfl rfl  ?_
        refine Go.lloadN X1 hx (hb hby d5_23) rfl rfl  ?_
        refine Go.iload X1 hx (hb hby d5_24) rfl rfl  ?_
        refine Go.lushr X1 hx (hb hby d5_26) rfl ?_
        refine Go.land X1 hx (hb hby d5_27) rfl ?_
        refine Go.lstore X1 hx (hb hby d5_28) rfl  #[.val (.long w), .second, .val (.ref a_DIRECTIONS), .val (.int (4 : Int32)), .val (.int (3 : Int32)), .val (.int (6 : Int32)), .val (.long (w &&& (((w).toUInt64 >>> ((6 : Int32) &&& 0x3f).toInt64.toUInt64).toInt64))), .second] rfl ?_
        refine Go.lload X1 hx (hb hby d5_30) rfl rfl  ?_
        refine Go.lload X1 hx (hb hby d5_32) rfl rfl  ?_
        refine Go.iconst X1 hx (hb hby d5_34) rfl (2 : Int32) rfl ?_
        refine Go.iload X1 hx (hb hby d5_35) rfl rfl  ?_
        refine Go.imul X1 hx (hb hby d5_37) rfl ?_
        show Go p e below _ T1 (mkF m 38 #[.val (.long w), .second, .val (.ref a_DIRECTIONS), .val (.int (4 : Int32)), .val (.int (3 : Int32)), .val (.int (6 : Int32)), .val (.long (w &&& (((w).toUInt64 >>> ((6 : Int32) &&& 0x3f).toInt64.toUInt64).toInt64))), .second] [(.int ((2 : Int32) * (6 : Int32))), (.long (w &&& (((w).toUInt64 >>> ((6 : Int32) &&& 0x3f).toInt64.toUInt64).toInt64))), (.long (w &&& (((w).toUInt64 >>> ((6 : Int32) &&& 0x3f).toInt64.toUInt64).toInt64)))])
        rw [show ((2 : Int32) * (6 : Int32)) = (12 : Int32) from by decide]
        refine Go.lushr X1 hx (hb hby d5_38) rfl ?_
        refine Go.land X1 hx (hb hby d5_39) rfl ?_
        refine Go.lconst X1 hx (hb hby d5_40) rfl (0 : Int64) rfl ?_
        refine Go.lcmp X1 hx (hb hby d5_41) rfl ?_
        by_cases hc5 : ((w &&& (((w).toUInt64 >>> ((6 : Int32) &&& 0x3f).toInt64.toUInt64).toInt64)) &&& ((((w &&& (((w).toUInt64 >>> ((6 : Int32) &&& 0x3f).toInt64.toUInt64).toInt64))).toUInt64 >>> ((12 : Int32) &&& 0x3f).toInt64.toUInt64).toInt64)) = (0 : Int64)
        · refine Go.ifYes X1 hx (hb hby d5_42) rfl 47 ((if0 _ _).trans (teq ((lw_eq ((w &&& (((w).toUInt64 >>> ((6 : Int32) &&& 0x3f).toInt64.toUInt64).toInt64)) &&& ((((w &&& (((w).toUInt64 >>> ((6 : Int32) &&& 0x3f).toInt64.toUInt64).toInt64))).toUInt64 >>> ((12 : Int32) &&& 0x3f).toInt64.toUInt64).toInt64)) (0 : Int64)).mpr hc5)).1) (by decide) (by decide) ?_
          refine Go.iinc X1 hx (hb hby d5_47) rfl rfl #[.val (.long w), .second, .val (.ref a_DIRECTIONS), .val (.int (4 : Int32)), .val (.int ((3 : Int32) + (1 : Int32))), .val (.int (6 : Int32)), .val (.long (w &&& (((w).toUInt64 >>> ((6 : Int32) &&& 0x3f).toInt64.toUInt64).toInt64))), .second] rfl ?_
          show Go p e below _ T1 (mkF m 50 #[.val (.long w), .second, .val (.ref a_DIRECTIONS), .val (.int (4 : Int32)), .val (.int ((3 : Int32) + (1 : Int32))), .val (.int (6 : Int32)), .val (.long (w &&& (((w).toUInt64 >>> ((6 : Int32) &&& 0x3f).toInt64.toUInt64).toInt64))), .second] [])
          rw [show ((3 : Int32) + (1 : Int32)) = (4 : Int32) from by decide]
          show Go p e below _ T1 (mkF m 50 #[.val (.long w), .second, .val (.ref a_DIRECTIONS), .val (.int (4 : Int32)), .val (.int (4 : Int32)), .val (.int (6 : Int32)), .val (.long (w &&& (((w).toUInt64 >>> ((6 : Int32) &&& 0x3f).toInt64.toUInt64).toInt64))), .second] [])
          refine Go.goto X1 hx (hb hby d5_50) rfl 10 (by decide) (by decide) ?_
          refine Go.iload X1 hx (hb hby d5_10) rfl rfl  ?_
          refine Go.iloadN X1 hx (hb hby d5_12) rfl rfl  ?_
          refine Go.icmpYes X1 hx (hb hby d5_13) rfl 53 (flt (by decide : ¬ ((4 : Int32) < (4 : Int32)))).2.1 (by decide) (by decide) ?_
          refine Go.iconst X1 hx (hb hby d5_53) rfl (0 : Int32) rfl ?_
          exact Go.retZ X1 hx (z' := (0 : Int32)) hret hlk (hb hby d5_54) rfl (by decide) (by rw [e1]; exact ⟨congrArg (fun z => some (Value.int z)) (by unfold hfv; rw [if_pos hc2, if_pos hc3, if_pos hc4, if_pos hc5]), rfl, rfl⟩) (Nat.le_of_ble_eq_true rfl) (Nat.le_of_ble_eq_true rfl)
        · refine Go.ifNo X1 hx (hb hby d5_42) rfl ((if0 _ _).trans (feq (fun q => hc5 ((lw_eq ((w &&& (((w).toUInt64 >>> ((6 : Int32) &&& 0x3f).toInt64.toUInt64).toInt64)) &&& ((((w &&& (((w).toUInt64 >>> ((6 : Int32) &&& 0x3f).toInt64.toUInt64).toInt64))).toUInt64 >>> ((12 : Int32) &&& 0x3f).toInt64.toUInt64).toInt64)) (0 : Int64)).mp q))).1) ?_
          refine Go.iconst X1 hx (hb hby d5_45) rfl (1 : Int32) rfl ?_
          exact Go.retZ X1 hx (z' := (1 : Int32)) hret hlk (hb hby d5_46) rfl (by decide) (by rw [e1]; exact ⟨congrArg (fun z => some (Value.int z)) (by unfold hfv; rw [if_pos hc2, if_pos hc3, if_pos hc4, if_neg hc5]), rfl, rfl⟩) (Nat.le_of_ble_eq_true rfl) (Nat.le_of_ble_eq_true rfl)
      · refine Go.ifNo X1 hx (hb hby d5_42) rfl ((if0 _ _).trans (feq (fun q => hc4 ((lw_eq ((w &&& (((w).toUInt64 >>> ((8 : Int32) &&& 0x3f).toInt64.toUInt64).toInt64)) &&& ((((w &&& (((w).toUInt64 >>> ((8 : Int32) &&& 0x3f).toInt64.toUInt64).toInt64))).toUInt64 >>> ((16 : Int32) &&& 0x3f).toInt64.toUInt64).toInt64)) (0 : Int64)).mp q))).1) ?_
        refine Go.iconst X1 hx (hb hby d5_45) rfl (1 : Int32) rfl ?_
        exact Go.retZ X1 hx (z' := (1 : Int32)) hret hlk (hb hby d5_46) rfl (by decide) (by rw [e1]; exact ⟨congrArg (fun z => some (Value.int z)) (by unfold hfv; rw [if_pos hc2, if_pos hc3, if_neg hc4]), rfl, rfl⟩) (Nat.le_of_ble_eq_true rfl) (Nat.le_of_ble_eq_true rfl)
    · refine Go.ifNo X1 hx (hb hby d5_42) rfl ((if0 _ _).trans (feq (fun q => hc3 ((lw_eq ((w &&& (((w).toUInt64 >>> ((7 : Int32) &&& 0x3f).toInt64.toUInt64).toInt64)) &&& ((((w &&& (((w).toUInt64 >>> ((7 : Int32) &&& 0x3f).toInt64.toUInt64).toInt64))).toUInt64 >>> ((14 : Int32) &&& 0x3f).toInt64.toUInt64).toInt64)) (0 : Int64)).mp q))).1) ?_
      refine Go.iconst X1 hx (hb hby d5_45) rfl (1 : Int32) rfl ?_
      exact Go.retZ X1 hx (z' := (1 : Int32)) hret hlk (hb hby d5_46) rfl (by decide) (by rw [e1]; exact ⟨congrArg (fun z => some (Value.int z)) (by unfold hfv; rw [if_pos hc2, if_neg hc3]), rfl, rfl⟩) (Nat.le_of_ble_eq_true rfl) (Nat.le_of_ble_eq_true rfl)
  · refine Go.ifNo X1 hx (hb hby d5_42) rfl ((if0 _ _).trans (feq (fun q => hc2 ((lw_eq ((w &&& (((w).toUInt64 >>> ((1 : Int32) &&& 0x3f).toInt64.toUInt64).toInt64)) &&& ((((w &&& (((w).toUInt64 >>> ((1 : Int32) &&& 0x3f).toInt64.toUInt64).toInt64))).toUInt64 >>> ((2 : Int32) &&& 0x3f).toInt64.toUInt64).toInt64)) (0 : Int64)).mp q))).1) ?_
    refine Go.iconst X1 hx (hb hby d5_45) rfl (1 : Int32) rfl ?_
    exact Go.retZ X1 hx (z' := (1 : Int32)) hret hlk (hb hby d5_46) rfl (by decide) (by rw [e1]; exact ⟨congrArg (fun z => some (Value.int z)) (by unfold hfv; rw [if_neg hc2]), rfl, rfl⟩) (Nat.le_of_ble_eq_true rfl) (Nat.le_of_ble_eq_true rfl)
theorem d1_0 : decode method_3_code 0 = .ok (.lconst 1, 1) := by decide +kernel
theorem d1_1 : decode method_3_code 1 = .ok (.bipush 7, 2) := by decide +kernel
theorem d1_3 : decode method_3_code 3 = .ok (.iload_n 0, 1) := by decide +kernel
theorem d1_4 : decode method_3_code 4 = .ok (.imul, 1) := by decide +kernel
theorem d1_5 : decode method_3_code 5 = .ok (.iload_n 1, 1) := by decide +kernel
theorem d1_6 : decode method_3_code 6 = .ok (.iadd, 1) := by decide +kernel
theorem d1_7 : decode method_3_code 7 = .ok (.lshl, 1) := by decide +kernel
theorem d1_8 : decode method_3_code 8 = .ok (.lreturn, 1) := by decide +kernel
theorem pn_1 : plainName "com/example/afterstate/afterstate/connect4/BitboardHasFourPinLaw" = true := by first | (simp [plainName, overriddenIn]; done) | decide +kernel
theorem ef_1 (m : MethodId) (x0 : Int32) (x1 : Int32) : entryFrame m #[(.int x0), (.int x1)] 2 = mkF m 0 #[.val (.int x0), .val (.int x1)] [] := by first | (simp [entryFrame, mkF, argsToLocals, Value.category]; done) | rfl
set_option maxRecDepth 65536 in
set_option maxHeartbeats 40000000 in
theorem rmT (l : Launch) (Z : State) (a0 : Array Value) (hw : ∀ d ∈ tables_1, d.before a0 Z = true) (x y : Int32) (h0 : Heap)  : Pur l Z (⟨"com/example/afterstate/afterstate/connect4/BitboardHasFourPinLaw", "bit", "(II)J"⟩ : MethodName) method_3_code 2 (some .long) 0 0 #[(.int x), (.int y)] h0 (some (.long ((1 : Int64) <<< ((((7 : Int32) * x) + y) &&& 0x3f).toInt64))) := by
  refine Ctr.of (plainFor_of_name pn_1) ?_
  have wd : ∀ {d : Jvm.Cond} (i : Nat), tables_1[i]? = some d → d.before a0 Z = true := fun i q => hw _ (List.mem_of_getElem? q)
  intro p e s m below meth c s₁ hx hby hml hown hnm hret hlk hZ X0 e0
  refine Go.cast (ef_1 m x y) ?_
  show Go p e below _ s₁ (mkF m 0 #[.val (.int x), .val (.int y)] [])
  refine Go.lconst X0 hx (hb hby d1_0) rfl (1 : Int64) rfl ?_
  refine Go.bipush X0 hx (hb hby d1_1) rfl (7 : Int32) rfl ?_
  refine Go.iloadN X0 hx (hb hby d1_3) rfl rfl  ?_
  refine Go.imul X0 hx (hb hby d1_4) rfl ?_
  refine Go.iloadN X0 hx (hb hby d1_5) rfl rfl  ?_
  refine Go.iadd X0 hx (hb hby d1_6) rfl ?_
  refine Go.lshl X0 hx (hb hby d1_7) rfl ?_
  exact Go.retJ X0 hx hret hlk (hb hby d1_8) rfl ⟨by first | rfl | simp [], rfl, e0⟩ (Nat.le_of_ble_eq_true rfl) (Nat.le_of_ble_eq_true rfl)
theorem d3_0 : decode jdk_29_method_65_code 0 = .ok (.iload_n 0, 1) := by decide +kernel
theorem d3_1 : decode jdk_29_method_65_code 1 = .ok (.iload_n 1, 1) := by decide +kernel
theorem d3_2 : decode jdk_29_method_65_code 2 = .ok (.if_icmp .lt 7, 3) := by decide +kernel
theorem d3_5 : decode jdk_29_method_65_code 5 = .ok (.iload_n 0, 1) := by decide +kernel
theorem d3_6 : decode jdk_29_method_65_code 6 = .ok (.goto 4, 3) := by decide +kernel
theorem d3_9 : decode jdk_29_method_65_code 9 = .ok (.iload_n 1, 1) := by decide +kernel
theorem d3_10 : decode jdk_29_method_65_code 10 = .ok (.ireturn, 1) := by decide +kernel
theorem ef_3 (m : MethodId) (x0 : Int32) (x1 : Int32) : entryFrame m #[(.int x0), (.int x1)] 2 = mkF m 0 #[.val (.int x0), .val (.int x1)] [] := by first | (simp [entryFrame, mkF, argsToLocals, Value.category]; done) | rfl
set_option maxRecDepth 65536 in
set_option maxHeartbeats 40000000 in
theorem rmX (l : Launch) (Z : State) (a0 : Array Value) (hw : ∀ d ∈ tables_1, d.before a0 Z = true) (x y : Int32) (h0 : Heap)  : Pur l Z (⟨"java/lang/Math", "max", "(II)I"⟩ : MethodName) jdk_29_method_65_code 2 (some .int) 0 0 #[(.int x), (.int y)] h0 (some (.int (imax x y))) := by
  refine Ctr.of (Jvm.Free.JP.mathPlain rfl (by decide +kernel)) ?_
  have wd : ∀ {d : Jvm.Cond} (i : Nat), tables_1[i]? = some d → d.before a0 Z = true := fun i q => hw _ (List.mem_of_getElem? q)
  intro p e s m below meth c s₁ hx hby hml hown hnm hret hlk hZ X0 e0
  refine Go.cast (ef_3 m x y) ?_
  show Go p e below _ s₁ (mkF m 0 #[.val (.int x), .val (.int y)] [])
  refine Go.iloadN X0 hx (hb hby d3_0) rfl rfl  ?_
  refine Go.iloadN X0 hx (hb hby d3_1) rfl rfl  ?_
  by_cases hc1 : x < y
  · refine Go.icmpYes X0 hx (hb hby d3_2) rfl 9 (tlt hc1).1 (by decide) (by decide) ?_
    refine Go.iloadN X0 hx (hb hby d3_9) rfl rfl  ?_
    exact Go.retI X0 hx hret hlk (hb hby d3_10) rfl (by rw [e0]; exact ⟨congrArg (fun z => some (Value.int z)) (if_pos hc1).symm, rfl, rfl⟩) (Nat.le_of_ble_eq_true rfl) (Nat.le_of_ble_eq_true rfl)
  · refine Go.icmpNo X0 hx (hb hby d3_2) rfl (flt hc1).1 ?_
    refine Go.iloadN X0 hx (hb hby d3_5) rfl rfl  ?_
    refine Go.goto X0 hx (hb hby d3_6) rfl 10 (by decide) (by decide) ?_
    exact Go.retI X0 hx hret hlk (hb hby d3_10) rfl (by rw [e0]; exact ⟨congrArg (fun z => some (Value.int z)) (if_neg hc1).symm, rfl, rfl⟩) (Nat.le_of_ble_eq_true rfl) (Nat.le_of_ble_eq_true rfl)
theorem d4_0 : decode jdk_29_method_69_code 0 = .ok (.iload_n 0, 1) := by decide +kernel
theorem d4_1 : decode jdk_29_method_69_code 1 = .ok (.iload_n 1, 1) := by decide +kernel
theorem d4_2 : decode jdk_29_method_69_code 2 = .ok (.if_icmp .gt 7, 3) := by decide +kernel
theorem d4_5 : decode jdk_29_method_69_code 5 = .ok (.iload_n 0, 1) := by decide +kernel
theorem d4_6 : decode jdk_29_method_69_code 6 = .ok (.goto 4, 3) := by decide +kernel
theorem d4_9 : decode jdk_29_method_69_code 9 = .ok (.iload_n 1, 1) := by decide +kernel
theorem d4_10 : decode jdk_29_method_69_code 10 = .ok (.ireturn, 1) := by decide +kernel
theorem ef_4 (m : MethodId) (x0 : Int32) (x1 : Int32) : entryFrame m #[(.int x0), (.int x1)] 2 = mkF m 0 #[.val (.int x0), .val (.int x1)] [] := by first | (simp [entryFrame, mkF, argsToLocals, Value.category]; done) | rfl
set_option maxRecDepth 65536 in
set_option maxHeartbeats 40000000 in
theorem rmN (l : Launch) (Z : State) (a0 : Array Value) (hw : ∀ d ∈ tables_1, d.before a0 Z = true) (x y : Int32) (h0 : Heap)  : Pur l Z (⟨"java/lang/Math", "min", "(II)I"⟩ : MethodName) jdk_29_method_69_code 2 (some .int) 0 0 #[(.int x), (.int y)] h0 (some (.int (imin x y))) := by
  refine Ctr.of (Jvm.Free.JP.mathPlain rfl (by decide +kernel)) ?_
  have wd : ∀ {d : Jvm.Cond} (i : Nat), tables_1[i]? = some d → d.before a0 Z = true := fun i q => hw _ (List.mem_of_getElem? q)
  intro p e s m below meth c s₁ hx hby hml hown hnm hret hlk hZ X0 e0
  refine Go.cast (ef_4 m x y) ?_
  show Go p e below _ s₁ (mkF m 0 #[.val (.int x), .val (.int y)] [])
  refine Go.iloadN X0 hx (hb hby d4_0) rfl rfl  ?_
  refine Go.iloadN X0 hx (hb hby d4_1) rfl rfl  ?_
  by_cases hc1 : y < x
  · refine Go.icmpYes X0 hx (hb hby d4_2) rfl 9 (tlt hc1).2.2.1 (by decide) (by decide) ?_
    refine Go.iloadN X0 hx (hb hby d4_9) rfl rfl  ?_
    exact Go.retI X0 hx hret hlk (hb hby d4_10) rfl (by rw [e0]; exact ⟨congrArg (fun z => some (Value.int z)) (if_pos hc1).symm, rfl, rfl⟩) (Nat.le_of_ble_eq_true rfl) (Nat.le_of_ble_eq_true rfl)
  · refine Go.icmpNo X0 hx (hb hby d4_2) rfl (flt hc1).2.2.1 ?_
    refine Go.iloadN X0 hx (hb hby d4_5) rfl rfl  ?_
    refine Go.goto X0 hx (hb hby d4_6) rfl 10 (by decide) (by decide) ?_
    exact Go.retI X0 hx hret hlk (hb hby d4_10) rfl (by rw [e0]; exact ⟨congrArg (fun z => some (Value.int z)) (if_neg hc1).symm, rfl, rfl⟩) (Nat.le_of_ble_eq_true rfl) (Nat.le_of_ble_eq_true rfl)
theorem d2_0 : decode method_4_code 0 = .ok (.iload_n 0, 1) := by decide +kernel
theorem d2_1 : decode method_4_code 1 = .ok (.iload_n 2, 1) := by decide +kernel
theorem d2_2 : decode method_4_code 2 = .ok (.if_icmp .eq 38, 3) := by decide +kernel
theorem d2_5 : decode method_4_code 5 = .ok (.iload_n 0, 1) := by decide +kernel
theorem d2_6 : decode method_4_code 6 = .ok (.iload 4, 2) := by decide +kernel
theorem d2_8 : decode method_4_code 8 = .ok (.if_icmp .eq 32, 3) := by decide +kernel
theorem d2_11 : decode method_4_code 11 = .ok (.iload_n 0, 1) := by decide +kernel
theorem d2_12 : decode method_4_code 12 = .ok (.iload 6, 2) := by decide +kernel
theorem d2_14 : decode method_4_code 14 = .ok (.if_icmp .eq 26, 3) := by decide +kernel
theorem d2_17 : decode method_4_code 17 = .ok (.iload_n 2, 1) := by decide +kernel
theorem d2_18 : decode method_4_code 18 = .ok (.iload 4, 2) := by decide +kernel
theorem d2_20 : decode method_4_code 20 = .ok (.if_icmp .eq 20, 3) := by decide +kernel
theorem d2_23 : decode method_4_code 23 = .ok (.iload_n 2, 1) := by decide +kernel
theorem d2_24 : decode method_4_code 24 = .ok (.iload 6, 2) := by decide +kernel
theorem d2_26 : decode method_4_code 26 = .ok (.if_icmp .eq 14, 3) := by decide +kernel
theorem d2_29 : decode method_4_code 29 = .ok (.iload 4, 2) := by decide +kernel
theorem d2_31 : decode method_4_code 31 = .ok (.iload 6, 2) := by decide +kernel
theorem d2_33 : decode method_4_code 33 = .ok (.if_icmp .eq 7, 3) := by decide +kernel
theorem d2_36 : decode method_4_code 36 = .ok (.iconst 1, 1) := by decide +kernel
theorem d2_37 : decode method_4_code 37 = .ok (.goto 4, 3) := by decide +kernel
theorem d2_40 : decode method_4_code 40 = .ok (.iconst 0, 1) := by decide +kernel
theorem d2_41 : decode method_4_code 41 = .ok (.istore 8, 2) := by decide +kernel
theorem d2_43 : decode method_4_code 43 = .ok (.iload_n 1, 1) := by decide +kernel
theorem d2_44 : decode method_4_code 44 = .ok (.iload_n 3, 1) := by decide +kernel
theorem d2_45 : decode method_4_code 45 = .ok (.if_icmp .eq 38, 3) := by decide +kernel
theorem d2_48 : decode method_4_code 48 = .ok (.iload_n 1, 1) := by decide +kernel
theorem d2_49 : decode method_4_code 49 = .ok (.iload 5, 2) := by decide +kernel
theorem d2_51 : decode method_4_code 51 = .ok (.if_icmp .eq 32, 3) := by decide +kernel
theorem d2_54 : decode method_4_code 54 = .ok (.iload_n 1, 1) := by decide +kernel
theorem d2_55 : decode method_4_code 55 = .ok (.iload 7, 2) := by decide +kernel
theorem d2_57 : decode method_4_code 57 = .ok (.if_icmp .eq 26, 3) := by decide +kernel
theorem d2_60 : decode method_4_code 60 = .ok (.iload_n 3, 1) := by decide +kernel
theorem d2_61 : decode method_4_code 61 = .ok (.iload 5, 2) := by decide +kernel
theorem d2_63 : decode method_4_code 63 = .ok (.if_icmp .eq 20, 3) := by decide +kernel
theorem d2_66 : decode method_4_code 66 = .ok (.iload_n 3, 1) := by decide +kernel
theorem d2_67 : decode method_4_code 67 = .ok (.iload 7, 2) := by decide +kernel
theorem d2_69 : decode method_4_code 69 = .ok (.if_icmp .eq 14, 3) := by decide +kernel
theorem d2_72 : decode method_4_code 72 = .ok (.iload 5, 2) := by decide +kernel
theorem d2_74 : decode method_4_code 74 = .ok (.iload 7, 2) := by decide +kernel
theorem d2_76 : decode method_4_code 76 = .ok (.if_icmp .eq 7, 3) := by decide +kernel
theorem d2_79 : decode method_4_code 79 = .ok (.iconst 1, 1) := by decide +kernel
theorem d2_80 : decode method_4_code 80 = .ok (.goto 4, 3) := by decide +kernel
theorem d2_83 : decode method_4_code 83 = .ok (.iconst 0, 1) := by decide +kernel
theorem d2_84 : decode method_4_code 84 = .ok (.istore 9, 2) := by decide +kernel
theorem d2_86 : decode method_4_code 86 = .ok (.iload_n 0, 1) := by decide +kernel
theorem d2_87 : decode method_4_code 87 = .ok (.iload_n 2, 1) := by decide +kernel
theorem d2_88 : decode method_4_code 88 = .ok (.invokestatic 28, 3) := by decide +kernel
theorem d2_91 : decode method_4_code 91 = .ok (.iload 4, 2) := by decide +kernel
theorem d2_93 : decode method_4_code 93 = .ok (.iload 6, 2) := by decide +kernel
theorem d2_95 : decode method_4_code 95 = .ok (.invokestatic 28, 3) := by decide +kernel
theorem d2_98 : decode method_4_code 98 = .ok (.invokestatic 28, 3) := by decide +kernel
theorem d2_101 : decode method_4_code 101 = .ok (.iload_n 0, 1) := by decide +kernel
theorem d2_102 : decode method_4_code 102 = .ok (.iload_n 2, 1) := by decide +kernel
theorem d2_103 : decode method_4_code 103 = .ok (.invokestatic 34, 3) := by decide +kernel
theorem d2_106 : decode method_4_code 106 = .ok (.iload 4, 2) := by decide +kernel
theorem d2_108 : decode method_4_code 108 = .ok (.iload 6, 2) := by decide +kernel
theorem d2_110 : decode method_4_code 110 = .ok (.invokestatic 34, 3) := by decide +kernel
theorem d2_113 : decode method_4_code 113 = .ok (.invokestatic 34, 3) := by decide +kernel
theorem d2_116 : decode method_4_code 116 = .ok (.isub, 1) := by decide +kernel
theorem d2_117 : decode method_4_code 117 = .ok (.istore 10, 2) := by decide +kernel
theorem d2_119 : decode method_4_code 119 = .ok (.iload_n 1, 1) := by decide +kernel
theorem d2_120 : decode method_4_code 120 = .ok (.iload_n 3, 1) := by decide +kernel
theorem d2_121 : decode method_4_code 121 = .ok (.invokestatic 28, 3) := by decide +kernel
theorem d2_124 : decode method_4_code 124 = .ok (.iload 5, 2) := by decide +kernel
theorem d2_126 : decode method_4_code 126 = .ok (.iload 7, 2) := by decide +kernel
theorem d2_128 : decode method_4_code 128 = .ok (.invokestatic 28, 3) := by decide +kernel
theorem d2_131 : decode method_4_code 131 = .ok (.invokestatic 28, 3) := by decide +kernel
theorem d2_134 : decode method_4_code 134 = .ok (.iload_n 1, 1) := by decide +kernel
theorem d2_135 : decode method_4_code 135 = .ok (.iload_n 3, 1) := by decide +kernel
theorem d2_136 : decode method_4_code 136 = .ok (.invokestatic 34, 3) := by decide +kernel
theorem d2_139 : decode method_4_code 139 = .ok (.iload 5, 2) := by decide +kernel
theorem d2_141 : decode method_4_code 141 = .ok (.iload 7, 2) := by decide +kernel
theorem d2_143 : decode method_4_code 143 = .ok (.invokestatic 34, 3) := by decide +kernel
theorem d2_146 : decode method_4_code 146 = .ok (.invokestatic 34, 3) := by decide +kernel
theorem d2_149 : decode method_4_code 149 = .ok (.isub, 1) := by decide +kernel
theorem d2_150 : decode method_4_code 150 = .ok (.istore 11, 2) := by decide +kernel
theorem d2_152 : decode method_4_code 152 = .ok (.iload_n 1, 1) := by decide +kernel
theorem d2_153 : decode method_4_code 153 = .ok (.iload_n 3, 1) := by decide +kernel
theorem d2_154 : decode method_4_code 154 = .ok (.if_icmp .ne 31, 3) := by decide +kernel
theorem d2_157 : decode method_4_code 157 = .ok (.iload_n 3, 1) := by decide +kernel
theorem d2_158 : decode method_4_code 158 = .ok (.iload 5, 2) := by decide +kernel
theorem d2_160 : decode method_4_code 160 = .ok (.if_icmp .ne 25, 3) := by decide +kernel
theorem d2_163 : decode method_4_code 163 = .ok (.iload 5, 2) := by decide +kernel
theorem d2_165 : decode method_4_code 165 = .ok (.iload 7, 2) := by decide +kernel
theorem d2_167 : decode method_4_code 167 = .ok (.if_icmp .ne 18, 3) := by decide +kernel
theorem d2_170 : decode method_4_code 170 = .ok (.iload 8, 2) := by decide +kernel
theorem d2_172 : decode method_4_code 172 = .ok (.ifCond .eq 13, 3) := by decide +kernel
theorem d2_175 : decode method_4_code 175 = .ok (.iload 10, 2) := by decide +kernel
theorem d2_177 : decode method_4_code 177 = .ok (.iconst 3, 1) := by decide +kernel
theorem d2_178 : decode method_4_code 178 = .ok (.if_icmp .ne 7, 3) := by decide +kernel
theorem d2_181 : decode method_4_code 181 = .ok (.iconst 1, 1) := by decide +kernel
theorem d2_182 : decode method_4_code 182 = .ok (.goto 4, 3) := by decide +kernel
theorem d2_185 : decode method_4_code 185 = .ok (.iconst 0, 1) := by decide +kernel
theorem d2_186 : decode method_4_code 186 = .ok (.istore 12, 2) := by decide +kernel
theorem d2_188 : decode method_4_code 188 = .ok (.iload_n 0, 1) := by decide +kernel
theorem d2_189 : decode method_4_code 189 = .ok (.iload_n 2, 1) := by decide +kernel
theorem d2_190 : decode method_4_code 190 = .ok (.if_icmp .ne 31, 3) := by decide +kernel
theorem d2_193 : decode method_4_code 193 = .ok (.iload_n 2, 1) := by decide +kernel
theorem d2_194 : decode method_4_code 194 = .ok (.iload 4, 2) := by decide +kernel
theorem d2_196 : decode method_4_code 196 = .ok (.if_icmp .ne 25, 3) := by decide +kernel
theorem d2_199 : decode method_4_code 199 = .ok (.iload 4, 2) := by decide +kernel
theorem d2_201 : decode method_4_code 201 = .ok (.iload 6, 2) := by decide +kernel
theorem d2_203 : decode method_4_code 203 = .ok (.if_icmp .ne 18, 3) := by decide +kernel
theorem d2_206 : decode method_4_code 206 = .ok (.iload 9, 2) := by decide +kernel
theorem d2_208 : decode method_4_code 208 = .ok (.ifCond .eq 13, 3) := by decide +kernel
theorem d2_211 : decode method_4_code 211 = .ok (.iload 11, 2) := by decide +kernel
theorem d2_213 : decode method_4_code 213 = .ok (.iconst 3, 1) := by decide +kernel
theorem d2_214 : decode method_4_code 214 = .ok (.if_icmp .ne 7, 3) := by decide +kernel
theorem d2_217 : decode method_4_code 217 = .ok (.iconst 1, 1) := by decide +kernel
theorem d2_218 : decode method_4_code 218 = .ok (.goto 4, 3) := by decide +kernel
theorem d2_221 : decode method_4_code 221 = .ok (.iconst 0, 1) := by decide +kernel
theorem d2_222 : decode method_4_code 222 = .ok (.istore 13, 2) := by decide +kernel
theorem d2_224 : decode method_4_code 224 = .ok (.iload_n 0, 1) := by decide +kernel
theorem d2_225 : decode method_4_code 225 = .ok (.iload_n 1, 1) := by decide +kernel
theorem d2_226 : decode method_4_code 226 = .ok (.isub, 1) := by decide +kernel
theorem d2_227 : decode method_4_code 227 = .ok (.iload_n 2, 1) := by decide +kernel
theorem d2_228 : decode method_4_code 228 = .ok (.iload_n 3, 1) := by decide +kernel
theorem d2_229 : decode method_4_code 229 = .ok (.isub, 1) := by decide +kernel
theorem d2_230 : decode method_4_code 230 = .ok (.if_icmp .ne 42, 3) := by decide +kernel
theorem d2_233 : decode method_4_code 233 = .ok (.iload_n 2, 1) := by decide +kernel
theorem d2_234 : decode method_4_code 234 = .ok (.iload_n 3, 1) := by decide +kernel
theorem d2_235 : decode method_4_code 235 = .ok (.isub, 1) := by decide +kernel
theorem d2_236 : decode method_4_code 236 = .ok (.iload 4, 2) := by decide +kernel
theorem d2_238 : decode method_4_code 238 = .ok (.iload 5, 2) := by decide +kernel
theorem d2_240 : decode method_4_code 240 = .ok (.isub, 1) := by decide +kernel
theorem d2_241 : decode method_4_code 241 = .ok (.if_icmp .ne 31, 3) := by decide +kernel
theorem d2_244 : decode method_4_code 244 = .ok (.iload 4, 2) := by decide +kernel
theorem d2_246 : decode method_4_code 246 = .ok (.iload 5, 2) := by decide +kernel
theorem d2_248 : decode method_4_code 248 = .ok (.isub, 1) := by decide +kernel
theorem d2_249 : decode method_4_code 249 = .ok (.iload 6, 2) := by decide +kernel
theorem d2_251 : decode method_4_code 251 = .ok (.iload 7, 2) := by decide +kernel
theorem d2_253 : decode method_4_code 253 = .ok (.isub, 1) := by decide +kernel
theorem d2_254 : decode method_4_code 254 = .ok (.if_icmp .ne 18, 3) := by decide +kernel
theorem d2_257 : decode method_4_code 257 = .ok (.iload 8, 2) := by decide +kernel
theorem d2_259 : decode method_4_code 259 = .ok (.ifCond .eq 13, 3) := by decide +kernel
theorem d2_262 : decode method_4_code 262 = .ok (.iload 10, 2) := by decide +kernel
theorem d2_264 : decode method_4_code 264 = .ok (.iconst 3, 1) := by decide +kernel
theorem d2_265 : decode method_4_code 265 = .ok (.if_icmp .ne 7, 3) := by decide +kernel
theorem d2_268 : decode method_4_code 268 = .ok (.iconst 1, 1) := by decide +kernel
theorem d2_269 : decode method_4_code 269 = .ok (.goto 4, 3) := by decide +kernel
theorem d2_272 : decode method_4_code 272 = .ok (.iconst 0, 1) := by decide +kernel
theorem d2_273 : decode method_4_code 273 = .ok (.istore 14, 2) := by decide +kernel
theorem d2_275 : decode method_4_code 275 = .ok (.iload_n 0, 1) := by decide +kernel
theorem d2_276 : decode method_4_code 276 = .ok (.iload_n 1, 1) := by decide +kernel
theorem d2_277 : decode method_4_code 277 = .ok (.iadd, 1) := by decide +kernel
theorem d2_278 : decode method_4_code 278 = .ok (.iload_n 2, 1) := by decide +kernel
theorem d2_279 : decode method_4_code 279 = .ok (.iload_n 3, 1) := by decide +kernel
theorem d2_280 : decode method_4_code 280 = .ok (.iadd, 1) := by decide +kernel
theorem d2_281 : decode method_4_code 281 = .ok (.if_icmp .ne 42, 3) := by decide +kernel
theorem d2_284 : decode method_4_code 284 = .ok (.iload_n 2, 1) := by decide +kernel
theorem d2_285 : decode method_4_code 285 = .ok (.iload_n 3, 1) := by decide +kernel
theorem d2_286 : decode method_4_code 286 = .ok (.iadd, 1) := by decide +kernel
theorem d2_287 : decode method_4_code 287 = .ok (.iload 4, 2) := by decide +kernel
theorem d2_289 : decode method_4_code 289 = .ok (.iload 5, 2) := by decide +kernel
theorem d2_291 : decode method_4_code 291 = .ok (.iadd, 1) := by decide +kernel
theorem d2_292 : decode method_4_code 292 = .ok (.if_icmp .ne 31, 3) := by decide +kernel
theorem d2_295 : decode method_4_code 295 = .ok (.iload 4, 2) := by decide +kernel
theorem d2_297 : decode method_4_code 297 = .ok (.iload 5, 2) := by decide +kernel
theorem d2_299 : decode method_4_code 299 = .ok (.iadd, 1) := by decide +kernel
theorem d2_300 : decode method_4_code 300 = .ok (.iload 6, 2) := by decide +kernel
theorem d2_302 : decode method_4_code 302 = .ok (.iload 7, 2) := by decide +kernel
theorem d2_304 : decode method_4_code 304 = .ok (.iadd, 1) := by decide +kernel
theorem d2_305 : decode method_4_code 305 = .ok (.if_icmp .ne 18, 3) := by decide +kernel
theorem d2_308 : decode method_4_code 308 = .ok (.iload 8, 2) := by decide +kernel
theorem d2_310 : decode method_4_code 310 = .ok (.ifCond .eq 13, 3) := by decide +kernel
theorem d2_313 : decode method_4_code 313 = .ok (.iload 10, 2) := by decide +kernel
theorem d2_315 : decode method_4_code 315 = .ok (.iconst 3, 1) := by decide +kernel
theorem d2_316 : decode method_4_code 316 = .ok (.if_icmp .ne 7, 3) := by decide +kernel
theorem d2_319 : decode method_4_code 319 = .ok (.iconst 1, 1) := by decide +kernel
theorem d2_320 : decode method_4_code 320 = .ok (.goto 4, 3) := by decide +kernel
theorem d2_323 : decode method_4_code 323 = .ok (.iconst 0, 1) := by decide +kernel
theorem d2_324 : decode method_4_code 324 = .ok (.istore 15, 2) := by decide +kernel
theorem d2_326 : decode method_4_code 326 = .ok (.iload 12, 2) := by decide +kernel
theorem d2_328 : decode method_4_code 328 = .ok (.ifCond .ne 18, 3) := by decide +kernel
theorem d2_331 : decode method_4_code 331 = .ok (.iload 13, 2) := by decide +kernel
theorem d2_333 : decode method_4_code 333 = .ok (.ifCond .ne 13, 3) := by decide +kernel
theorem d2_336 : decode method_4_code 336 = .ok (.iload 14, 2) := by decide +kernel
theorem d2_338 : decode method_4_code 338 = .ok (.ifCond .ne 8, 3) := by decide +kernel
theorem d2_341 : decode method_4_code 341 = .ok (.iload 15, 2) := by decide +kernel
theorem d2_343 : decode method_4_code 343 = .ok (.ifCond .eq 7, 3) := by decide +kernel
theorem d2_346 : decode method_4_code 346 = .ok (.iconst 1, 1) := by decide +kernel
theorem d2_347 : decode method_4_code 347 = .ok (.goto 4, 3) := by decide +kernel
theorem d2_350 : decode method_4_code 350 = .ok (.iconst 0, 1) := by decide +kernel
theorem d2_351 : decode method_4_code 351 = .ok (.ireturn, 1) := by decide +kernel
theorem ef_2 (m : MethodId) (x0 : Int32) (x1 : Int32) (x2 : Int32) (x3 : Int32) (x4 : Int32) (x5 : Int32) (x6 : Int32) (x7 : Int32) : entryFrame m #[(.int x0), (.int x1), (.int x2), (.int x3), (.int x4), (.int x5), (.int x6), (.int x7)] 16 = mkF m 0 #[.val (.int x0), .val (.int x1), .val (.int x2), .val (.int x3), .val (.int x4), .val (.int x5), .val (.int x6), .val (.int x7), .unset, .unset, .unset, .unset, .unset, .unset, .unset, .unset] [] := by first | (simp [entryFrame, mkF, argsToLocals, Value.category]; done) | rfl
set_option maxRecDepth 65536 in
set_option maxHeartbeats 40000000 in
theorem rmI_d {p : Program} {l : Launch} {e : Env} {s : State} {m : MethodId} {below : List Frame} {meth : Method} {c : Code} {Z : State} {a0 : Array Value} (hw : ∀ d ∈ tables_1, d.before a0 Z = true) (hx : p.tables.exec = Jvm.exec) (hby : c.code = method_4_code) (hml : c.maxLocals = 16) (hown : s.vm.findClass "com/example/afterstate/afterstate/connect4/BitboardHasFourPinLaw" = some m.cls) (hZ : Z.Warmed39 s.vm) (hret : meth.sig.returnType = some .boolean) (hlk : meth.locks = false) (c0 r0 c1 r1 c2 r2 c3 r3 : Int32) (h0 : Heap) (s₁ : State) (X0 : Stand p l e ({ frames := 1, cells := 0, slots := 0, locals := 15 } : Room) s m #[(.int c0), (.int r0), (.int c1), (.int r1), (.int c2), (.int r2), (.int c3), (.int r3)] below meth c s₁ [] 0 0) (e0 : s₁.heap = h0) : Go p e below (OwnEnd (fun v h' L => v = some (.int (isl c0 r0 c1 r1 c2 r2 c3 r3)) ∧ L = [] ∧ h' = h0) s 0 0) s₁ (mkF m 275 #[.val (.int c0), .val (.int r0), .val (.int c1), .val (.int r1), .val (.int c2), .val (.int r2), .val (.int c3), .val (.int r3), .val (.int (dst c0 c1 c2 c3)), .val (.int (dst r0 r1 r2 r3)), .val (.int (spn c0 c1 c2 c3)), .val (.int (spn r0 r1 r2 r3)), .val (.int (lin r0 r1 r2 r3 (dst c0 c1 c2 c3) (spn c0 c1 c2 c3))), .val (.int (lin c0 c1 c2 c3 (dst r0 r1 r2 r3) (spn r0 r1 r2 r3))), .val (.int (lin (c0 - r0) (c1 - r1) (c2 - r2) (c3 - r3) (dst c0 c1 c2 c3) (spn c0 c1 c2 c3))), .unset] []) := by
  have wd : ∀ {d : Jvm.Cond} (i : Nat), tables_1[i]? = some d → d.before a0 Z = true := fun i q => hw _ (List.mem_of_getElem? q)
  refine Go.joinI X0 e0 ((lin (c0 + r0) (c1 + r1) (c2 + r2) (c3 + r3) (dst c0 c1 c2 c3) (spn c0 c1 c2 c3))) (fun z => mkF m 324 #[.val (.int c0), .val (.int r0), .val (.int c1), .val (.int r1), .val (.int c2), .val (.int r2), .val (.int c3), .val (.int r3), .val (.int (dst c0 c1 c2 c3)), .val (.int (dst r0 r1 r2 r3)), .val (.int (spn c0 c1 c2 c3)), .val (.int (spn r0 r1 r2 r3)), .val (.int (lin r0 r1 r2 r3 (dst c0 c1 c2 c3) (spn c0 c1 c2 c3))), .val (.int (lin c0 c1 c2 c3 (dst r0 r1 r2 r3) (spn r0 r1 r2 r3))), .val (.int (lin (c0 - r0) (c1 - r1) (c2 - r2) (c3 - r3) (dst c0 c1 c2 c3) (spn c0 c1 c2 c3))), .unset] [(.int z)]) ?_ ?_
  · intro J1
    show Go p e below _ s₁ (mkF m 275 #[.val (.int c0), .val (.int r0), .val (.int c1), .val (.int r1), .val (.int c2), .val (.int r2), .val (.int c3), .val (.int r3), .val (.int (dst c0 c1 c2 c3)), .val (.int (dst r0 r1 r2 r3)), .val (.int (spn c0 c1 c2 c3)), .val (.int (spn r0 r1 r2 r3)), .val (.int (lin r0 r1 r2 r3 (dst c0 c1 c2 c3) (spn c0 c1 c2 c3))), .val (.int (lin c0 c1 c2 c3 (dst r0 r1 r2 r3) (spn r0 r1 r2 r3))), .val (.int (lin (c0 - r0) (c1 - r1) (c2 - r2) (c3 - r3) (dst c0 c1 c2 c3) (spn c0 c1 c2 c3))), .unset] [])
    refine Go.iloadN X0 hx (hb hby d2_275) rfl rfl  ?_
    refine Go.iloadN X0 hx (hb hby d2_276) rfl rfl  ?_
    refine Go.iadd X0 hx (hb hby d2_277) rfl ?_
    refine Go.iloadN X0 hx (hb hby d2_278) rfl rfl  ?_
    refine Go.iloadN X0 hx (hb hby d2_279) rfl rfl  ?_
    refine Go.iadd X0 hx (hb hby d2_280) rfl ?_
    by_cases hc2 : (c0 + r0) = (c1 + r1)
    · refine Go.icmpNo X0 hx (hb hby d2_281) rfl (teq hc2).2 ?_
      refine Go.iloadN X0 hx (hb hby d2_284) rfl rfl  ?_
      refine Go.iloadN X0 hx (hb hby d2_285) rfl rfl  ?_
      refine Go.iadd X0 hx (hb hby d2_286) rfl ?_
      refine Go.iload X0 hx (hb hby d2_287) rfl rfl  ?_
      refine Go.iload X0 hx (hb hby d2_289) rfl rfl  ?_
      refine Go.iadd X0 hx (hb hby d2_291) rfl ?_
      by_cases hc3 : (c1 + r1) = (c2 + r2)
      · refine Go.icmpNo X0 hx (hb hby d2_292) rfl (teq hc3).2 ?_
        refine Go.iload X0 hx (hb hby d2_295) rfl rfl  ?_
        refine Go.iload X0 hx (hb hby d2_297) rfl rfl  ?_
        refine Go.iadd X0 hx (hb hby d2_299) rfl ?_
        refine Go.iload X0 hx (hb hby d2_300) rfl rfl  ?_
        refine Go.iload X0 hx (hb hby d2_302) rfl rfl  ?_
        refine Go.iadd X0 hx (hb hby d2_304) rfl ?_
        by_cases hc4 : (c2 + r2) = (c3 + r3)
        · refine Go.icmpNo X0 hx (hb hby d2_305) rfl (teq hc4).2 ?_
          refine Go.iload X0 hx (hb hby d2_308) rfl rfl  ?_
          by_cases hc5 : (dst c0 c1 c2 c3) = (0 : Int32)
          · refine Go.ifYes X0 hx (hb hby d2_310) rfl 323 ((if0 _ _).trans (teq hc5).1) (by decide) (by decide) ?_
            refine Go.iconst X0 hx (hb hby d2_323) rfl (0 : Int32) rfl ?_
            exact J1 _ (0 : Int32) (if_neg fun q => q.2.2.2.1 hc5).symm X0 e0
          · refine Go.ifNo X0 hx (hb hby d2_310) rfl ((if0 _ _).trans (feq hc5).1) ?_
            refine Go.iload X0 hx (hb hby d2_313) rfl rfl  ?_
            refine Go.iconst X0 hx (hb hby d2_315) rfl (3 : Int32) rfl ?_
            by_cases hc6 : (spn c0 c1 c2 c3) = (3 : Int32)
            · refine Go.icmpNo X0 hx (hb hby d2_316) rfl (teq hc6).2 ?_
              refine Go.iconst X0 hx (hb hby d2_319) rfl (1 : Int32) rfl ?_
              refine Go.goto X0 hx (hb hby d2_320) rfl 324 (by decide) (by decide) ?_
              exact J1 _ (1 : Int32) (if_pos ⟨hc2, hc3, hc4, hc5, hc6⟩).symm X0 e0
            · refine Go.icmpYes X0 hx (hb hby d2_316) rfl 323 (feq hc6).2 (by decide) (by decide) ?_
              refine Go.iconst X0 hx (hb hby d2_323) rfl (0 : Int32) rfl ?_
              exact J1 _ (0 : Int32) (if_neg fun q => hc6 q.2.2.2.2).symm X0 e0
        · refine Go.icmpYes X0 hx (hb hby d2_305) rfl 323 (feq hc4).2 (by decide) (by decide) ?_
          refine Go.iconst X0 hx (hb hby d2_323) rfl (0 : Int32) rfl ?_
          exact J1 _ (0 : Int32) (if_neg fun q => hc4 q.2.2.1).symm X0 e0
      · refine Go.icmpYes X0 hx (hb hby d2_292) rfl 323 (feq hc3).2 (by decide) (by decide) ?_
        refine Go.iconst X0 hx (hb hby d2_323) rfl (0 : Int32) rfl ?_
        exact J1 _ (0 : Int32) (if_neg fun q => hc3 q.2.1).symm X0 e0
    · refine Go.icmpYes X0 hx (hb hby d2_281) rfl 323 (feq hc2).2 (by decide) (by decide) ?_
      refine Go.iconst X0 hx (hb hby d2_323) rfl (0 : Int32) rfl ?_
      exact J1 _ (0 : Int32) (if_neg fun q => hc2 q.1).symm X0 e0
  intro T7 X7 e7
  show Go p e below _ T7 (mkF m 324 #[.val (.int c0), .val (.int r0), .val (.int c1), .val (.int r1), .val (.int c2), .val (.int r2), .val (.int c3), .val (.int r3), .val (.int (dst c0 c1 c2 c3)), .val (.int (dst r0 r1 r2 r3)), .val (.int (spn c0 c1 c2 c3)), .val (.int (spn r0 r1 r2 r3)), .val (.int (lin r0 r1 r2 r3 (dst c0 c1 c2 c3) (spn c0 c1 c2 c3))), .val (.int (lin c0 c1 c2 c3 (dst r0 r1 r2 r3) (spn r0 r1 r2 r3))), .val (.int (lin (c0 - r0) (c1 - r1) (c2 - r2) (c3 - r3) (dst c0 c1 c2 c3) (spn c0 c1 c2 c3))), .unset] [(.int (lin (c0 + r0) (c1 + r1) (c2 + r2) (c3 + r3) (dst c0 c1 c2 c3) (spn c0 c1 c2 c3)))])
  refine Go.istore X7 hx (hb hby d2_324) rfl  #[.val (.int c0), .val (.int r0), .val (.int c1), .val (.int r1), .val (.int c2), .val (.int r2), .val (.int c3), .val (.int r3), .val (.int (dst c0 c1 c2 c3)), .val (.int (dst r0 r1 r2 r3)), .val (.int (spn c0 c1 c2 c3)), .val (.int (spn r0 r1 r2 r3)), .val (.int (lin r0 r1 r2 r3 (dst c0 c1 c2 c3) (spn c0 c1 c2 c3))), .val (.int (lin c0 c1 c2 c3 (dst r0 r1 r2 r3) (spn r0 r1 r2 r3))), .val (.int (lin (c0 - r0) (c1 - r1) (c2 - r2) (c3 - r3) (dst c0 c1 c2 c3) (spn c0 c1 c2 c3))), .val (.int (lin (c0 + r0) (c1 + r1) (c2 + r2) (c3 + r3) (dst c0 c1 c2 c3) (spn c0 c1 c2 c3)))] rfl ?_
  refine Go.iload X7 hx (hb hby d2_326) rfl rfl  ?_
  by_cases hc8 : (lin r0 r1 r2 r3 (dst c0 c1 c2 c3) (spn c0 c1 c2 c3)) = (0 : Int32)
  · refine Go.ifNo X7 hx (hb hby d2_328) rfl ((if0 _ _).trans (teq hc8).2) ?_
    refine Go.iload X7 hx (hb hby d2_331) rfl rfl  ?_
    by_cases hc9 : (lin c0 c1 c2 c3 (dst r0 r1 r2 r3) (spn r0 r1 r2 r3)) = (0 : Int32)
    · refine Go.ifNo X7 hx (hb hby d2_333) rfl ((if0 _ _).trans (teq hc9).2) ?_
      refine Go.iload X7 hx (hb hby d2_336) rfl rfl  ?_
      by_cases hc10 : (lin (c0 - r0) (c1 - r1) (c2 - r2) (c3 - r3) (dst c0 c1 c2 c3) (spn c0 c1 c2 c3)) = (0 : Int32)
      · refine Go.ifNo X7 hx (hb hby d2_338) rfl ((if0 _ _).trans (teq hc10).2) ?_
        refine Go.iload X7 hx (hb hby d2_341) rfl rfl  ?_
        by_cases hc11 : (lin (c0 + r0) (c1 + r1) (c2 + r2) (c3 + r3) (dst c0 c1 c2 c3) (spn c0 c1 c2 c3)) = (0 : Int32)
        · refine Go.ifYes X7 hx (hb hby d2_343) rfl 350 ((if0 _ _).trans (teq hc11).1) (by decide) (by decide) ?_
          refine Go.iconst X7 hx (hb hby d2_350) rfl (0 : Int32) rfl ?_
          exact Go.retZ X7 hx (z' := (0 : Int32)) hret hlk (hb hby d2_351) rfl (by decide) (by rw [e7]; exact ⟨congrArg (fun z => some (Value.int z)) (by unfold isl; rw [if_pos hc8, if_pos hc9, if_pos hc10, if_pos hc11]), rfl, rfl⟩) (Nat.le_of_ble_eq_true rfl) (Nat.le_of_ble_eq_true rfl)
        · refine Go.ifNo X7 hx (hb hby d2_343) rfl ((if0 _ _).trans (feq hc11).1) ?_
          refine Go.iconst X7 hx (hb hby d2_346) rfl (1 : Int32) rfl ?_
          refine Go.goto X7 hx (hb hby d2_347) rfl 351 (by decide) (by decide) ?_
          exact Go.retZ X7 hx (z' := (1 : Int32)) hret hlk (hb hby d2_351) rfl (by decide) (by rw [e7]; exact ⟨congrArg (fun z => some (Value.int z)) (by unfold isl; rw [if_pos hc8, if_pos hc9, if_pos hc10, if_neg hc11]), rfl, rfl⟩) (Nat.le_of_ble_eq_true rfl) (Nat.le_of_ble_eq_true rfl)
      · refine Go.ifYes X7 hx (hb hby d2_338) rfl 346 ((if0 _ _).trans (feq hc10).2) (by decide) (by decide) ?_
        refine Go.iconst X7 hx (hb hby d2_346) rfl (1 : Int32) rfl ?_
        refine Go.goto X7 hx (hb hby d2_347) rfl 351 (by decide) (by decide) ?_
        exact Go.retZ X7 hx (z' := (1 : Int32)) hret hlk (hb hby d2_351) rfl (by decide) (by rw [e7]; exact ⟨congrArg (fun z => some (Value.int z)) (by unfold isl; rw [if_pos hc8, if_pos hc9, if_neg hc10]), rfl, rfl⟩) (Nat.le_of_ble_eq_true rfl) (Nat.le_of_ble_eq_true rfl)
    · refine Go.ifYes X7 hx (hb hby d2_333) rfl 346 ((if0 _ _).trans (feq hc9).2) (by decide) (by decide) ?_
      refine Go.iconst X7 hx (hb hby d2_346) rfl (1 : Int32) rfl ?_
      refine Go.goto X7 hx (hb hby d2_347) rfl 351 (by decide) (by decide) ?_
      exact Go.retZ X7 hx (z' := (1 : Int32)) hret hlk (hb hby d2_351) rfl (by decide) (by rw [e7]; exact ⟨congrArg (fun z => some (Value.int z)) (by unfold isl; rw [if_pos hc8, if_neg hc9]), rfl, rfl⟩) (Nat.le_of_ble_eq_true rfl) (Nat.le_of_ble_eq_true rfl)
  · refine Go.ifYes X7 hx (hb hby d2_328) rfl 346 ((if0 _ _).trans (feq hc8).2) (by decide) (by decide) ?_
    refine Go.iconst X7 hx (hb hby d2_346) rfl (1 : Int32) rfl ?_
    refine Go.goto X7 hx (hb hby d2_347) rfl 351 (by decide) (by decide) ?_
    exact Go.retZ X7 hx (z' := (1 : Int32)) hret hlk (hb hby d2_351) rfl (by decide) (by rw [e7]; exact ⟨congrArg (fun z => some (Value.int z)) (by unfold isl; rw [if_neg hc8]), rfl, rfl⟩) (Nat.le_of_ble_eq_true rfl) (Nat.le_of_ble_eq_true rfl)
set_option maxRecDepth 65536 in
set_option maxHeartbeats 40000000 in
theorem rmI_c {p : Program} {l : Launch} {e : Env} {s : State} {m : MethodId} {below : List Frame} {meth : Method} {c : Code} {Z : State} {a0 : Array Value} (hw : ∀ d ∈ tables_1, d.before a0 Z = true) (hx : p.tables.exec = Jvm.exec) (hby : c.code = method_4_code) (hml : c.maxLocals = 16) (hown : s.vm.findClass "com/example/afterstate/afterstate/connect4/BitboardHasFourPinLaw" = some m.cls) (hZ : Z.Warmed39 s.vm) (hret : meth.sig.returnType = some .boolean) (hlk : meth.locks = false) (c0 r0 c1 r1 c2 r2 c3 r3 : Int32) (h0 : Heap) (s₁ : State) (X0 : Stand p l e ({ frames := 1, cells := 0, slots := 0, locals := 15 } : Room) s m #[(.int c0), (.int r0), (.int c1), (.int r1), (.int c2), (.int r2), (.int c3), (.int r3)] below meth c s₁ [] 0 0) (e0 : s₁.heap = h0) : Go p e below (OwnEnd (fun v h' L => v = some (.int (isl c0 r0 c1 r1 c2 r2 c3 r3)) ∧ L = [] ∧ h' = h0) s 0 0) s₁ (mkF m 152 #[.val (.int c0), .val (.int r0), .val (.int c1), .val (.int r1), .val (.int c2), .val (.int r2), .val (.int c3), .val (.int r3), .val (.int (dst c0 c1 c2 c3)), .val (.int (dst r0 r1 r2 r3)), .val (.int (spn c0 c1 c2 c3)), .val (.int (spn r0 r1 r2 r3)), .unset, .unset, .unset, .unset] []) := by
  have wd : ∀ {d : Jvm.Cond} (i : Nat), tables_1[i]? = some d → d.before a0 Z = true := fun i q => hw _ (List.mem_of_getElem? q)
  refine Go.joinI X0 e0 ((lin r0 r1 r2 r3 (dst c0 c1 c2 c3) (spn c0 c1 c2 c3))) (fun z => mkF m 186 #[.val (.int c0), .val (.int r0), .val (.int c1), .val (.int r1), .val (.int c2), .val (.int r2), .val (.int c3), .val (.int r3), .val (.int (dst c0 c1 c2 c3)), .val (.int (dst r0 r1 r2 r3)), .val (.int (spn c0 c1 c2 c3)), .val (.int (spn r0 r1 r2 r3)), .unset, .unset, .unset, .unset] [(.int z)]) ?_ ?_
  · intro J1
    show Go p e below _ s₁ (mkF m 152 #[.val (.int c0), .val (.int r0), .val (.int c1), .val (.int r1), .val (.int c2), .val (.int r2), .val (.int c3), .val (.int r3), .val (.int (dst c0 c1 c2 c3)), .val (.int (dst r0 r1 r2 r3)), .val (.int (spn c0 c1 c2 c3)), .val (.int (spn r0 r1 r2 r3)), .unset, .unset, .unset, .unset] [])
    refine Go.iloadN X0 hx (hb hby d2_152) rfl rfl  ?_
    refine Go.iloadN X0 hx (hb hby d2_153) rfl rfl  ?_
    by_cases hc2 : r0 = r1
    · refine Go.icmpNo X0 hx (hb hby d2_154) rfl (teq hc2).2 ?_
      refine Go.iloadN X0 hx (hb hby d2_157) rfl rfl  ?_
      refine Go.iload X0 hx (hb hby d2_158) rfl rfl  ?_
      by_cases hc3 : r1 = r2
      · refine Go.icmpNo X0 hx (hb hby d2_160) rfl (teq hc3).2 ?_
        refine Go.iload X0 hx (hb hby d2_163) rfl rfl  ?_
        refine Go.iload X0 hx (hb hby d2_165) rfl rfl  ?_
        by_cases hc4 : r2 = r3
        · refine Go.icmpNo X0 hx (hb hby d2_167) rfl (teq hc4).2 ?_
          refine Go.iload X0 hx (hb hby d2_170) rfl rfl  ?_
          by_cases hc5 : (dst c0 c1 c2 c3) = (0 : Int32)
          · refine Go.ifYes X0 hx (hb hby d2_172) rfl 185 ((if0 _ _).trans (teq hc5).1) (by decide) (by decide) ?_
            refine Go.iconst X0 hx (hb hby d2_185) rfl (0 : Int32) rfl ?_
            exact J1 _ (0 : Int32) (if_neg fun q => q.2.2.2.1 hc5).symm X0 e0
          · refine Go.ifNo X0 hx (hb hby d2_172) rfl ((if0 _ _).trans (feq hc5).1) ?_
            refine Go.iload X0 hx (hb hby d2_175) rfl rfl  ?_
            refine Go.iconst X0 hx (hb hby d2_177) rfl (3 : Int32) rfl ?_
            by_cases hc6 : (spn c0 c1 c2 c3) = (3 : Int32)
            · refine Go.icmpNo X0 hx (hb hby d2_178) rfl (teq hc6).2 ?_
              refine Go.iconst X0 hx (hb hby d2_181) rfl (1 : Int32) rfl ?_
              refine Go.goto X0 hx (hb hby d2_182) rfl 186 (by decide) (by decide) ?_
              exact J1 _ (1 : Int32) (if_pos ⟨hc2, hc3, hc4, hc5, hc6⟩).symm X0 e0
            · refine Go.icmpYes X0 hx (hb hby d2_178) rfl 185 (feq hc6).2 (by decide) (by decide) ?_
              refine Go.iconst X0 hx (hb hby d2_185) rfl (0 : Int32) rfl ?_
              exact J1 _ (0 : Int32) (if_neg fun q => hc6 q.2.2.2.2).symm X0 e0
        · refine Go.icmpYes X0 hx (hb hby d2_167) rfl 185 (feq hc4).2 (by decide) (by decide) ?_
          refine Go.iconst X0 hx (hb hby d2_185) rfl (0 : Int32) rfl ?_
          exact J1 _ (0 : Int32) (if_neg fun q => hc4 q.2.2.1).symm X0 e0
      · refine Go.icmpYes X0 hx (hb hby d2_160) rfl 185 (feq hc3).2 (by decide) (by decide) ?_
        refine Go.iconst X0 hx (hb hby d2_185) rfl (0 : Int32) rfl ?_
        exact J1 _ (0 : Int32) (if_neg fun q => hc3 q.2.1).symm X0 e0
    · refine Go.icmpYes X0 hx (hb hby d2_154) rfl 185 (feq hc2).2 (by decide) (by decide) ?_
      refine Go.iconst X0 hx (hb hby d2_185) rfl (0 : Int32) rfl ?_
      exact J1 _ (0 : Int32) (if_neg fun q => hc2 q.1).symm X0 e0
  intro T7 X7 e7
  show Go p e below _ T7 (mkF m 186 #[.val (.int c0), .val (.int r0), .val (.int c1), .val (.int r1), .val (.int c2), .val (.int r2), .val (.int c3), .val (.int r3), .val (.int (dst c0 c1 c2 c3)), .val (.int (dst r0 r1 r2 r3)), .val (.int (spn c0 c1 c2 c3)), .val (.int (spn r0 r1 r2 r3)), .unset, .unset, .unset, .unset] [(.int (lin r0 r1 r2 r3 (dst c0 c1 c2 c3) (spn c0 c1 c2 c3)))])
  refine Go.istore X7 hx (hb hby d2_186) rfl  #[.val (.int c0), .val (.int r0), .val (.int c1), .val (.int r1), .val (.int c2), .val (.int r2), .val (.int c3), .val (.int r3), .val (.int (dst c0 c1 c2 c3)), .val (.int (dst r0 r1 r2 r3)), .val (.int (spn c0 c1 c2 c3)), .val (.int (spn r0 r1 r2 r3)), .val (.int (lin r0 r1 r2 r3 (dst c0 c1 c2 c3) (spn c0 c1 c2 c3))), .unset, .unset, .unset] rfl ?_
  refine Go.joinI X7 e7 ((lin c0 c1 c2 c3 (dst r0 r1 r2 r3) (spn r0 r1 r2 r3))) (fun z => mkF m 222 #[.val (.int c0), .val (.int r0), .val (.int c1), .val (.int r1), .val (.int c2), .val (.int r2), .val (.int c3), .val (.int r3), .val (.int (dst c0 c1 c2 c3)), .val (.int (dst r0 r1 r2 r3)), .val (.int (spn c0 c1 c2 c3)), .val (.int (spn r0 r1 r2 r3)), .val (.int (lin r0 r1 r2 r3 (dst c0 c1 c2 c3) (spn c0 c1 c2 c3))), .unset, .unset, .unset] [(.int z)]) ?_ ?_
  · intro J8
    refine Go.iloadN X7 hx (hb hby d2_188) rfl rfl  ?_
    refine Go.iloadN X7 hx (hb hby d2_189) rfl rfl  ?_
    by_cases hc9 : c0 = c1
    · refine Go.icmpNo X7 hx (hb hby d2_190) rfl (teq hc9).2 ?_
      refine Go.iloadN X7 hx (hb hby d2_193) rfl rfl  ?_
      refine Go.iload X7 hx (hb hby d2_194) rfl rfl  ?_
      by_cases hc10 : c1 = c2
      · refine Go.icmpNo X7 hx (hb hby d2_196) rfl (teq hc10).2 ?_
        refine Go.iload X7 hx (hb hby d2_199) rfl rfl  ?_
        refine Go.iload X7 hx (hb hby d2_201) rfl rfl  ?_
        by_cases hc11 : c2 = c3
        · refine Go.icmpNo X7 hx (hb hby d2_203) rfl (teq hc11).2 ?_
          refine Go.iload X7 hx (hb hby d2_206) rfl rfl  ?_
          by_cases hc12 : (dst r0 r1 r2 r3) = (0 : Int32)
          · refine Go.ifYes X7 hx (hb hby d2_208) rfl 221 ((if0 _ _).trans (teq hc12).1) (by decide) (by decide) ?_
            refine Go.iconst X7 hx (hb hby d2_221) rfl (0 : Int32) rfl ?_
            exact J8 _ (0 : Int32) (if_neg fun q => q.2.2.2.1 hc12).symm X7 e7
          · refine Go.ifNo X7 hx (hb hby d2_208) rfl ((if0 _ _).trans (feq hc12).1) ?_
            refine Go.iload X7 hx (hb hby d2_211) rfl rfl  ?_
            refine Go.iconst X7 hx (hb hby d2_213) rfl (3 : Int32) rfl ?_
            by_cases hc13 : (spn r0 r1 r2 r3) = (3 : Int32)
            · refine Go.icmpNo X7 hx (hb hby d2_214) rfl (teq hc13).2 ?_
              refine Go.iconst X7 hx (hb hby d2_217) rfl (1 : Int32) rfl ?_
              refine Go.goto X7 hx (hb hby d2_218) rfl 222 (by decide) (by decide) ?_
              exact J8 _ (1 : Int32) (if_pos ⟨hc9, hc10, hc11, hc12, hc13⟩).symm X7 e7
            · refine Go.icmpYes X7 hx (hb hby d2_214) rfl 221 (feq hc13).2 (by decide) (by decide) ?_
              refine Go.iconst X7 hx (hb hby d2_221) rfl (0 : Int32) rfl ?_
              exact J8 _ (0 : Int32) (if_neg fun q => hc13 q.2.2.2.2).symm X7 e7
        · refine Go.icmpYes X7 hx (hb hby d2_203) rfl 221 (feq hc11).2 (by decide) (by decide) ?_
          refine Go.iconst X7 hx (hb hby d2_221) rfl (0 : Int32) rfl ?_
          exact J8 _ (0 : Int32) (if_neg fun q => hc11 q.2.2.1).symm X7 e7
      · refine Go.icmpYes X7 hx (hb hby d2_196) rfl 221 (feq hc10).2 (by decide) (by decide) ?_
        refine Go.iconst X7 hx (hb hby d2_221) rfl (0 : Int32) rfl ?_
        exact J8 _ (0 : Int32) (if_neg fun q => hc10 q.2.1).symm X7 e7
    · refine Go.icmpYes X7 hx (hb hby d2_190) rfl 221 (feq hc9).2 (by decide) (by decide) ?_
      refine Go.iconst X7 hx (hb hby d2_221) rfl (0 : Int32) rfl ?_
      exact J8 _ (0 : Int32) (if_neg fun q => hc9 q.1).symm X7 e7
  intro T14 X14 e14
  show Go p e below _ T14 (mkF m 222 #[.val (.int c0), .val (.int r0), .val (.int c1), .val (.int r1), .val (.int c2), .val (.int r2), .val (.int c3), .val (.int r3), .val (.int (dst c0 c1 c2 c3)), .val (.int (dst r0 r1 r2 r3)), .val (.int (spn c0 c1 c2 c3)), .val (.int (spn r0 r1 r2 r3)), .val (.int (lin r0 r1 r2 r3 (dst c0 c1 c2 c3) (spn c0 c1 c2 c3))), .unset, .unset, .unset] [(.int (lin c0 c1 c2 c3 (dst r0 r1 r2 r3) (spn r0 r1 r2 r3)))])
  refine Go.istore X14 hx (hb hby d2_222) rfl  #[.val (.int c0), .val (.int r0), .val (.int c1), .val (.int r1), .val (.int c2), .val (.int r2), .val (.int c3), .val (.int r3), .val (.int (dst c0 c1 c2 c3)), .val (.int (dst r0 r1 r2 r3)), .val (.int (spn c0 c1 c2 c3)), .val (.int (spn r0 r1 r2 r3)), .val (.int (lin r0 r1 r2 r3 (dst c0 c1 c2 c3) (spn c0 c1 c2 c3))), .val (.int (lin c0 c1 c2 c3 (dst r0 r1 r2 r3) (spn r0 r1 r2 r3))), .unset, .unset] rfl ?_
  refine Go.joinI X14 e14 ((lin (c0 - r0) (c1 - r1) (c2 - r2) (c3 - r3) (dst c0 c1 c2 c3) (spn c0 c1 c2 c3))) (fun z => mkF m 273 #[.val (.int c0), .val (.int r0), .val (.int c1), .val (.int r1), .val (.int c2), .val (.int r2), .val (.int c3), .val (.int r3), .val (.int (dst c0 c1 c2 c3)), .val (.int (dst r0 r1 r2 r3)), .val (.int (spn c0 c1 c2 c3)), .val (.int (spn r0 r1 r2 r3)), .val (.int (lin r0 r1 r2 r3 (dst c0 c1 c2 c3) (spn c0 c1 c2 c3))), .val (.int (lin c0 c1 c2 c3 (dst r0 r1 r2 r3) (spn r0 r1 r2 r3))), .unset, .unset] [(.int z)]) ?_ ?_
  · intro J15
    refine Go.iloadN X14 hx (hb hby d2_224) rfl rfl  ?_
    refine Go.iloadN X14 hx (hb hby d2_225) rfl rfl  ?_
    refine Go.isub X14 hx (hb hby d2_226) rfl ?_
    refine Go.iloadN X14 hx (hb hby d2_227) rfl rfl  ?_
    refine Go.iloadN X14 hx (hb hby d2_228) rfl rfl  ?_
    refine Go.isub X14 hx (hb hby d2_229) rfl ?_
    by_cases hc16 : (c0 - r0) = (c1 - r1)
    · refine Go.icmpNo X14 hx (hb hby d2_230) rfl (teq hc16).2 ?_
      refine Go.iloadN X14 hx (hb hby d2_233) rfl rfl  ?_
      refine Go.iloadN X14 hx (hb hby d2_234) rfl rfl  ?_
      refine Go.isub X14 hx (hb hby d2_235) rfl ?_
      refine Go.iload X14 hx (hb hby d2_236) rfl rfl  ?_
      refine Go.iload X14 hx (hb hby d2_238) rfl rfl  ?_
      refine Go.isub X14 hx (hb hby d2_240) rfl ?_
      by_cases hc17 : (c1 - r1) = (c2 - r2)
      · refine Go.icmpNo X14 hx (hb hby d2_241) rfl (teq hc17).2 ?_
        refine Go.iload X14 hx (hb hby d2_244) rfl rfl  ?_
        refine Go.iload X14 hx (hb hby d2_246) rfl rfl  ?_
        refine Go.isub X14 hx (hb hby d2_248) rfl ?_
        refine Go.iload X14 hx (hb hby d2_249) rfl rfl  ?_
        refine Go.iload X14 hx (hb hby d2_251) rfl rfl  ?_
        refine Go.isub X14 hx (hb hby d2_253) rfl ?_
        by_cases hc18 : (c2 - r2) = (c3 - r3)
        · refine Go.icmpNo X14 hx (hb hby d2_254) rfl (teq hc18).2 ?_
          refine Go.iload X14 hx (hb hby d2_257) rfl rfl  ?_
          by_cases hc19 : (dst c0 c1 c2 c3) = (0 : Int32)
          · refine Go.ifYes X14 hx (hb hby d2_259) rfl 272 ((if0 _ _).trans (teq hc19).1) (by decide) (by decide) ?_
            refine Go.iconst X14 hx (hb hby d2_272) rfl (0 : Int32) rfl ?_
            exact J15 _ (0 : Int32) (if_neg fun q => q.2.2.2.1 hc19).symm X14 e14
          · refine Go.ifNo X14 hx (hb hby d2_259) rfl ((if0 _ _).trans (feq hc19).1) ?_
            refine Go.iload X14 hx (hb hby d2_262) rfl rfl  ?_
            refine Go.iconst X14 hx (hb hby d2_264) rfl (3 : Int32) rfl ?_
            by_cases hc20 : (spn c0 c1 c2 c3) = (3 : Int32)
            · refine Go.icmpNo X14 hx (hb hby d2_265) rfl (teq hc20).2 ?_
              refine Go.iconst X14 hx (hb hby d2_268) rfl (1 : Int32) rfl ?_
              refine Go.goto X14 hx (hb hby d2_269) rfl 273 (by decide) (by decide) ?_
              exact J15 _ (1 : Int32) (if_pos ⟨hc16, hc17, hc18, hc19, hc20⟩).symm X14 e14
            · refine Go.icmpYes X14 hx (hb hby d2_265) rfl 272 (feq hc20).2 (by decide) (by decide) ?_
              refine Go.iconst X14 hx (hb hby d2_272) rfl (0 : Int32) rfl ?_
              exact J15 _ (0 : Int32) (if_neg fun q => hc20 q.2.2.2.2).symm X14 e14
        · refine Go.icmpYes X14 hx (hb hby d2_254) rfl 272 (feq hc18).2 (by decide) (by decide) ?_
          refine Go.iconst X14 hx (hb hby d2_272) rfl (0 : Int32) rfl ?_
          exact J15 _ (0 : Int32) (if_neg fun q => hc18 q.2.2.1).symm X14 e14
      · refine Go.icmpYes X14 hx (hb hby d2_241) rfl 272 (feq hc17).2 (by decide) (by decide) ?_
        refine Go.iconst X14 hx (hb hby d2_272) rfl (0 : Int32) rfl ?_
        exact J15 _ (0 : Int32) (if_neg fun q => hc17 q.2.1).symm X14 e14
    · refine Go.icmpYes X14 hx (hb hby d2_230) rfl 272 (feq hc16).2 (by decide) (by decide) ?_
      refine Go.iconst X14 hx (hb hby d2_272) rfl (0 : Int32) rfl ?_
      exact J15 _ (0 : Int32) (if_neg fun q => hc16 q.1).symm X14 e14
  intro T21 X21 e21
  show Go p e below _ T21 (mkF m 273 #[.val (.int c0), .val (.int r0), .val (.int c1), .val (.int r1), .val (.int c2), .val (.int r2), .val (.int c3), .val (.int r3), .val (.int (dst c0 c1 c2 c3)), .val (.int (dst r0 r1 r2 r3)), .val (.int (spn c0 c1 c2 c3)), .val (.int (spn r0 r1 r2 r3)), .val (.int (lin r0 r1 r2 r3 (dst c0 c1 c2 c3) (spn c0 c1 c2 c3))), .val (.int (lin c0 c1 c2 c3 (dst r0 r1 r2 r3) (spn r0 r1 r2 r3))), .unset, .unset] [(.int (lin (c0 - r0) (c1 - r1) (c2 - r2) (c3 - r3) (dst c0 c1 c2 c3) (spn c0 c1 c2 c3)))])
  refine Go.istore X21 hx (hb hby d2_273) rfl  #[.val (.int c0), .val (.int r0), .val (.int c1), .val (.int r1), .val (.int c2), .val (.int r2), .val (.int c3), .val (.int r3), .val (.int (dst c0 c1 c2 c3)), .val (.int (dst r0 r1 r2 r3)), .val (.int (spn c0 c1 c2 c3)), .val (.int (spn r0 r1 r2 r3)), .val (.int (lin r0 r1 r2 r3 (dst c0 c1 c2 c3) (spn c0 c1 c2 c3))), .val (.int (lin c0 c1 c2 c3 (dst r0 r1 r2 r3) (spn r0 r1 r2 r3))), .val (.int (lin (c0 - r0) (c1 - r1) (c2 - r2) (c3 - r3) (dst c0 c1 c2 c3) (spn c0 c1 c2 c3))), .unset] rfl ?_
  show Go p e below _ T21 (mkF m 275 #[.val (.int c0), .val (.int r0), .val (.int c1), .val (.int r1), .val (.int c2), .val (.int r2), .val (.int c3), .val (.int r3), .val (.int (dst c0 c1 c2 c3)), .val (.int (dst r0 r1 r2 r3)), .val (.int (spn c0 c1 c2 c3)), .val (.int (spn r0 r1 r2 r3)), .val (.int (lin r0 r1 r2 r3 (dst c0 c1 c2 c3) (spn c0 c1 c2 c3))), .val (.int (lin c0 c1 c2 c3 (dst r0 r1 r2 r3) (spn r0 r1 r2 r3))), .val (.int (lin (c0 - r0) (c1 - r1) (c2 - r2) (c3 - r3) (dst c0 c1 c2 c3) (spn c0 c1 c2 c3))), .unset] [])
  exact rmI_d hw hx hby hml hown hZ hret hlk c0 r0 c1 r1 c2 r2 c3 r3 h0 _ X21 e21
set_option maxRecDepth 65536 in
set_option maxHeartbeats 40000000 in
theorem rmI_b {p : Program} {l : Launch} {e : Env} {s : State} {m : MethodId} {below : List Frame} {meth : Method} {c : Code} {Z : State} {a0 : Array Value} (hw : ∀ d ∈ tables_1, d.before a0 Z = true) (hx : p.tables.exec = Jvm.exec) (hby : c.code = method_4_code) (hml : c.maxLocals = 16) (hown : s.vm.findClass "com/example/afterstate/afterstate/connect4/BitboardHasFourPinLaw" = some m.cls) (hZ : Z.Warmed39 s.vm) (hret : meth.sig.returnType = some .boolean) (hlk : meth.locks = false) (c0 r0 c1 r1 c2 r2 c3 r3 : Int32) (h0 : Heap) (s₁ : State) (X0 : Stand p l e ({ frames := 1, cells := 0, slots := 0, locals := 15 } : Room) s m #[(.int c0), (.int r0), (.int c1), (.int r1), (.int c2), (.int r2), (.int c3), (.int r3)] below meth c s₁ [] 0 0) (e0 : s₁.heap = h0) : Go p e below (OwnEnd (fun v h' L => v = some (.int (isl c0 r0 c1 r1 c2 r2 c3 r3)) ∧ L = [] ∧ h' = h0) s 0 0) s₁ (mkF m 86 #[.val (.int c0), .val (.int r0), .val (.int c1), .val (.int r1), .val (.int c2), .val (.int r2), .val (.int c3), .val (.int r3), .val (.int (dst c0 c1 c2 c3)), .val (.int (dst r0 r1 r2 r3)), .unset, .unset, .unset, .unset, .unset, .unset] []) := by
  have wd : ∀ {d : Jvm.Cond} (i : Nat), tables_1[i]? = some d → d.before a0 Z = true := fun i q => hw _ (List.mem_of_getElem? q)
  show Go p e below _ s₁ (mkF m 86 #[.val (.int c0), .val (.int r0), .val (.int c1), .val (.int r1), .val (.int c2), .val (.int r2), .val (.int c3), .val (.int r3), .val (.int (dst c0 c1 c2 c3)), .val (.int (dst r0 r1 r2 r3)), .unset, .unset, .unset, .unset, .unset, .unset] [])
  refine Go.iloadN X0 hx (hb hby d2_86) rfl rfl  ?_
  refine Go.iloadN X0 hx (hb hby d2_87) rfl rfl  ?_
  refine Go.pureS X0 hx hZ hown (wd 8 rfl) (wd 9 rfl) (wd 10 rfl) (wd 11 rfl) (by decide) [(.int c0), (.int c1)] [] (rmX l Z a0 hw c0 c1 h0) e0 rfl (by rw [hml]; rfl) pd_0 rfl (hb hby d2_88) (Nat.le_of_ble_eq_true rfl) (Nat.le_of_ble_eq_true rfl) (Nat.le_of_ble_eq_true rfl) (Nat.le_of_ble_eq_true rfl) ?_
  intro T1 X1 e1
  show Go p e below _ T1 (mkF m 91 #[.val (.int c0), .val (.int r0), .val (.int c1), .val (.int r1), .val (.int c2), .val (.int r2), .val (.int c3), .val (.int r3), .val (.int (dst c0 c1 c2 c3)), .val (.int (dst r0 r1 r2 r3)), .unset, .unset, .unset, .unset, .unset, .unset] [(.int (imax c0 c1))])
  obtain ⟨v2, hv2⟩ : ∃ z, z = (imax c0 c1) := ⟨_, rfl⟩
  rw [← hv2]
  show Go p e below _ T1 (mkF m 91 #[.val (.int c0), .val (.int r0), .val (.int c1), .val (.int r1), .val (.int c2), .val (.int r2), .val (.int c3), .val (.int r3), .val (.int (dst c0 c1 c2 c3)), .val (.int (dst r0 r1 r2 r3)), .unset, .unset, .unset, .unset, .unset, .unset] [(.int v2)])
  refine Go.iload X1 hx (hb hby d2_91) rfl rfl  ?_
  refine Go.iload X1 hx (hb hby d2_93) rfl rfl  ?_
  refine Go.pureS X1 hx hZ hown (wd 8 rfl) (wd 9 rfl) (wd 10 rfl) (wd 11 rfl) (by decide) [(.int c2), (.int c3)] [(.int v2)] (rmX l Z a0 hw c2 c3 h0) e1 rfl (by rw [hml]; rfl) pd_0 rfl (hb hby d2_95) (Nat.le_of_ble_eq_true rfl) (Nat.le_of_ble_eq_true rfl) (Nat.le_of_ble_eq_true rfl) (Nat.le_of_ble_eq_true rfl) ?_
  intro T3 X3 e3
  show Go p e below _ T3 (mkF m 98 #[.val (.int c0), .val (.int r0), .val (.int c1), .val (.int r1), .val (.int c2), .val (.int r2), .val (.int c3), .val (.int r3), .val (.int (dst c0 c1 c2 c3)), .val (.int (dst r0 r1 r2 r3)), .unset, .unset, .unset, .unset, .unset, .unset] [(.int (imax c2 c3)), (.int v2)])
  obtain ⟨v4, hv4⟩ : ∃ z, z = (imax c2 c3) := ⟨_, rfl⟩
  rw [← hv4]
  show Go p e below _ T3 (mkF m 98 #[.val (.int c0), .val (.int r0), .val (.int c1), .val (.int r1), .val (.int c2), .val (.int r2), .val (.int c3), .val (.int r3), .val (.int (dst c0 c1 c2 c3)), .val (.int (dst r0 r1 r2 r3)), .unset, .unset, .unset, .unset, .unset, .unset] [(.int v4), (.int v2)])
  refine Go.pureS X3 hx hZ hown (wd 8 rfl) (wd 9 rfl) (wd 10 rfl) (wd 11 rfl) (by decide) [(.int v2), (.int v4)] [] (rmX l Z a0 hw v2 v4 h0) e3 rfl (by rw [hml]; rfl) pd_0 rfl (hb hby d2_98) (Nat.le_of_ble_eq_true rfl) (Nat.le_of_ble_eq_true rfl) (Nat.le_of_ble_eq_true rfl) (Nat.le_of_ble_eq_true rfl) ?_
  intro T5 X5 e5
  show Go p e below _ T5 (mkF m 101 #[.val (.int c0), .val (.int r0), .val (.int c1), .val (.int r1), .val (.int c2), .val (.int r2), .val (.int c3), .val (.int r3), .val (.int (dst c0 c1 c2 c3)), .val (.int (dst r0 r1 r2 r3)), .unset, .unset, .unset, .unset, .unset, .unset] [(.int (imax v2 v4))])
  obtain ⟨v6, hv6⟩ : ∃ z, z = (imax v2 v4) := ⟨_, rfl⟩
  rw [← hv6]
  show Go p e below _ T5 (mkF m 101 #[.val (.int c0), .val (.int r0), .val (.int c1), .val (.int r1), .val (.int c2), .val (.int r2), .val (.int c3), .val (.int r3), .val (.int (dst c0 c1 c2 c3)), .val (.int (dst r0 r1 r2 r3)), .unset, .unset, .unset, .unset, .unset, .unset] [(.int v6)])
  refine Go.iloadN X5 hx (hb hby d2_101) rfl rfl  ?_
  refine Go.iloadN X5 hx (hb hby d2_102) rfl rfl  ?_
  refine Go.pureS X5 hx hZ hown (wd 12 rfl) (wd 13 rfl) (wd 10 rfl) (wd 14 rfl) (by decide) [(.int c0), (.int c1)] [(.int v6)] (rmN l Z a0 hw c0 c1 h0) e5 rfl (by rw [hml]; rfl) pd_0 rfl (hb hby d2_103) (Nat.le_of_ble_eq_true rfl) (Nat.le_of_ble_eq_true rfl) (Nat.le_of_ble_eq_true rfl) (Nat.le_of_ble_eq_true rfl) ?_
  intro T7 X7 e7
  show Go p e below _ T7 (mkF m 106 #[.val (.int c0), .val (.int r0), .val (.int c1), .val (.int r1), .val (.int c2), .val (.int r2), .val (.int c3), .val (.int r3), .val (.int (dst c0 c1 c2 c3)), .val (.int (dst r0 r1 r2 r3)), .unset, .unset, .unset, .unset, .unset, .unset] [(.int (imin c0 c1)), (.int v6)])
  obtain ⟨v8, hv8⟩ : ∃ z, z = (imin c0 c1) := ⟨_, rfl⟩
  rw [← hv8]
  show Go p e below _ T7 (mkF m 106 #[.val (.int c0), .val (.int r0), .val (.int c1), .val (.int r1), .val (.int c2), .val (.int r2), .val (.int c3), .val (.int r3), .val (.int (dst c0 c1 c2 c3)), .val (.int (dst r0 r1 r2 r3)), .unset, .unset, .unset, .unset, .unset, .unset] [(.int v8), (.int v6)])
  refine Go.iload X7 hx (hb hby d2_106) rfl rfl  ?_
  refine Go.iload X7 hx (hb hby d2_108) rfl rfl  ?_
  refine Go.pureS X7 hx hZ hown (wd 12 rfl) (wd 13 rfl) (wd 10 rfl) (wd 14 rfl) (by decide) [(.int c2), (.int c3)] [(.int v8), (.int v6)] (rmN l Z a0 hw c2 c3 h0) e7 rfl (by rw [hml]; rfl) pd_0 rfl (hb hby d2_110) (Nat.le_of_ble_eq_true rfl) (Nat.le_of_ble_eq_true rfl) (Nat.le_of_ble_eq_true rfl) (Nat.le_of_ble_eq_true rfl) ?_
  intro T9 X9 e9
  show Go p e below _ T9 (mkF m 113 #[.val (.int c0), .val (.int r0), .val (.int c1), .val (.int r1), .val (.int c2), .val (.int r2), .val (.int c3), .val (.int r3), .val (.int (dst c0 c1 c2 c3)), .val (.int (dst r0 r1 r2 r3)), .unset, .unset, .unset, .unset, .unset, .unset] [(.int (imin c2 c3)), (.int v8), (.int v6)])
  obtain ⟨v10, hv10⟩ : ∃ z, z = (imin c2 c3) := ⟨_, rfl⟩
  rw [← hv10]
  show Go p e below _ T9 (mkF m 113 #[.val (.int c0), .val (.int r0), .val (.int c1), .val (.int r1), .val (.int c2), .val (.int r2), .val (.int c3), .val (.int r3), .val (.int (dst c0 c1 c2 c3)), .val (.int (dst r0 r1 r2 r3)), .unset, .unset, .unset, .unset, .unset, .unset] [(.int v10), (.int v8), (.int v6)])
  refine Go.pureS X9 hx hZ hown (wd 12 rfl) (wd 13 rfl) (wd 10 rfl) (wd 14 rfl) (by decide) [(.int v8), (.int v10)] [(.int v6)] (rmN l Z a0 hw v8 v10 h0) e9 rfl (by rw [hml]; rfl) pd_0 rfl (hb hby d2_113) (Nat.le_of_ble_eq_true rfl) (Nat.le_of_ble_eq_true rfl) (Nat.le_of_ble_eq_true rfl) (Nat.le_of_ble_eq_true rfl) ?_
  intro T11 X11 e11
  show Go p e below _ T11 (mkF m 116 #[.val (.int c0), .val (.int r0), .val (.int c1), .val (.int r1), .val (.int c2), .val (.int r2), .val (.int c3), .val (.int r3), .val (.int (dst c0 c1 c2 c3)), .val (.int (dst r0 r1 r2 r3)), .unset, .unset, .unset, .unset, .unset, .unset] [(.int (imin v8 v10)), (.int v6)])
  obtain ⟨v12, hv12⟩ : ∃ z, z = (imin v8 v10) := ⟨_, rfl⟩
  rw [← hv12]
  show Go p e below _ T11 (mkF m 116 #[.val (.int c0), .val (.int r0), .val (.int c1), .val (.int r1), .val (.int c2), .val (.int r2), .val (.int c3), .val (.int r3), .val (.int (dst c0 c1 c2 c3)), .val (.int (dst r0 r1 r2 r3)), .unset, .unset, .unset, .unset, .unset, .unset] [(.int v12), (.int v6)])
  refine Go.isub X11 hx (hb hby d2_116) rfl ?_
  refine Go.istore X11 hx (hb hby d2_117) rfl  #[.val (.int c0), .val (.int r0), .val (.int c1), .val (.int r1), .val (.int c2), .val (.int r2), .val (.int c3), .val (.int r3), .val (.int (dst c0 c1 c2 c3)), .val (.int (dst r0 r1 r2 r3)), .val (.int (v6 - v12)), .unset, .unset, .unset, .unset, .unset] rfl ?_
  show Go p e below _ T11 (mkF m 119 #[.val (.int c0), .val (.int r0), .val (.int c1), .val (.int r1), .val (.int c2), .val (.int r2), .val (.int c3), .val (.int r3), .val (.int (dst c0 c1 c2 c3)), .val (.int (dst r0 r1 r2 r3)), .val (.int (v6 - v12)), .unset, .unset, .unset, .unset, .unset] [])
  rw [show (v6 - v12) = (spn c0 c1 c2 c3) from by subst hv12 hv10 hv8 hv6 hv4 hv2; rfl]
  show Go p e below _ T11 (mkF m 119 #[.val (.int c0), .val (.int r0), .val (.int c1), .val (.int r1), .val (.int c2), .val (.int r2), .val (.int c3), .val (.int r3), .val (.int (dst c0 c1 c2 c3)), .val (.int (dst r0 r1 r2 r3)), .val (.int (spn c0 c1 c2 c3)), .unset, .unset, .unset, .unset, .unset] [])
  refine Go.iloadN X11 hx (hb hby d2_119) rfl rfl  ?_
  refine Go.iloadN X11 hx (hb hby d2_120) rfl rfl  ?_
  refine Go.pureS X11 hx hZ hown (wd 8 rfl) (wd 9 rfl) (wd 10 rfl) (wd 11 rfl) (by decide) [(.int r0), (.int r1)] [] (rmX l Z a0 hw r0 r1 h0) e11 rfl (by rw [hml]; rfl) pd_0 rfl (hb hby d2_121) (Nat.le_of_ble_eq_true rfl) (Nat.le_of_ble_eq_true rfl) (Nat.le_of_ble_eq_true rfl) (Nat.le_of_ble_eq_true rfl) ?_
  intro T13 X13 e13
  show Go p e below _ T13 (mkF m 124 #[.val (.int c0), .val (.int r0), .val (.int c1), .val (.int r1), .val (.int c2), .val (.int r2), .val (.int c3), .val (.int r3), .val (.int (dst c0 c1 c2 c3)), .val (.int (dst r0 r1 r2 r3)), .val (.int (spn c0 c1 c2 c3)), .unset, .unset, .unset, .unset, .unset] [(.int (imax r0 r1))])
  obtain ⟨v14, hv14⟩ : ∃ z, z = (imax r0 r1) := ⟨_, rfl⟩
  rw [← hv14]
  show Go p e below _ T13 (mkF m 124 #[.val (.int c0), .val (.int r0), .val (.int c1), .val (.int r1), .val (.int c2), .val (.int r2), .val (.int c3), .val (.int r3), .val (.int (dst c0 c1 c2 c3)), .val (.int (dst r0 r1 r2 r3)), .val (.int (spn c0 c1 c2 c3)), .unset, .unset, .unset, .unset, .unset] [(.int v14)])
  refine Go.iload X13 hx (hb hby d2_124) rfl rfl  ?_
  refine Go.iload X13 hx (hb hby d2_126) rfl rfl  ?_
  refine Go.pureS X13 hx hZ hown (wd 8 rfl) (wd 9 rfl) (wd 10 rfl) (wd 11 rfl) (by decide) [(.int r2), (.int r3)] [(.int v14)] (rmX l Z a0 hw r2 r3 h0) e13 rfl (by rw [hml]; rfl) pd_0 rfl (hb hby d2_128) (Nat.le_of_ble_eq_true rfl) (Nat.le_of_ble_eq_true rfl) (Nat.le_of_ble_eq_true rfl) (Nat.le_of_ble_eq_true rfl) ?_
  intro T15 X15 e15
  show Go p e below _ T15 (mkF m 131 #[.val (.int c0), .val (.int r0), .val (.int c1), .val (.int r1), .val (.int c2), .val (.int r2), .val (.int c3), .val (.int r3), .val (.int (dst c0 c1 c2 c3)), .val (.int (dst r0 r1 r2 r3)), .val (.int (spn c0 c1 c2 c3)), .unset, .unset, .unset, .unset, .unset] [(.int (imax r2 r3)), (.int v14)])
  obtain ⟨v16, hv16⟩ : ∃ z, z = (imax r2 r3) := ⟨_, rfl⟩
  rw [← hv16]
  show Go p e below _ T15 (mkF m 131 #[.val (.int c0), .val (.int r0), .val (.int c1), .val (.int r1), .val (.int c2), .val (.int r2), .val (.int c3), .val (.int r3), .val (.int (dst c0 c1 c2 c3)), .val (.int (dst r0 r1 r2 r3)), .val (.int (spn c0 c1 c2 c3)), .unset, .unset, .unset, .unset, .unset] [(.int v16), (.int v14)])
  refine Go.pureS X15 hx hZ hown (wd 8 rfl) (wd 9 rfl) (wd 10 rfl) (wd 11 rfl) (by decide) [(.int v14), (.int v16)] [] (rmX l Z a0 hw v14 v16 h0) e15 rfl (by rw [hml]; rfl) pd_0 rfl (hb hby d2_131) (Nat.le_of_ble_eq_true rfl) (Nat.le_of_ble_eq_true rfl) (Nat.le_of_ble_eq_true rfl) (Nat.le_of_ble_eq_true rfl) ?_
  intro T17 X17 e17
  show Go p e below _ T17 (mkF m 134 #[.val (.int c0), .val (.int r0), .val (.int c1), .val (.int r1), .val (.int c2), .val (.int r2), .val (.int c3), .val (.int r3), .val (.int (dst c0 c1 c2 c3)), .val (.int (dst r0 r1 r2 r3)), .val (.int (spn c0 c1 c2 c3)), .unset, .unset, .unset, .unset, .unset] [(.int (imax v14 v16))])
  obtain ⟨v18, hv18⟩ : ∃ z, z = (imax v14 v16) := ⟨_, rfl⟩
  rw [← hv18]
  show Go p e below _ T17 (mkF m 134 #[.val (.int c0), .val (.int r0), .val (.int c1), .val (.int r1), .val (.int c2), .val (.int r2), .val (.int c3), .val (.int r3), .val (.int (dst c0 c1 c2 c3)), .val (.int (dst r0 r1 r2 r3)), .val (.int (spn c0 c1 c2 c3)), .unset, .unset, .unset, .unset, .unset] [(.int v18)])
  refine Go.iloadN X17 hx (hb hby d2_134) rfl rfl  ?_
  refine Go.iloadN X17 hx (hb hby d2_135) rfl rfl  ?_
  refine Go.pureS X17 hx hZ hown (wd 12 rfl) (wd 13 rfl) (wd 10 rfl) (wd 14 rfl) (by decide) [(.int r0), (.int r1)] [(.int v18)] (rmN l Z a0 hw r0 r1 h0) e17 rfl (by rw [hml]; rfl) pd_0 rfl (hb hby d2_136) (Nat.le_of_ble_eq_true rfl) (Nat.le_of_ble_eq_true rfl) (Nat.le_of_ble_eq_true rfl) (Nat.le_of_ble_eq_true rfl) ?_
  intro T19 X19 e19
  show Go p e below _ T19 (mkF m 139 #[.val (.int c0), .val (.int r0), .val (.int c1), .val (.int r1), .val (.int c2), .val (.int r2), .val (.int c3), .val (.int r3), .val (.int (dst c0 c1 c2 c3)), .val (.int (dst r0 r1 r2 r3)), .val (.int (spn c0 c1 c2 c3)), .unset, .unset, .unset, .unset, .unset] [(.int (imin r0 r1)), (.int v18)])
  obtain ⟨v20, hv20⟩ : ∃ z, z = (imin r0 r1) := ⟨_, rfl⟩
  rw [← hv20]
  show Go p e below _ T19 (mkF m 139 #[.val (.int c0), .val (.int r0), .val (.int c1), .val (.int r1), .val (.int c2), .val (.int r2), .val (.int c3), .val (.int r3), .val (.int (dst c0 c1 c2 c3)), .val (.int (dst r0 r1 r2 r3)), .val (.int (spn c0 c1 c2 c3)), .unset, .unset, .unset, .unset, .unset] [(.int v20), (.int v18)])
  refine Go.iload X19 hx (hb hby d2_139) rfl rfl  ?_
  refine Go.iload X19 hx (hb hby d2_141) rfl rfl  ?_
  refine Go.pureS X19 hx hZ hown (wd 12 rfl) (wd 13 rfl) (wd 10 rfl) (wd 14 rfl) (by decide) [(.int r2), (.int r3)] [(.int v20), (.int v18)] (rmN l Z a0 hw r2 r3 h0) e19 rfl (by rw [hml]; rfl) pd_0 rfl (hb hby d2_143) (Nat.le_of_ble_eq_true rfl) (Nat.le_of_ble_eq_true rfl) (Nat.le_of_ble_eq_true rfl) (Nat.le_of_ble_eq_true rfl) ?_
  intro T21 X21 e21
  show Go p e below _ T21 (mkF m 146 #[.val (.int c0), .val (.int r0), .val (.int c1), .val (.int r1), .val (.int c2), .val (.int r2), .val (.int c3), .val (.int r3), .val (.int (dst c0 c1 c2 c3)), .val (.int (dst r0 r1 r2 r3)), .val (.int (spn c0 c1 c2 c3)), .unset, .unset, .unset, .unset, .unset] [(.int (imin r2 r3)), (.int v20), (.int v18)])
  obtain ⟨v22, hv22⟩ : ∃ z, z = (imin r2 r3) := ⟨_, rfl⟩
  rw [← hv22]
  show Go p e below _ T21 (mkF m 146 #[.val (.int c0), .val (.int r0), .val (.int c1), .val (.int r1), .val (.int c2), .val (.int r2), .val (.int c3), .val (.int r3), .val (.int (dst c0 c1 c2 c3)), .val (.int (dst r0 r1 r2 r3)), .val (.int (spn c0 c1 c2 c3)), .unset, .unset, .unset, .unset, .unset] [(.int v22), (.int v20), (.int v18)])
  refine Go.pureS X21 hx hZ hown (wd 12 rfl) (wd 13 rfl) (wd 10 rfl) (wd 14 rfl) (by decide) [(.int v20), (.int v22)] [(.int v18)] (rmN l Z a0 hw v20 v22 h0) e21 rfl (by rw [hml]; rfl) pd_0 rfl (hb hby d2_146) (Nat.le_of_ble_eq_true rfl) (Nat.le_of_ble_eq_true rfl) (Nat.le_of_ble_eq_true rfl) (Nat.le_of_ble_eq_true rfl) ?_
  intro T23 X23 e23
  show Go p e below _ T23 (mkF m 149 #[.val (.int c0), .val (.int r0), .val (.int c1), .val (.int r1), .val (.int c2), .val (.int r2), .val (.int c3), .val (.int r3), .val (.int (dst c0 c1 c2 c3)), .val (.int (dst r0 r1 r2 r3)), .val (.int (spn c0 c1 c2 c3)), .unset, .unset, .unset, .unset, .unset] [(.int (imin v20 v22)), (.int v18)])
  obtain ⟨v24, hv24⟩ : ∃ z, z = (imin v20 v22) := ⟨_, rfl⟩
  rw [← hv24]
  show Go p e below _ T23 (mkF m 149 #[.val (.int c0), .val (.int r0), .val (.int c1), .val (.int r1), .val (.int c2), .val (.int r2), .val (.int c3), .val (.int r3), .val (.int (dst c0 c1 c2 c3)), .val (.int (dst r0 r1 r2 r3)), .val (.int (spn c0 c1 c2 c3)), .unset, .unset, .unset, .unset, .unset] [(.int v24), (.int v18)])
  refine Go.isub X23 hx (hb hby d2_149) rfl ?_
  refine Go.istore X23 hx (hb hby d2_150) rfl  #[.val (.int c0), .val (.int r0), .val (.int c1), .val (.int r1), .val (.int c2), .val (.int r2), .val (.int c3), .val (.int r3), .val (.int (dst c0 c1 c2 c3)), .val (.int (dst r0 r1 r2 r3)), .val (.int (spn c0 c1 c2 c3)), .val (.int (v18 - v24)), .unset, .unset, .unset, .unset] rfl ?_
  show Go p e below _ T23 (mkF m 152 #[.val (.int c0), .val (.int r0), .val (.int c1), .val (.int r1), .val (.int c2), .val (.int r2), .val (.int c3), .val (.int r3), .val (.int (dst c0 c1 c2 c3)), .val (.int (dst r0 r1 r2 r3)), .val (.int (spn c0 c1 c2 c3)), .val (.int (v18 - v24)), .unset, .unset, .unset, .unset] [])
  rw [show (v18 - v24) = (spn r0 r1 r2 r3) from by subst hv24 hv22 hv20 hv18 hv16 hv14; rfl]
  show Go p e below _ T23 (mkF m 152 #[.val (.int c0), .val (.int r0), .val (.int c1), .val (.int r1), .val (.int c2), .val (.int r2), .val (.int c3), .val (.int r3), .val (.int (dst c0 c1 c2 c3)), .val (.int (dst r0 r1 r2 r3)), .val (.int (spn c0 c1 c2 c3)), .val (.int (spn r0 r1 r2 r3)), .unset, .unset, .unset, .unset] [])
  exact rmI_c hw hx hby hml hown hZ hret hlk c0 r0 c1 r1 c2 r2 c3 r3 h0 _ X23 e23
set_option maxRecDepth 65536 in
set_option maxHeartbeats 40000000 in
theorem rmI (l : Launch) (Z : State) (a0 : Array Value) (hw : ∀ d ∈ tables_1, d.before a0 Z = true) (c0 r0 c1 r1 c2 r2 c3 r3 : Int32) (h0 : Heap)  : Pur l Z (⟨"com/example/afterstate/afterstate/connect4/BitboardHasFourPinLaw", "isLine", "(IIIIIIII)Z"⟩ : MethodName) method_4_code 16 (some .boolean) 1 15 #[(.int c0), (.int r0), (.int c1), (.int r1), (.int c2), (.int r2), (.int c3), (.int r3)] h0 (some (.int (isl c0 r0 c1 r1 c2 r2 c3 r3))) := by
  refine Ctr.of (plainFor_of_name pn_1) ?_
  have wd : ∀ {d : Jvm.Cond} (i : Nat), tables_1[i]? = some d → d.before a0 Z = true := fun i q => hw _ (List.mem_of_getElem? q)
  intro p e s m below meth c s₁ hx hby hml hown hnm hret hlk hZ X0 e0
  refine Go.cast (ef_2 m c0 r0 c1 r1 c2 r2 c3 r3) ?_
  refine Go.joinI X0 e0 ((dst c0 c1 c2 c3)) (fun z => mkF m 41 #[.val (.int c0), .val (.int r0), .val (.int c1), .val (.int r1), .val (.int c2), .val (.int r2), .val (.int c3), .val (.int r3), .unset, .unset, .unset, .unset, .unset, .unset, .unset, .unset] [(.int z)]) ?_ ?_
  · intro J1
    show Go p e below _ s₁ (mkF m 0 #[.val (.int c0), .val (.int r0), .val (.int c1), .val (.int r1), .val (.int c2), .val (.int r2), .val (.int c3), .val (.int r3), .unset, .unset, .unset, .unset, .unset, .unset, .unset, .unset] [])
    refine Go.iloadN X0 hx (hb hby d2_0) rfl rfl  ?_
    refine Go.iloadN X0 hx (hb hby d2_1) rfl rfl  ?_
    by_cases hc2 : c0 = c1
    · refine Go.icmpYes X0 hx (hb hby d2_2) rfl 40 (teq hc2).1 (by decide) (by decide) ?_
      refine Go.iconst X0 hx (hb hby d2_40) rfl (0 : Int32) rfl ?_
      exact J1 _ (0 : Int32) (if_neg fun q => q.1 hc2).symm X0 e0
    · refine Go.icmpNo X0 hx (hb hby d2_2) rfl (feq hc2).1 ?_
      refine Go.iloadN X0 hx (hb hby d2_5) rfl rfl  ?_
      refine Go.iload X0 hx (hb hby d2_6) rfl rfl  ?_
      by_cases hc3 : c0 = c2
      · refine Go.icmpYes X0 hx (hb hby d2_8) rfl 40 (teq hc3).1 (by decide) (by decide) ?_
        refine Go.iconst X0 hx (hb hby d2_40) rfl (0 : Int32) rfl ?_
        exact J1 _ (0 : Int32) (if_neg fun q => q.2.1 hc3).symm X0 e0
      · refine Go.icmpNo X0 hx (hb hby d2_8) rfl (feq hc3).1 ?_
        refine Go.iloadN X0 hx (hb hby d2_11) rfl rfl  ?_
        refine Go.iload X0 hx (hb hby d2_12) rfl rfl  ?_
        by_cases hc4 : c0 = c3
        · refine Go.icmpYes X0 hx (hb hby d2_14) rfl 40 (teq hc4).1 (by decide) (by decide) ?_
          refine Go.iconst X0 hx (hb hby d2_40) rfl (0 : Int32) rfl ?_
          exact J1 _ (0 : Int32) (if_neg fun q => q.2.2.1 hc4).symm X0 e0
        · refine Go.icmpNo X0 hx (hb hby d2_14) rfl (feq hc4).1 ?_
          refine Go.iloadN X0 hx (hb hby d2_17) rfl rfl  ?_
          refine Go.iload X0 hx (hb hby d2_18) rfl rfl  ?_
          by_cases hc5 : c1 = c2
          · refine Go.icmpYes X0 hx (hb hby d2_20) rfl 40 (teq hc5).1 (by decide) (by decide) ?_
            refine Go.iconst X0 hx (hb hby d2_40) rfl (0 : Int32) rfl ?_
            exact J1 _ (0 : Int32) (if_neg fun q => q.2.2.2.1 hc5).symm X0 e0
          · refine Go.icmpNo X0 hx (hb hby d2_20) rfl (feq hc5).1 ?_
            refine Go.iloadN X0 hx (hb hby d2_23) rfl rfl  ?_
            refine Go.iload X0 hx (hb hby d2_24) rfl rfl  ?_
            by_cases hc6 : c1 = c3
            · refine Go.icmpYes X0 hx (hb hby d2_26) rfl 40 (teq hc6).1 (by decide) (by decide) ?_
              refine Go.iconst X0 hx (hb hby d2_40) rfl (0 : Int32) rfl ?_
              exact J1 _ (0 : Int32) (if_neg fun q => q.2.2.2.2.1 hc6).symm X0 e0
            · refine Go.icmpNo X0 hx (hb hby d2_26) rfl (feq hc6).1 ?_
              refine Go.iload X0 hx (hb hby d2_29) rfl rfl  ?_
              refine Go.iload X0 hx (hb hby d2_31) rfl rfl  ?_
              by_cases hc7 : c2 = c3
              · refine Go.icmpYes X0 hx (hb hby d2_33) rfl 40 (teq hc7).1 (by decide) (by decide) ?_
                refine Go.iconst X0 hx (hb hby d2_40) rfl (0 : Int32) rfl ?_
                exact J1 _ (0 : Int32) (if_neg fun q => q.2.2.2.2.2 hc7).symm X0 e0
              · refine Go.icmpNo X0 hx (hb hby d2_33) rfl (feq hc7).1 ?_
                refine Go.iconst X0 hx (hb hby d2_36) rfl (1 : Int32) rfl ?_
                refine Go.goto X0 hx (hb hby d2_37) rfl 41 (by decide) (by decide) ?_
                exact J1 _ (1 : Int32) (if_pos ⟨hc2, hc3, hc4, hc5, hc6, hc7⟩).symm X0 e0
  intro T8 X8 e8
  show Go p e below _ T8 (mkF m 41 #[.val (.int c0), .val (.int r0), .val (.int c1), .val (.int r1), .val (.int c2), .val (.int r2), .val (.int c3), .val (.int r3), .unset, .unset, .unset, .unset, .unset, .unset, .unset, .unset] [(.int (dst c0 c1 c2 c3))])
  refine Go.istore X8 hx (hb hby d2_41) rfl  #[.val (.int c0), .val (.int r0), .val (.int c1), .val (.int r1), .val (.int c2), .val (.int r2), .val (.int c3), .val (.int r3), .val (.int (dst c0 c1 c2 c3)), .unset, .unset, .unset, .unset, .unset, .unset, .unset] rfl ?_
  refine Go.joinI X8 e8 ((dst r0 r1 r2 r3)) (fun z => mkF m 84 #[.val (.int c0), .val (.int r0), .val (.int c1), .val (.int r1), .val (.int c2), .val (.int r2), .val (.int c3), .val (.int r3), .val (.int (dst c0 c1 c2 c3)), .unset, .unset, .unset, .unset, .unset, .unset, .unset] [(.int z)]) ?_ ?_
  · intro J9
    refine Go.iloadN X8 hx (hb hby d2_43) rfl rfl  ?_
    refine Go.iloadN X8 hx (hb hby d2_44) rfl rfl  ?_
    by_cases hc10 : r0 = r1
    · refine Go.icmpYes X8 hx (hb hby d2_45) rfl 83 (teq hc10).1 (by decide) (by decide) ?_
      refine Go.iconst X8 hx (hb hby d2_83) rfl (0 : Int32) rfl ?_
      exact J9 _ (0 : Int32) (if_neg fun q => q.1 hc10).symm X8 e8
    · refine Go.icmpNo X8 hx (hb hby d2_45) rfl (feq hc10).1 ?_
      refine Go.iloadN X8 hx (hb hby d2_48) rfl rfl  ?_
      refine Go.iload X8 hx (hb hby d2_49) rfl rfl  ?_
      by_cases hc11 : r0 = r2
      · refine Go.icmpYes X8 hx (hb hby d2_51) rfl 83 (teq hc11).1 (by decide) (by decide) ?_
        refine Go.iconst X8 hx (hb hby d2_83) rfl (0 : Int32) rfl ?_
        exact J9 _ (0 : Int32) (if_neg fun q => q.2.1 hc11).symm X8 e8
      · refine Go.icmpNo X8 hx (hb hby d2_51) rfl (feq hc11).1 ?_
        refine Go.iloadN X8 hx (hb hby d2_54) rfl rfl  ?_
        refine Go.iload X8 hx (hb hby d2_55) rfl rfl  ?_
        by_cases hc12 : r0 = r3
        · refine Go.icmpYes X8 hx (hb hby d2_57) rfl 83 (teq hc12).1 (by decide) (by decide) ?_
          refine Go.iconst X8 hx (hb hby d2_83) rfl (0 : Int32) rfl ?_
          exact J9 _ (0 : Int32) (if_neg fun q => q.2.2.1 hc12).symm X8 e8
        · refine Go.icmpNo X8 hx (hb hby d2_57) rfl (feq hc12).1 ?_
          refine Go.iloadN X8 hx (hb hby d2_60) rfl rfl  ?_
          refine Go.iload X8 hx (hb hby d2_61) rfl rfl  ?_
          by_cases hc13 : r1 = r2
          · refine Go.icmpYes X8 hx (hb hby d2_63) rfl 83 (teq hc13).1 (by decide) (by decide) ?_
            refine Go.iconst X8 hx (hb hby d2_83) rfl (0 : Int32) rfl ?_
            exact J9 _ (0 : Int32) (if_neg fun q => q.2.2.2.1 hc13).symm X8 e8
          · refine Go.icmpNo X8 hx (hb hby d2_63) rfl (feq hc13).1 ?_
            refine Go.iloadN X8 hx (hb hby d2_66) rfl rfl  ?_
            refine Go.iload X8 hx (hb hby d2_67) rfl rfl  ?_
            by_cases hc14 : r1 = r3
            · refine Go.icmpYes X8 hx (hb hby d2_69) rfl 83 (teq hc14).1 (by decide) (by decide) ?_
              refine Go.iconst X8 hx (hb hby d2_83) rfl (0 : Int32) rfl ?_
              exact J9 _ (0 : Int32) (if_neg fun q => q.2.2.2.2.1 hc14).symm X8 e8
            · refine Go.icmpNo X8 hx (hb hby d2_69) rfl (feq hc14).1 ?_
              refine Go.iload X8 hx (hb hby d2_72) rfl rfl  ?_
              refine Go.iload X8 hx (hb hby d2_74) rfl rfl  ?_
              by_cases hc15 : r2 = r3
              · refine Go.icmpYes X8 hx (hb hby d2_76) rfl 83 (teq hc15).1 (by decide) (by decide) ?_
                refine Go.iconst X8 hx (hb hby d2_83) rfl (0 : Int32) rfl ?_
                exact J9 _ (0 : Int32) (if_neg fun q => q.2.2.2.2.2 hc15).symm X8 e8
              · refine Go.icmpNo X8 hx (hb hby d2_76) rfl (feq hc15).1 ?_
                refine Go.iconst X8 hx (hb hby d2_79) rfl (1 : Int32) rfl ?_
                refine Go.goto X8 hx (hb hby d2_80) rfl 84 (by decide) (by decide) ?_
                exact J9 _ (1 : Int32) (if_pos ⟨hc10, hc11, hc12, hc13, hc14, hc15⟩).symm X8 e8
  intro T16 X16 e16
  show Go p e below _ T16 (mkF m 84 #[.val (.int c0), .val (.int r0), .val (.int c1), .val (.int r1), .val (.int c2), .val (.int r2), .val (.int c3), .val (.int r3), .val (.int (dst c0 c1 c2 c3)), .unset, .unset, .unset, .unset, .unset, .unset, .unset] [(.int (dst r0 r1 r2 r3))])
  refine Go.istore X16 hx (hb hby d2_84) rfl  #[.val (.int c0), .val (.int r0), .val (.int c1), .val (.int r1), .val (.int c2), .val (.int r2), .val (.int c3), .val (.int r3), .val (.int (dst c0 c1 c2 c3)), .val (.int (dst r0 r1 r2 r3)), .unset, .unset, .unset, .unset, .unset, .unset] rfl ?_
  show Go p e below _ T16 (mkF m 86 #[.val (.int c0), .val (.int r0), .val (.int c1), .val (.int r1), .val (.int c2), .val (.int r2), .val (.int c3), .val (.int r3), .val (.int (dst c0 c1 c2 c3)), .val (.int (dst r0 r1 r2 r3)), .unset, .unset, .unset, .unset, .unset, .unset] [])
  exact rmI_b hw hx hby hml hown hZ hret hlk c0 r0 c1 r1 c2 r2 c3 r3 h0 _ X16 e16
theorem ef_0 (m : MethodId) (x0 : Int32) (x1 : Int32) (x2 : Int32) (x3 : Int32) (x4 : Int64) : entryFrame m #[(.int x0), (.int x1), (.int x2), (.int x3), (.long x4)] maxLocals = mkF m 0 #[.val (.int x0), .val (.int x1), .val (.int x2), .val (.int x3), .val (.long x4), .second, .unset, .unset, .unset, .unset, .unset, .unset, .unset, .unset, .unset, .unset, .unset, .unset, .unset, .unset, .unset, .unset, .unset, .unset, .unset, .unset, .unset, .unset] [] := by first | (simp [entryFrame, mkF, argsToLocals, Value.category, maxLocals]; done) | rfl
set_option maxRecDepth 65536 in
set_option maxHeartbeats 40000000 in
theorem rm0 (l : Launch) (Z : State) (a0 : Array Value) (hw : ∀ d ∈ tables_1, d.before a0 Z = true) (x0 : Int32) (x1 : Int32) (x2 : Int32) (x3 : Int32) (x4 : Int64) (a_DIRECTIONS : Addr) (k_DIRECTIONS : ClassId) (FF : Facts Z a_DIRECTIONS k_DIRECTIONS) : Ctr l Z x code maxLocals ret room_1 #[(.int x0), (.int x1), (.int x2), (.int x3), (.long x4)] Z.heap (fun v h L => v = some (.int 1) ∧ Fr Z.heap.size L) := by
  refine Ctr.of (plainFor_of_name pn_1) ?_
  have wd : ∀ {d : Jvm.Cond} (i : Nat), tables_1[i]? = some d → d.before a0 Z = true := fun i q => hw _ (List.mem_of_getElem? q)
  intro p e s m below meth c s₁ hx hby hml hown hnm hret hlk hZ X0 e0
  have FF' := FF
  obtain ⟨S_DIRECTIONS, V_DIRECTIONS⟩ := FF'
  have hown : s.vm.findClass "com/example/afterstate/afterstate/connect4/BitboardHasFourPinLaw" = some m.cls := hown
  have O0 := Old.start Z
  refine Go.cast (ef_0 m x0 x1 x2 x3 x4) ?_
  show Go p e below _ s₁ (mkF m 0 #[.val (.int x0), .val (.int x1), .val (.int x2), .val (.int x3), .val (.long x4), .second, .unset, .unset, .unset, .unset, .unset, .unset, .unset, .unset, .unset, .unset, .unset, .unset, .unset, .unset, .unset, .unset, .unset, .unset, .unset, .unset, .unset, .unset] [])
  refine Go.iloadN X0 hx (hb hby at_0) rfl rfl  ?_
  refine Go.ldc X0 hx hZ hown (wd 0 rfl) (hb hby at_1) rfl ?_
  refine Go.iand X0 hx (hb hby at_3) rfl ?_
  refine Go.bipush X0 hx (hb hby at_4) rfl (42 : Int32) rfl ?_
  refine Go.irem X0 hx (hb hby at_6) rfl (by decide) ?_
  refine Go.istore X0 hx (hb hby at_7) rfl  #[.val (.int x0), .val (.int x1), .val (.int x2), .val (.int x3), .val (.long x4), .second, .val (.int ((x0 &&& (2147483647 : Int32)) % (42 : Int32))), .unset, .unset, .unset, .unset, .unset, .unset, .unset, .unset, .unset, .unset, .unset, .unset, .unset, .unset, .unset, .unset, .unset, .unset, .unset, .unset, .unset] rfl ?_
  show Go p e below _ s₁ (mkF m 9 #[.val (.int x0), .val (.int x1), .val (.int x2), .val (.int x3), .val (.long x4), .second, .val (.int (ix x0)), .unset, .unset, .unset, .unset, .unset, .unset, .unset, .unset, .unset, .unset, .unset, .unset, .unset, .unset, .unset, .unset, .unset, .unset, .unset, .unset, .unset] [])
  refine Go.iloadN X0 hx (hb hby at_9) rfl rfl  ?_
  refine Go.ldc X0 hx hZ hown (wd 0 rfl) (hb hby at_10) rfl ?_
  refine Go.iand X0 hx (hb hby at_12) rfl ?_
  refine Go.bipush X0 hx (hb hby at_13) rfl (42 : Int32) rfl ?_
  refine Go.irem X0 hx (hb hby at_15) rfl (by decide) ?_
  refine Go.istore X0 hx (hb hby at_16) rfl  #[.val (.int x0), .val (.int x1), .val (.int x2), .val (.int x3), .val (.long x4), .second, .val (.int (ix x0)), .val (.int ((x1 &&& (2147483647 : Int32)) % (42 : Int32))), .unset, .unset, .unset, .unset, .unset, .unset, .unset, .unset, .unset, .unset, .unset, .unset, .unset, .unset, .unset, .unset, .unset, .unset, .unset, .unset] rfl ?_
  show Go p e below _ s₁ (mkF m 18 #[.val (.int x0), .val (.int x1), .val (.int x2), .val (.int x3), .val (.long x4), .second, .val (.int (ix x0)), .val (.int (ix x1)), .unset, .unset, .unset, .unset, .unset, .unset, .unset, .unset, .unset, .unset, .unset, .unset, .unset, .unset, .unset, .unset, .unset, .unset, .unset, .unset] [])
  refine Go.iloadN X0 hx (hb hby at_18) rfl rfl  ?_
  refine Go.ldc X0 hx hZ hown (wd 0 rfl) (hb hby at_19) rfl ?_
  refine Go.iand X0 hx (hb hby at_21) rfl ?_
  refine Go.bipush X0 hx (hb hby at_22) rfl (42 : Int32) rfl ?_
  refine Go.irem X0 hx (hb hby at_24) rfl (by decide) ?_
  refine Go.istore X0 hx (hb hby at_25) rfl  #[.val (.int x0), .val (.int x1), .val (.int x2), .val (.int x3), .val (.long x4), .second, .val (.int (ix x0)), .val (.int (ix x1)), .val (.int ((x2 &&& (2147483647 : Int32)) % (42 : Int32))), .unset, .unset, .unset, .unset, .unset, .unset, .unset, .unset, .unset, .unset, .unset, .unset, .unset, .unset, .unset, .unset, .unset, .unset, .unset] rfl ?_
  show Go p e below _ s₁ (mkF m 27 #[.val (.int x0), .val (.int x1), .val (.int x2), .val (.int x3), .val (.long x4), .second, .val (.int (ix x0)), .val (.int (ix x1)), .val (.int (ix x2)), .unset, .unset, .unset, .unset, .unset, .unset, .unset, .unset, .unset, .unset, .unset, .unset, .unset, .unset, .unset, .unset, .unset, .unset, .unset] [])
  refine Go.iloadN X0 hx (hb hby at_27) rfl rfl  ?_
  refine Go.ldc X0 hx hZ hown (wd 0 rfl) (hb hby at_28) rfl ?_
  refine Go.iand X0 hx (hb hby at_30) rfl ?_
  refine Go.bipush X0 hx (hb hby at_31) rfl (42 : Int32) rfl ?_
  refine Go.irem X0 hx (hb hby at_33) rfl (by decide) ?_
  refine Go.istore X0 hx (hb hby at_34) rfl  #[.val (.int x0), .val (.int x1), .val (.int x2), .val (.int x3), .val (.long x4), .second, .val (.int (ix x0)), .val (.int (ix x1)), .val (.int (ix x2)), .val (.int ((x3 &&& (2147483647 : Int32)) % (42 : Int32))), .unset, .unset, .unset, .unset, .unset, .unset, .unset, .unset, .unset, .unset, .unset, .unset, .unset, .unset, .unset, .unset, .unset, .unset] rfl ?_
  show Go p e below _ s₁ (mkF m 36 #[.val (.int x0), .val (.int x1), .val (.int x2), .val (.int x3), .val (.long x4), .second, .val (.int (ix x0)), .val (.int (ix x1)), .val (.int (ix x2)), .val (.int (ix x3)), .unset, .unset, .unset, .unset, .unset, .unset, .unset, .unset, .unset, .unset, .unset, .unset, .unset, .unset, .unset, .unset, .unset, .unset] [])
  refine Go.iload X0 hx (hb hby at_36) rfl rfl  ?_
  refine Go.bipush X0 hx (hb hby at_38) rfl (6 : Int32) rfl ?_
  refine Go.idiv X0 hx (hb hby at_40) rfl (by decide) ?_
  refine Go.istore X0 hx (hb hby at_41) rfl  #[.val (.int x0), .val (.int x1), .val (.int x2), .val (.int x3), .val (.long x4), .second, .val (.int (ix x0)), .val (.int (ix x1)), .val (.int (ix x2)), .val (.int (ix x3)), .val (.int ((ix x0) / (6 : Int32))), .unset, .unset, .unset, .unset, .unset, .unset, .unset, .unset, .unset, .unset, .unset, .unset, .unset, .unset, .unset, .unset, .unset] rfl ?_
  show Go p e below _ s₁ (mkF m 43 #[.val (.int x0), .val (.int x1), .val (.int x2), .val (.int x3), .val (.long x4), .second, .val (.int (ix x0)), .val (.int (ix x1)), .val (.int (ix x2)), .val (.int (ix x3)), .val (.int (cx x0)), .unset, .unset, .unset, .unset, .unset, .unset, .unset, .unset, .unset, .unset, .unset, .unset, .unset, .unset, .unset, .unset, .unset] [])
  refine Go.iload X0 hx (hb hby at_43) rfl rfl  ?_
  refine Go.bipush X0 hx (hb hby at_45) rfl (6 : Int32) rfl ?_
  refine Go.irem X0 hx (hb hby at_47) rfl (by decide) ?_
  refine Go.istore X0 hx (hb hby at_48) rfl  #[.val (.int x0), .val (.int x1), .val (.int x2), .val (.int x3), .val (.long x4), .second, .val (.int (ix x0)), .val (.int (ix x1)), .val (.int (ix x2)), .val (.int (ix x3)), .val (.int (cx x0)), .val (.int ((ix x0) % (6 : Int32))), .unset, .unset, .unset, .unset, .unset, .unset, .unset, .unset, .unset, .unset, .unset, .unset, .unset, .unset, .unset, .unset] rfl ?_
  show Go p e below _ s₁ (mkF m 50 #[.val (.int x0), .val (.int x1), .val (.int x2), .val (.int x3), .val (.long x4), .second, .val (.int (ix x0)), .val (.int (ix x1)), .val (.int (ix x2)), .val (.int (ix x3)), .val (.int (cx x0)), .val (.int (rx x0)), .unset, .unset, .unset, .unset, .unset, .unset, .unset, .unset, .unset, .unset, .unset, .unset, .unset, .unset, .unset, .unset] [])
  refine Go.iload X0 hx (hb hby at_50) rfl rfl  ?_
  refine Go.bipush X0 hx (hb hby at_52) rfl (6 : Int32) rfl ?_
  refine Go.idiv X0 hx (hb hby at_54) rfl (by decide) ?_
  refine Go.istore X0 hx (hb hby at_55) rfl  #[.val (.int x0), .val (.int x1), .val (.int x2), .val (.int x3), .val (.long x4), .second, .val (.int (ix x0)), .val (.int (ix x1)), .val (.int (ix x2)), .val (.int (ix x3)), .val (.int (cx x0)), .val (.int (rx x0)), .val (.int ((ix x1) / (6 : Int32))), .unset, .unset, .unset, .unset, .unset, .unset, .unset, .unset, .unset, .unset, .unset, .unset, .unset, .unset, .unset] rfl ?_
  show Go p e below _ s₁ (mkF m 57 #[.val (.int x0), .val (.int x1), .val (.int x2), .val (.int x3), .val (.long x4), .second, .val (.int (ix x0)), .val (.int (ix x1)), .val (.int (ix x2)), .val (.int (ix x3)), .val (.int (cx x0)), .val (.int (rx x0)), .val (.int (cx x1)), .unset, .unset, .unset, .unset, .unset, .unset, .unset, .unset, .unset, .unset, .unset, .unset, .unset, .unset, .unset] [])
  refine Go.iload X0 hx (hb hby at_57) rfl rfl  ?_
  refine Go.bipush X0 hx (hb hby at_59) rfl (6 : Int32) rfl ?_
  refine Go.irem X0 hx (hb hby at_61) rfl (by decide) ?_
  refine Go.istore X0 hx (hb hby at_62) rfl  #[.val (.int x0), .val (.int x1), .val (.int x2), .val (.int x3), .val (.long x4), .second, .val (.int (ix x0)), .val (.int (ix x1)), .val (.int (ix x2)), .val (.int (ix x3)), .val (.int (cx x0)), .val (.int (rx x0)), .val (.int (cx x1)), .val (.int ((ix x1) % (6 : Int32))), .unset, .unset, .unset, .unset, .unset, .unset, .unset, .unset, .unset, .unset, .unset, .unset, .unset, .unset] rfl ?_
  show Go p e below _ s₁ (mkF m 64 #[.val (.int x0), .val (.int x1), .val (.int x2), .val (.int x3), .val (.long x4), .second, .val (.int (ix x0)), .val (.int (ix x1)), .val (.int (ix x2)), .val (.int (ix x3)), .val (.int (cx x0)), .val (.int (rx x0)), .val (.int (cx x1)), .val (.int (rx x1)), .unset, .unset, .unset, .unset, .unset, .unset, .unset, .unset, .unset, .unset, .unset, .unset, .unset, .unset] [])
  refine Go.iload X0 hx (hb hby at_64) rfl rfl  ?_
  refine Go.bipush X0 hx (hb hby at_66) rfl (6 : Int32) rfl ?_
  refine Go.idiv X0 hx (hb hby at_68) rfl (by decide) ?_
  refine Go.istore X0 hx (hb hby at_69) rfl  #[.val (.int x0), .val (.int x1), .val (.int x2), .val (.int x3), .val (.long x4), .second, .val (.int (ix x0)), .val (.int (ix x1)), .val (.int (ix x2)), .val (.int (ix x3)), .val (.int (cx x0)), .val (.int (rx x0)), .val (.int (cx x1)), .val (.int (rx x1)), .val (.int ((ix x2) / (6 : Int32))), .unset, .unset, .unset, .unset, .unset, .unset, .unset, .unset, .unset, .unset, .unset, .unset, .unset] rfl ?_
  show Go p e below _ s₁ (mkF m 71 #[.val (.int x0), .val (.int x1), .val (.int x2), .val (.int x3), .val (.long x4), .second, .val (.int (ix x0)), .val (.int (ix x1)), .val (.int (ix x2)), .val (.int (ix x3)), .val (.int (cx x0)), .val (.int (rx x0)), .val (.int (cx x1)), .val (.int (rx x1)), .val (.int (cx x2)), .unset, .unset, .unset, .unset, .unset, .unset, .unset, .unset, .unset, .unset, .unset, .unset, .unset] [])
  refine Go.iload X0 hx (hb hby at_71) rfl rfl  ?_
  refine Go.bipush X0 hx (hb hby at_73) rfl (6 : Int32) rfl ?_
  refine Go.irem X0 hx (hb hby at_75) rfl (by decide) ?_
  refine Go.istore X0 hx (hb hby at_76) rfl  #[.val (.int x0), .val (.int x1), .val (.int x2), .val (.int x3), .val (.long x4), .second, .val (.int (ix x0)), .val (.int (ix x1)), .val (.int (ix x2)), .val (.int (ix x3)), .val (.int (cx x0)), .val (.int (rx x0)), .val (.int (cx x1)), .val (.int (rx x1)), .val (.int (cx x2)), .val (.int ((ix x2) % (6 : Int32))), .unset, .unset, .unset, .unset, .unset, .unset, .unset, .unset, .unset, .unset, .unset, .unset] rfl ?_
  show Go p e below _ s₁ (mkF m 78 #[.val (.int x0), .val (.int x1), .val (.int x2), .val (.int x3), .val (.long x4), .second, .val (.int (ix x0)), .val (.int (ix x1)), .val (.int (ix x2)), .val (.int (ix x3)), .val (.int (cx x0)), .val (.int (rx x0)), .val (.int (cx x1)), .val (.int (rx x1)), .val (.int (cx x2)), .val (.int (rx x2)), .unset, .unset, .unset, .unset, .unset, .unset, .unset, .unset, .unset, .unset, .unset, .unset] [])
  refine Go.iload X0 hx (hb hby at_78) rfl rfl  ?_
  refine Go.bipush X0 hx (hb hby at_80) rfl (6 : Int32) rfl ?_
  refine Go.idiv X0 hx (hb hby at_82) rfl (by decide) ?_
  refine Go.istore X0 hx (hb hby at_83) rfl  #[.val (.int x0), .val (.int x1), .val (.int x2), .val (.int x3), .val (.long x4), .second, .val (.int (ix x0)), .val (.int (ix x1)), .val (.int (ix x2)), .val (.int (ix x3)), .val (.int (cx x0)), .val (.int (rx x0)), .val (.int (cx x1)), .val (.int (rx x1)), .val (.int (cx x2)), .val (.int (rx x2)), .val (.int ((ix x3) / (6 : Int32))), .unset, .unset, .unset, .unset, .unset, .unset, .unset, .unset, .unset, .unset, .unset] rfl ?_
  show Go p e below _ s₁ (mkF m 85 #[.val (.int x0), .val (.int x1), .val (.int x2), .val (.int x3), .val (.long x4), .second, .val (.int (ix x0)), .val (.int (ix x1)), .val (.int (ix x2)), .val (.int (ix x3)), .val (.int (cx x0)), .val (.int (rx x0)), .val (.int (cx x1)), .val (.int (rx x1)), .val (.int (cx x2)), .val (.int (rx x2)), .val (.int (cx x3)), .unset, .unset, .unset, .unset, .unset, .unset, .unset, .unset, .unset, .unset, .unset] [])
  refine Go.iload X0 hx (hb hby at_85) rfl rfl  ?_
  refine Go.bipush X0 hx (hb hby at_87) rfl (6 : Int32) rfl ?_
  refine Go.irem X0 hx (hb hby at_89) rfl (by decide) ?_
  refine Go.istore X0 hx (hb hby at_90) rfl  #[.val (.int x0), .val (.int x1), .val (.int x2), .val (.int x3), .val (.long x4), .second, .val (.int (ix x0)), .val (.int (ix x1)), .val (.int (ix x2)), .val (.int (ix x3)), .val (.int (cx x0)), .val (.int (rx x0)), .val (.int (cx x1)), .val (.int (rx x1)), .val (.int (cx x2)), .val (.int (rx x2)), .val (.int (cx x3)), .val (.int ((ix x3) % (6 : Int32))), .unset, .unset, .unset, .unset, .unset, .unset, .unset, .unset, .unset, .unset] rfl ?_
  show Go p e below _ s₁ (mkF m 92 #[.val (.int x0), .val (.int x1), .val (.int x2), .val (.int x3), .val (.long x4), .second, .val (.int (ix x0)), .val (.int (ix x1)), .val (.int (ix x2)), .val (.int (ix x3)), .val (.int (cx x0)), .val (.int (rx x0)), .val (.int (cx x1)), .val (.int (rx x1)), .val (.int (cx x2)), .val (.int (rx x2)), .val (.int (cx x3)), .val (.int (rx x3)), .unset, .unset, .unset, .unset, .unset, .unset, .unset, .unset, .unset, .unset] [])
  refine Go.iload X0 hx (hb hby at_92) rfl rfl  ?_
  refine Go.iload X0 hx (hb hby at_94) rfl rfl  ?_
  refine Go.pureS X0 hx hZ hown (wd 1 rfl) (wd 2 rfl) (wd 3 rfl) (wd 4 rfl) (by decide) [(.int (cx x0)), (.int (rx x0))] [] (rmT l Z a0 hw (cx x0) (rx x0) Z.heap) e0 rfl (by rw [hml]; rfl) pd_1 rfl (hb hby at_96) (Nat.le_of_ble_eq_true rfl) (Nat.le_of_ble_eq_true rfl) (Nat.le_of_ble_eq_true rfl) (Nat.le_of_ble_eq_true rfl) ?_
  intro T1 X1 e1
  refine Go.iload X1 hx (hb hby at_99) rfl rfl  ?_
  refine Go.iload X1 hx (hb hby at_101) rfl rfl  ?_
  refine Go.pureS X1 hx hZ hown (wd 1 rfl) (wd 2 rfl) (wd 3 rfl) (wd 4 rfl) (by decide) [(.int (cx x1)), (.int (rx x1))] [(.long ((1 : Int64) <<< ((((7 : Int32) * (cx x0)) + (rx x0)) &&& 0x3f).toInt64))] (rmT l Z a0 hw (cx x1) (rx x1) Z.heap) e1 rfl (by rw [hml]; rfl) pd_1 rfl (hb hby at_103) (Nat.le_of_ble_eq_true rfl) (Nat.le_of_ble_eq_true rfl) (Nat.le_of_ble_eq_true rfl) (Nat.le_of_ble_eq_true rfl) ?_
  intro T2 X2 e2
  refine Go.lor X2 hx (hb hby at_106) rfl ?_
  refine Go.iload X2 hx (hb hby at_107) rfl rfl  ?_
  refine Go.iload X2 hx (hb hby at_109) rfl rfl  ?_
  refine Go.pureS X2 hx hZ hown (wd 1 rfl) (wd 2 rfl) (wd 3 rfl) (wd 4 rfl) (by decide) [(.int (cx x2)), (.int (rx x2))] [(.long (((1 : Int64) <<< ((((7 : Int32) * (cx x0)) + (rx x0)) &&& 0x3f).toInt64) ||| ((1 : Int64) <<< ((((7 : Int32) * (cx x1)) + (rx x1)) &&& 0x3f).toInt64)))] (rmT l Z a0 hw (cx x2) (rx x2) Z.heap) e2 rfl (by rw [hml]; rfl) pd_1 rfl (hb hby at_111) (Nat.le_of_ble_eq_true rfl) (Nat.le_of_ble_eq_true rfl) (Nat.le_of_ble_eq_true rfl) (Nat.le_of_ble_eq_true rfl) ?_
  intro T3 X3 e3
  refine Go.lor X3 hx (hb hby at_114) rfl ?_
  refine Go.iload X3 hx (hb hby at_115) rfl rfl  ?_
  refine Go.iload X3 hx (hb hby at_117) rfl rfl  ?_
  refine Go.pureS X3 hx hZ hown (wd 1 rfl) (wd 2 rfl) (wd 3 rfl) (wd 4 rfl) (by decide) [(.int (cx x3)), (.int (rx x3))] [(.long ((((1 : Int64) <<< ((((7 : Int32) * (cx x0)) + (rx x0)) &&& 0x3f).toInt64) ||| ((1 : Int64) <<< ((((7 : Int32) * (cx x1)) + (rx x1)) &&& 0x3f).toInt64)) ||| ((1 : Int64) <<< ((((7 : Int32) * (cx x2)) + (rx x2)) &&& 0x3f).toInt64)))] (rmT l Z a0 hw (cx x3) (rx x3) Z.heap) e3 rfl (by rw [hml]; rfl) pd_1 rfl (hb hby at_119) (Nat.le_of_ble_eq_true rfl) (Nat.le_of_ble_eq_true rfl) (Nat.le_of_ble_eq_true rfl) (Nat.le_of_ble_eq_true rfl) ?_
  intro T4 X4 e4
  refine Go.lor X4 hx (hb hby at_122) rfl ?_
  refine Go.lstore X4 hx (hb hby at_123) rfl  #[.val (.int x0), .val (.int x1), .val (.int x2), .val (.int x3), .val (.long x4), .second, .val (.int (ix x0)), .val (.int (ix x1)), .val (.int (ix x2)), .val (.int (ix x3)), .val (.int (cx x0)), .val (.int (rx x0)), .val (.int (cx x1)), .val (.int (rx x1)), .val (.int (cx x2)), .val (.int (rx x2)), .val (.int (cx x3)), .val (.int (rx x3)), .val (.long (((((1 : Int64) <<< ((((7 : Int32) * (cx x0)) + (rx x0)) &&& 0x3f).toInt64) ||| ((1 : Int64) <<< ((((7 : Int32) * (cx x1)) + (rx x1)) &&& 0x3f).toInt64)) ||| ((1 : Int64) <<< ((((7 : Int32) * (cx x2)) + (rx x2)) &&& 0x3f).toInt64)) ||| ((1 : Int64) <<< ((((7 : Int32) * (cx x3)) + (rx x3)) &&& 0x3f).toInt64))), .second, .unset, .unset, .unset, .unset, .unset, .unset, .unset, .unset] rfl ?_
  show Go p e below _ T4 (mkF m 125 #[.val (.int x0), .val (.int x1), .val (.int x2), .val (.int x3), .val (.long x4), .second, .val (.int (ix x0)), .val (.int (ix x1)), .val (.int (ix x2)), .val (.int (ix x3)), .val (.int (cx x0)), .val (.int (rx x0)), .val (.int (cx x1)), .val (.int (rx x1)), .val (.int (cx x2)), .val (.int (rx x2)), .val (.int (cx x3)), .val (.int (rx x3)), .val (.long (own4 x0 x1 x2 x3)), .second, .unset, .unset, .unset, .unset, .unset, .unset, .unset, .unset] [])
  refine Go.iload X4 hx (hb hby at_125) rfl rfl  ?_
  refine Go.iload X4 hx (hb hby at_127) rfl rfl  ?_
  refine Go.iload X4 hx (hb hby at_129) rfl rfl  ?_
  refine Go.iload X4 hx (hb hby at_131) rfl rfl  ?_
  refine Go.iload X4 hx (hb hby at_133) rfl rfl  ?_
  refine Go.iload X4 hx (hb hby at_135) rfl rfl  ?_
  refine Go.iload X4 hx (hb hby at_137) rfl rfl  ?_
  refine Go.iload X4 hx (hb hby at_139) rfl rfl  ?_
  refine Go.pureS X4 hx hZ hown (wd 5 rfl) (wd 6 rfl) (wd 3 rfl) (wd 7 rfl) (by decide) [(.int (cx x0)), (.int (rx x0)), (.int (cx x1)), (.int (rx x1)), (.int (cx x2)), (.int (rx x2)), (.int (cx x3)), (.int (rx x3))] [] (rmI l Z a0 hw (cx x0) (rx x0) (cx x1) (rx x1) (cx x2) (rx x2) (cx x3) (rx x3) Z.heap) e4 rfl (by rw [hml]; rfl) pd_2 rfl (hb hby at_141) (Nat.le_of_ble_eq_true rfl) (Nat.le_of_ble_eq_true rfl) (Nat.le_of_ble_eq_true rfl) (Nat.le_of_ble_eq_true rfl) ?_
  intro T5 X5 e5
  refine Go.istore X5 hx (hb hby at_144) rfl  #[.val (.int x0), .val (.int x1), .val (.int x2), .val (.int x3), .val (.long x4), .second, .val (.int (ix x0)), .val (.int (ix x1)), .val (.int (ix x2)), .val (.int (ix x3)), .val (.int (cx x0)), .val (.int (rx x0)), .val (.int (cx x1)), .val (.int (rx x1)), .val (.int (cx x2)), .val (.int (rx x2)), .val (.int (cx x3)), .val (.int (rx x3)), .val (.long (own4 x0 x1 x2 x3)), .second, .val (.int (isl (cx x0) (rx x0) (cx x1) (rx x1) (cx x2) (rx x2) (cx x3) (rx x3))), .unset, .unset, .unset, .unset, .unset, .unset, .unset] rfl ?_
  refine Go.ldc2_w X5 hx hZ hown (wd 15 rfl) (hb hby at_146) rfl ?_
  refine Go.lstore X5 hx (hb hby at_149) rfl  #[.val (.int x0), .val (.int x1), .val (.int x2), .val (.int x3), .val (.long x4), .second, .val (.int (ix x0)), .val (.int (ix x1)), .val (.int (ix x2)), .val (.int (ix x3)), .val (.int (cx x0)), .val (.int (rx x0)), .val (.int (cx x1)), .val (.int (rx x1)), .val (.int (cx x2)), .val (.int (rx x2)), .val (.int (cx x3)), .val (.int (rx x3)), .val (.long (own4 x0 x1 x2 x3)), .second, .val (.int (isl (cx x0) (rx x0) (cx x1) (rx x1) (cx x2) (rx x2) (cx x3) (rx x3))), .val (.long (279258638311359 : Int64)), .second, .unset, .unset, .unset, .unset, .unset] rfl ?_
  refine Go.ldc2_w X5 hx hZ hown (wd 16 rfl) (hb hby at_151) rfl ?_
  refine Go.lstore X5 hx (hb hby at_154) rfl  #[.val (.int x0), .val (.int x1), .val (.int x2), .val (.int x3), .val (.long x4), .second, .val (.int (ix x0)), .val (.int (ix x1)), .val (.int (ix x2)), .val (.int (ix x3)), .val (.int (cx x0)), .val (.int (rx x0)), .val (.int (cx x1)), .val (.int (rx x1)), .val (.int (cx x2)), .val (.int (rx x2)), .val (.int (cx x3)), .val (.int (rx x3)), .val (.long (own4 x0 x1 x2 x3)), .second, .val (.int (isl (cx x0) (rx x0) (cx x1) (rx x1) (cx x2) (rx x2) (cx x3) (rx x3))), .val (.long (279258638311359 : Int64)), .second, .val (.long (115119445691670 : Int64)), .second, .unset, .unset, .unset] rfl ?_
  refine Go.lload X5 hx (hb hby at_156) rfl rfl  ?_
  refine Go.pureS X5 hx hZ hown (wd 17 rfl) (wd 18 rfl) (wd 19 rfl) (wd 20 rfl) (by decide) [(.long (own4 x0 x1 x2 x3))] [] (rmH l Z a0 hw (own4 x0 x1 x2 x3) a_DIRECTIONS k_DIRECTIONS Z.heap O0 FF) e5 rfl (by rw [hml]; rfl) pd_3 rfl (hb hby at_158) (Nat.le_of_ble_eq_true rfl) (Nat.le_of_ble_eq_true rfl) (Nat.le_of_ble_eq_true rfl) (Nat.le_of_ble_eq_true rfl) ?_
  intro T6 X6 e6
  refine Go.iload X6 hx (hb hby at_161) rfl rfl  ?_
  refine Go.icmpNo X6 hx (hb hby at_163) rfl (teq (own_exact x0 x1 x2 x3)).2 ?_
  refine Go.iconst X6 hx (hb hby at_166) rfl (1 : Int32) rfl ?_
  refine Go.goto X6 hx (hb hby at_167) rfl 171 (by decide) (by decide) ?_
  refine Go.istore X6 hx (hb hby at_171) rfl  #[.val (.int x0), .val (.int x1), .val (.int x2), .val (.int x3), .val (.long x4), .second, .val (.int (ix x0)), .val (.int (ix x1)), .val (.int (ix x2)), .val (.int (ix x3)), .val (.int (cx x0)), .val (.int (rx x0)), .val (.int (cx x1)), .val (.int (rx x1)), .val (.int (cx x2)), .val (.int (rx x2)), .val (.int (cx x3)), .val (.int (rx x3)), .val (.long (own4 x0 x1 x2 x3)), .second, .val (.int (isl (cx x0) (rx x0) (cx x1) (rx x1) (cx x2) (rx x2) (cx x3) (rx x3))), .val (.long (279258638311359 : Int64)), .second, .val (.long (115119445691670 : Int64)), .second, .val (.int (1 : Int32)), .unset, .unset] rfl ?_
  refine Go.lload X6 hx (hb hby at_173) rfl rfl  ?_
  refine Go.lload X6 hx (hb hby at_175) rfl rfl  ?_
  refine Go.land X6 hx (hb hby at_177) rfl ?_
  refine Go.pureS X6 hx hZ hown (wd 17 rfl) (wd 18 rfl) (wd 19 rfl) (wd 20 rfl) (by decide) [(.long (x4 &&& (115119445691670 : Int64)))] [] (rmH l Z a0 hw (x4 &&& (115119445691670 : Int64)) a_DIRECTIONS k_DIRECTIONS Z.heap O0 FF) e6 rfl (by rw [hml]; rfl) pd_3 rfl (hb hby at_178) (Nat.le_of_ble_eq_true rfl) (Nat.le_of_ble_eq_true rfl) (Nat.le_of_ble_eq_true rfl) (Nat.le_of_ble_eq_true rfl) ?_
  intro T7 X7 e7
  refine Go.ifNo X7 hx (hb hby at_181) rfl ((if0 _ _).trans (teq (own_safe x4)).2) ?_
  refine Go.iconst X7 hx (hb hby at_184) rfl (1 : Int32) rfl ?_
  refine Go.goto X7 hx (hb hby at_185) rfl 189 (by decide) (by decide) ?_
  refine Go.istore X7 hx (hb hby at_189) rfl  #[.val (.int x0), .val (.int x1), .val (.int x2), .val (.int x3), .val (.long x4), .second, .val (.int (ix x0)), .val (.int (ix x1)), .val (.int (ix x2)), .val (.int (ix x3)), .val (.int (cx x0)), .val (.int (rx x0)), .val (.int (cx x1)), .val (.int (rx x1)), .val (.int (cx x2)), .val (.int (rx x2)), .val (.int (cx x3)), .val (.int (rx x3)), .val (.long (own4 x0 x1 x2 x3)), .second, .val (.int (isl (cx x0) (rx x0) (cx x1) (rx x1) (cx x2) (rx x2) (cx x3) (rx x3))), .val (.long (279258638311359 : Int64)), .second, .val (.long (115119445691670 : Int64)), .second, .val (.int (1 : Int32)), .val (.int (1 : Int32)), .unset] rfl ?_
  refine Go.iload X7 hx (hb hby at_191) rfl rfl  ?_
  by_cases hc8 : (isl (cx x0) (rx x0) (cx x1) (rx x1) (cx x2) (rx x2) (cx x3) (rx x3)) = (0 : Int32)
  · refine Go.ifYes X7 hx (hb hby at_193) rfl 210 ((if0 _ _).trans (teq hc8).1) (by decide) (by decide) ?_
    refine Go.iconst X7 hx (hb hby at_210) rfl (1 : Int32) rfl ?_
    refine Go.goto X7 hx (hb hby at_211) rfl 215 (by decide) (by decide) ?_
    refine Go.istore X7 hx (hb hby at_215) rfl  #[.val (.int x0), .val (.int x1), .val (.int x2), .val (.int x3), .val (.long x4), .second, .val (.int (ix x0)), .val (.int (ix x1)), .val (.int (ix x2)), .val (.int (ix x3)), .val (.int (cx x0)), .val (.int (rx x0)), .val (.int (cx x1)), .val (.int (rx x1)), .val (.int (cx x2)), .val (.int (rx x2)), .val (.int (cx x3)), .val (.int (rx x3)), .val (.long (own4 x0 x1 x2 x3)), .second, .val (.int (isl (cx x0) (rx x0) (cx x1) (rx x1) (cx x2) (rx x2) (cx x3) (rx x3))), .val (.long (279258638311359 : Int64)), .second, .val (.long (115119445691670 : Int64)), .second, .val (.int (1 : Int32)), .val (.int (1 : Int32)), .val (.int (1 : Int32))] rfl ?_
    refine Go.iload X7 hx (hb hby at_217) rfl rfl  ?_
    refine Go.ifNo X7 hx (hb hby at_219) rfl ((if0 _ _).trans (feq (by decide : ¬ ((1 : Int32) = (0 : Int32)))).1) ?_
    refine Go.iload X7 hx (hb hby at_222) rfl rfl  ?_
    refine Go.ifNo X7 hx (hb hby at_224) rfl ((if0 _ _).trans (feq (by decide : ¬ ((1 : Int32) = (0 : Int32)))).1) ?_
    refine Go.iload X7 hx (hb hby at_227) rfl rfl  ?_
    refine Go.ifNo X7 hx (hb hby at_229) rfl ((if0 _ _).trans (feq (by decide : ¬ ((1 : Int32) = (0 : Int32)))).1) ?_
    refine Go.iconst X7 hx (hb hby at_232) rfl (1 : Int32) rfl ?_
    refine Go.goto X7 hx (hb hby at_233) rfl 237 (by decide) (by decide) ?_
    exact Go.retZ X7 hx (z' := (1 : Int32)) hret hlk (hb hby at_237) rfl (by decide) ⟨by first | rfl | simp [hc8], (Fr.nil _)⟩ (Nat.le_of_ble_eq_true rfl) (Nat.le_of_ble_eq_true rfl)
  · refine Go.ifNo X7 hx (hb hby at_193) rfl ((if0 _ _).trans (feq hc8).1) ?_
    refine Go.lload X7 hx (hb hby at_196) rfl rfl  ?_
    refine Go.lload X7 hx (hb hby at_198) rfl rfl  ?_
    refine Go.lload X7 hx (hb hby at_200) rfl rfl  ?_
    refine Go.land X7 hx (hb hby at_202) rfl ?_
    refine Go.lor X7 hx (hb hby at_203) rfl ?_
    refine Go.pureS X7 hx hZ hown (wd 17 rfl) (wd 18 rfl) (wd 19 rfl) (wd 20 rfl) (by decide) [(.long ((own4 x0 x1 x2 x3) ||| (x4 &&& (279258638311359 : Int64))))] [] (rmH l Z a0 hw ((own4 x0 x1 x2 x3) ||| (x4 &&& (279258638311359 : Int64))) a_DIRECTIONS k_DIRECTIONS Z.heap O0 FF) e7 rfl (by rw [hml]; rfl) pd_3 rfl (hb hby at_204) (Nat.le_of_ble_eq_true rfl) (Nat.le_of_ble_eq_true rfl) (Nat.le_of_ble_eq_true rfl) (Nat.le_of_ble_eq_true rfl) ?_
    intro T9 X9 e9
    show Go p e below _ T9 (mkF m 207 #[.val (.int x0), .val (.int x1), .val (.int x2), .val (.int x3), .val (.long x4), .second, .val (.int (ix x0)), .val (.int (ix x1)), .val (.int (ix x2)), .val (.int (ix x3)), .val (.int (cx x0)), .val (.int (rx x0)), .val (.int (cx x1)), .val (.int (rx x1)), .val (.int (cx x2)), .val (.int (rx x2)), .val (.int (cx x3)), .val (.int (rx x3)), .val (.long (own4 x0 x1 x2 x3)), .second, .val (.int (isl (cx x0) (rx x0) (cx x1) (rx x1) (cx x2) (rx x2) (cx x3) (rx x3))), .val (.long (279258638311359 : Int64)), .second, .val (.long (115119445691670 : Int64)), .second, .val (.int (1 : Int32)), .val (.int (1 : Int32)), .unset] [(.int (hfv ((own4 x0 x1 x2 x3) ||| (x4 &&& (279258638311359 : Int64)))))])
    refine Go.ifNo X9 hx (hb hby at_207) rfl ((if0 _ _).trans (feq (own_sup x0 x1 x2 x3 x4 hc8)).1) ?_
    refine Go.iconst X9 hx (hb hby at_210) rfl (1 : Int32) rfl ?_
    refine Go.goto X9 hx (hb hby at_211) rfl 215 (by decide) (by decide) ?_
    refine Go.istore X9 hx (hb hby at_215) rfl  #[.val (.int x0), .val (.int x1), .val (.int x2), .val (.int x3), .val (.long x4), .second, .val (.int (ix x0)), .val (.int (ix x1)), .val (.int (ix x2)), .val (.int (ix x3)), .val (.int (cx x0)), .val (.int (rx x0)), .val (.int (cx x1)), .val (.int (rx x1)), .val (.int (cx x2)), .val (.int (rx x2)), .val (.int (cx x3)), .val (.int (rx x3)), .val (.long (own4 x0 x1 x2 x3)), .second, .val (.int (isl (cx x0) (rx x0) (cx x1) (rx x1) (cx x2) (rx x2) (cx x3) (rx x3))), .val (.long (279258638311359 : Int64)), .second, .val (.long (115119445691670 : Int64)), .second, .val (.int (1 : Int32)), .val (.int (1 : Int32)), .val (.int (1 : Int32))] rfl ?_
    refine Go.iload X9 hx (hb hby at_217) rfl rfl  ?_
    refine Go.ifNo X9 hx (hb hby at_219) rfl ((if0 _ _).trans (feq (by decide : ¬ ((1 : Int32) = (0 : Int32)))).1) ?_
    refine Go.iload X9 hx (hb hby at_222) rfl rfl  ?_
    refine Go.ifNo X9 hx (hb hby at_224) rfl ((if0 _ _).trans (feq (by decide : ¬ ((1 : Int32) = (0 : Int32)))).1) ?_
    refine Go.iload X9 hx (hb hby at_227) rfl rfl  ?_
    refine Go.ifNo X9 hx (hb hby at_229) rfl ((if0 _ _).trans (feq (by decide : ¬ ((1 : Int32) = (0 : Int32)))).1) ?_
    refine Go.iconst X9 hx (hb hby at_232) rfl (1 : Int32) rfl ?_
    refine Go.goto X9 hx (hb hby at_233) rfl 237 (by decide) (by decide) ?_
    exact Go.retZ X9 hx (z' := (1 : Int32)) hret hlk (hb hby at_237) rfl (by decide) ⟨by first | rfl | simp [hc8], (Fr.nil _)⟩ (Nat.le_of_ble_eq_true rfl) (Nat.le_of_ble_eq_true rfl)
set_option maxRecDepth 65536 in
set_option maxHeartbeats 40000000 in
theorem comes_1 {Post : Tables → Env → Array Value → State → Outcome → State → Prop} (hpost : ∀ tb e args s v u, (limb_1_1.after args s (.returned v) u = true ∧ limb_1_2.after args s (.returned v) u = true ∧ True) → FrameEnd s (.returned v) u (Jvm.fieldLocs frame_1_writes args s ++ Jvm.arrayLocs frame_1_arrays args s ++ Jvm.staticLocs frame_1_statics s) 0 0 → Post tb e args s (.returned v) u) :
    ArmFor flags0 classFile x code maxLocals ret World_1 tables_1 room_1 Calls_1 rest_1 Pre_1 Post := by
  intro l hfl _ _ p e ha hc hk s m args below hf hA hF happ hP
  obtain ⟨hcalls, hrest, hpre⟩ := hP
  obtain ⟨-, -, -, hnamed, -, -, -, hat⟩ := (Spec.applies_iff hf).mp happ
  obtain ⟨hg, hn⟩ := and_e (Cond.before_iff.mp (show (Jvm.Cond.and given_1 narrow_1).before args s = true from hpre))
  obtain ⟨gi0, gi1⟩ := and_e hg
  obtain ⟨gi2, gi3⟩ := and_e gi1
  obtain ⟨gi4, gi5⟩ := and_e gi3
  obtain ⟨gi6, gi7⟩ := and_e gi5
  obtain ⟨gi8, gi9⟩ := and_e gi7
  obtain ⟨w0, w1, w2, w3, w4, rfl⟩ : ∃ w0 w1 w2 w3 w4 : Value, args = #[w0, w1, w2, w3, w4] := by
    have hs : args.size = 5 := by simpa [Cond.value, given_1] using gi0
    obtain ⟨L⟩ := args
    match L, hs with
    | [w0, w1, w2, w3, w4], _ => exact ⟨w0, w1, w2, w3, w4, rfl⟩
  have hw := fun d (hd : d ∈ tables_1) => atoms_spec (ws := Jvm.Cond.code x code maxLocals ret :: tables_1) hat d (List.mem_cons_of_mem _ hd)
  have wd : ∀ {d : Jvm.Cond} (i : Nat), tables_1[i]? = some d → d.before _ s = true := fun i q => hw _ (List.mem_of_getElem? q)
  have hfit : Fit s := fun {y c} hc i hi => by
    obtain ⟨ha, rfl⟩ := Array.getElem?_eq_some_iff.mp hc
    have q := List.all_eq_true.mp ((Array.all_eq_true_iff_forall_mem.mp hF) _ (Array.getElem_mem ha)) i (List.mem_range.mpr hi)
    simpa [Array.getElem?_eq_getElem hi] using q
  obtain ⟨i0, ei0⟩ := is_v gi2
  obtain rfl : w0 = (.int i0) := Option.some.inj ei0
  obtain ⟨i1, ei1⟩ := is_v gi4
  obtain rfl : w1 = (.int i1) := Option.some.inj ei1
  obtain ⟨i2, ei2⟩ := is_v gi6
  obtain rfl : w2 = (.int i2) := Option.some.inj ei2
  obtain ⟨i3, ei3⟩ := is_v gi8
  obtain rfl : w3 = (.int i3) := Option.some.inj ei3
  obtain ⟨i4, ei4⟩ := isL_v gi9
  obtain rfl : w4 = (.long i4) := Option.some.inj ei4
  obtain ⟨g1, g2⟩ := and_e hn
  obtain ⟨a_DIRECTIONS, ev_DIRECTIONS⟩ := arr_v g1
  have S_DIRECTIONS : Sta s s.heap "com/example/afterstate/afterstate/connect4/Bitboard" "DIRECTIONS" "[I" (.ref a_DIRECTIONS) := Sta.start ev_DIRECTIONS (Or.inr ⟨(wd 19 rfl), (wd 22 rfl)⟩)
  obtain ⟨cl_DIRECTIONS, Ar_DIRECTIONS⟩ := Arr.start ev_DIRECTIONS g1
  obtain ⟨g3, g4⟩ := and_e g2
  have L_DIRECTIONS := own_eqv g3 (v := (.int (4 : Int32))) rfl
  obtain ⟨g5, g6⟩ := and_e g4
  have el_DIRECTIONS_0 : cl_DIRECTIONS.slots[0]? = some (.int (1 : Int32)) := own_elem Ar_DIRECTIONS ev_DIRECTIONS (j := (0 : Int32)) (by decide) (own_eqv g5 (v := (.int (1 : Int32))) rfl)
  obtain ⟨g7, g8⟩ := and_e g6
  have el_DIRECTIONS_1 : cl_DIRECTIONS.slots[1]? = some (.int (7 : Int32)) := own_elem Ar_DIRECTIONS ev_DIRECTIONS (j := (1 : Int32)) (by decide) (own_eqv g7 (v := (.int (7 : Int32))) rfl)
  obtain ⟨g9, g10⟩ := and_e g8
  have el_DIRECTIONS_2 : cl_DIRECTIONS.slots[2]? = some (.int (8 : Int32)) := own_elem Ar_DIRECTIONS ev_DIRECTIONS (j := (2 : Int32)) (by decide) (own_eqv g9 (v := (.int (8 : Int32))) rfl)
  have el_DIRECTIONS_3 : cl_DIRECTIONS.slots[3]? = some (.int (6 : Int32)) := own_elem Ar_DIRECTIONS ev_DIRECTIONS (j := (3 : Int32)) (by decide) (own_eqv g10 (v := (.int (6 : Int32))) rfl)
  have V_DIRECTIONS : Arv s s.heap a_DIRECTIONS cl_DIRECTIONS.cls .int (4 : Int32) [(.int (1 : Int32)), (.int (7 : Int32)), (.int (8 : Int32)), (.int (6 : Int32))] (.int (0 : Int32)) := Arv.start hfit Ar_DIRECTIONS (own_len Ar_DIRECTIONS ev_DIRECTIONS L_DIRECTIONS).1 (own_len Ar_DIRECTIONS ev_DIRECTIONS L_DIRECTIONS).2 (by decide) rfl ⟨el_DIRECTIONS_0, el_DIRECTIONS_1, el_DIRECTIONS_2, el_DIRECTIONS_3, trivial⟩
  obtain ⟨n, o, h1, h2, h3, _, L, rfl, ⟨rfl, N⟩, hq⟩ := rm0 l s _ hw i0 i1 i2 i3 i4 a_DIRECTIONS cl_DIRECTIONS.cls ⟨S_DIRECTIONS, V_DIRECTIONS⟩ tables_1 p e ha hc hk s m _ below hf ((Spec.applies_iff_loose hf).mp happ).1 ⟨rfl, State.Warmed39.refl s, rfl⟩ trivial
  refine ⟨n, _, h1, h2, h3, hpost _ _ _ _ _ _ ⟨Cond.after_iff.mpr rfl, Cond.after_iff.mpr (eq_i res_at (Term.int_eval (1)) rfl), trivial⟩ ⟨hq.1, hq.2.1, (hq.2.2.sift fun y hy => Or.inr (N y hy)).mono (by decide) (by decide)⟩⟩
theorem main_1_1 : Claimed_1_1 := comes_1 fun _ _ _ _ _ _ h hF => ⟨h.1, hF⟩
theorem main_1_2 : Claimed_1_2 := comes_1 fun _ _ _ _ _ _ h hF => ⟨h.2.1, hF⟩
end Jvm.Pilot.@@N@@
namespace Jvm.Pilot.@@N@@
open Jvm Jvm.ClassFile Sem Op Lib Jvm.Free Jvm.Stand Jvm.Pilot.@@N@@.Jvm.D
/-! MADE BY PROGRAM (witnessworld.py) out of the Statement's table words and the real class files: 10 classes; the members and pool entries that the words name. The judged class is class 1, her method 1. -/
namespace start1
open Jvm.ClassFile
def u (s : String) : CpInfo := .utf8 (stringToUtf16 s)
/-- a pool by its gaps: so many unusable entries, then the entry; so many at the end -/
def gap : Nat → List CpInfo → List CpInfo
  | 0, r => r
  | n + 1, r => .unusable :: gap n r
def poolList (es : List (Nat × CpInfo)) (last : Nat) : List CpInfo := es.foldr (fun e r => gap e.1 (e.2 :: r)) (gap last [])
def pool (es : List (Nat × CpInfo)) (last : Nat) : Array CpInfo := ⟨poolList es last⟩
def fileOf (pool : Array CpInfo) (this : Nat) (attrs : Array Attribute := #[]) (ms : Array MethodInfo := #[]) (fl : Nat := 33) (sup : Nat := 0) (ifs : Array Nat := #[]) (fds : Array FieldInfo := #[]) : ClassFile where
  minorVersion := 0
  majorVersion := 65
  constantPool := pool
  accessFlags := fl
  thisClass := this
  superClass := sup
  interfaces := ifs
  fields := fds
  methods := ms
  attributes := attrs
def plain (name : String) (sup : Option ClassId) : Class where
  name := name
  kind := .ordinary
  loader := none
  accessFlags := 33
  super := sup
  interfaces := #[]
  cf := none
  fields := #[]
  methods := #[]
  instanceTypes := #[]
  staticTypes := #[]
  resolved := #[]
  callSites := []
  init := .initialized
  statics := none
  mirror := none

def pool0 : Array CpInfo := pool [(5, u "<init>"), (0, u "()V"), (1, .class_ 10), (1, u "java/lang/Object")] 113

def k0m0 : Method := { name := "<init>", desc := "()V", sig := { parameters := [], returnType := none }, accessFlags := 1, code := none }
/-- java/lang/Object -/
def k0 : Class := { plain "java/lang/Object" none with
  accessFlags := 33
  interfaces := #[]
  cf := some (fileOf pool0 8 #[] #[{ accessFlags := 1, nameIndex := 5, descriptorIndex := 6, attributes := #[] }] 33 0 #[] #[])
  fields := #[]
  methods := #[k0m0]
  instanceTypes := #[]
  staticTypes := #[]
  resolved := Array.replicate 124 none
  statics := none }

def pool1 : Array CpInfo := pool [(2, .class_ 4), (1, u "java/lang/Object"), (0, u "<init>"), (0, u "()V"), (0, .integer 2147483647), (0, .methodref 9 10), (0, .class_ 11), (0, .nameAndType 12 13), (0, u "com/example/afterstate/afterstate/connect4/BitboardHasFourPinLaw"), (0, u "bit"), (0, u "(II)J"), (0, .methodref 9 15), (0, .nameAndType 16 17), (0, u "isLine"), (0, u "(IIIIIIII)Z"), (0, .long 279258638311359), (1, .long 115119445691670), (1, .methodref 23 24), (0, .class_ 25), (0, .nameAndType 26 27), (0, u "com/example/afterstate/afterstate/connect4/Bitboard"), (0, u "hasFour"), (0, u "(J)Z"), (0, .methodref 29 30), (0, .class_ 31), (0, .nameAndType 32 33), (0, u "java/lang/Math"), (0, u "max"), (0, u "(II)I"), (0, .methodref 29 35), (0, .nameAndType 36 33), (0, u "min"), (2, u "law"), (0, u "(IIIIJ)Z")] 3

def k1m0 : Method := { name := "<init>", desc := "()V", sig := { parameters := [], returnType := none }, accessFlags := 2, code := none }
def k1c1 : Code := { maxStack := 8, maxLocals := 28, code := code, exceptionTable := #[], attributes := #[] }
def k1m1 : Method := { name := "law", desc := "(IIIIJ)Z", sig := { parameters := [.int, .int, .int, .int, .long], returnType := some .boolean }, accessFlags := 9, code := some k1c1 }
def k1c2 : Code := { maxStack := 4, maxLocals := 2, code := method_3_code, exceptionTable := #[], attributes := #[] }
def k1m2 : Method := { name := "bit", desc := "(II)J", sig := { parameters := [.int, .int], returnType := some .long }, accessFlags := 10, code := some k1c2 }
def k1c3 : Code := { maxStack := 4, maxLocals := 16, code := method_4_code, exceptionTable := #[], attributes := #[] }
def k1m3 : Method := { name := "isLine", desc := "(IIIIIIII)Z", sig := { parameters := [.int, .int, .int, .int, .int, .int, .int, .int], returnType := some .boolean }, accessFlags := 10, code := some k1c3 }
/-- com/example/afterstate/afterstate/connect4/BitboardHasFourPinLaw -/
def k1 : Class := { plain "com/example/afterstate/afterstate/connect4/BitboardHasFourPinLaw" (some 0) with
  accessFlags := 49
  interfaces := #[]
  cf := some (fileOf pool1 9 #[] #[{ accessFlags := 2, nameIndex := 5, descriptorIndex := 6, attributes := #[] }, { accessFlags := 9, nameIndex := 39, descriptorIndex := 40, attributes := #[] }, { accessFlags := 10, nameIndex := 12, descriptorIndex := 13, attributes := #[] }, { accessFlags := 10, nameIndex := 16, descriptorIndex := 17, attributes := #[] }] 49 2 #[] #[])
  fields := #[]
  methods := #[k1m0, k1m1, k1m2, k1m3]
  instanceTypes := #[]
  staticTypes := #[]
  resolved := Array.replicate 44 none
  statics := none }

def pool2 : Array CpInfo := pool [(1, .class_ 2), (0, u "java/lang/Math"), (1, .class_ 6), (1, u "java/lang/Object"), (0, u "<init>"), (0, u "()V"), (89, .class_ 100), (1, u "java/lang/Math$RandomNumberGeneratorHolder"), (71, u "negativeZeroFloatBits"), (0, u "J"), (2, u "negativeZeroDoubleBits"), (21, u "max"), (2, u "min"), (43, u "$assertionsDisabled"), (0, u "Z"), (88, u "(II)I"), (2, u "twoToTheDoubleScaleDown"), (0, u "D"), (4, u "twoToTheDoubleScaleUp"), (9, u "E"), (3, u "PI"), (2, u "TAU"), (2, u "DEGREES_TO_RADIANS"), (0, u "RADIANS_TO_DEGREES")] 94

def k2m0 : Method := { name := "<init>", desc := "()V", sig := { parameters := [], returnType := none }, accessFlags := 2, code := none }
def k2c1 : Code := { maxStack := 2, maxLocals := 2, code := jdk_29_method_65_code, exceptionTable := #[], attributes := #[] }
def k2m1 : Method := { name := "max", desc := "(II)I", sig := { parameters := [.int, .int], returnType := some .int }, accessFlags := 9, code := some k2c1 }
def k2c2 : Code := { maxStack := 2, maxLocals := 2, code := jdk_29_method_69_code, exceptionTable := #[], attributes := #[] }
def k2m2 : Method := { name := "min", desc := "(II)I", sig := { parameters := [.int, .int], returnType := some .int }, accessFlags := 9, code := some k2c2 }
/-- java/lang/Math -/
def k2 : Class := { plain "java/lang/Math" (some 0) with
  accessFlags := 49
  interfaces := #[]
  cf := some (fileOf pool2 1 #[.nestMembers #[98]] #[{ accessFlags := 2, nameIndex := 7, descriptorIndex := 8, attributes := #[] }, { accessFlags := 9, nameIndex := 198, descriptorIndex := 335, attributes := #[] }, { accessFlags := 9, nameIndex := 201, descriptorIndex := 335, attributes := #[] }] 49 4 #[] #[{ accessFlags := 25, nameIndex := 354, descriptorIndex := 339, attributes := #[] }, { accessFlags := 25, nameIndex := 358, descriptorIndex := 339, attributes := #[] }, { accessFlags := 25, nameIndex := 361, descriptorIndex := 339, attributes := #[] }, { accessFlags := 26, nameIndex := 364, descriptorIndex := 339, attributes := #[] }, { accessFlags := 26, nameIndex := 365, descriptorIndex := 339, attributes := #[] }, { accessFlags := 26, nameIndex := 172, descriptorIndex := 173, attributes := #[] }, { accessFlags := 26, nameIndex := 176, descriptorIndex := 173, attributes := #[] }, { accessFlags := 8, nameIndex := 344, descriptorIndex := 339, attributes := #[] }, { accessFlags := 8, nameIndex := 338, descriptorIndex := 339, attributes := #[] }, { accessFlags := 4120, nameIndex := 245, descriptorIndex := 246, attributes := #[] }])
  fields := #[{ name := "E", type := .double, accessFlags := 25, slot := 0, constantValue := 0 }, { name := "PI", type := .double, accessFlags := 25, slot := 1, constantValue := 0 }, { name := "TAU", type := .double, accessFlags := 25, slot := 2, constantValue := 0 }, { name := "DEGREES_TO_RADIANS", type := .double, accessFlags := 26, slot := 3, constantValue := 0 }, { name := "RADIANS_TO_DEGREES", type := .double, accessFlags := 26, slot := 4, constantValue := 0 }, { name := "negativeZeroFloatBits", type := .long, accessFlags := 26, slot := 5, constantValue := 0 }, { name := "negativeZeroDoubleBits", type := .long, accessFlags := 26, slot := 6, constantValue := 0 }, { name := "twoToTheDoubleScaleUp", type := .double, accessFlags := 8, slot := 7, constantValue := 0 }, { name := "twoToTheDoubleScaleDown", type := .double, accessFlags := 8, slot := 8, constantValue := 0 }, { name := "$assertionsDisabled", type := .boolean, accessFlags := 4120, slot := 9, constantValue := 0 }]
  methods := #[k2m0, k2m1, k2m2]
  instanceTypes := #[]
  staticTypes := #[.double, .double, .double, .double, .double, .long, .long, .double, .double, .boolean]
  resolved := Array.replicate 460 none
  statics := none }

def pool3 : Array CpInfo := pool [(4, .class_ 6), (1, u "java/lang/Object"), (0, u "<init>"), (0, u "()V"), (0, .class_ 10), (0, u "com/example/afterstate/afterstate/connect4/Bitboard"), (4, u "BOTTOM"), (0, u "J"), (2, u "BOARD"), (0, .fieldref 9 21), (0, .nameAndType 22 23), (0, u "DIRECTIONS"), (0, u "[I"), (10, u "HEIGHT"), (0, u "I"), (2, u "COLUMN"), (6, u "hasFour"), (0, u "(J)Z")] 9

def k3m0 : Method := { name := "<init>", desc := "()V", sig := { parameters := [], returnType := none }, accessFlags := 2, code := none }
def k3c1 : Code := { maxStack := 6, maxLocals := 8, code := prog_22_method_5_code, exceptionTable := #[], attributes := #[] }
def k3m1 : Method := { name := "hasFour", desc := "(J)Z", sig := { parameters := [.long], returnType := some .boolean }, accessFlags := 8, code := some k3c1 }
/-- com/example/afterstate/afterstate/connect4/Bitboard -/
def k3 : Class := { plain "com/example/afterstate/afterstate/connect4/Bitboard" (some 0) with
  accessFlags := 32
  interfaces := #[]
  cf := some (fileOf pool3 9 #[] #[{ accessFlags := 2, nameIndex := 7, descriptorIndex := 8, attributes := #[] }, { accessFlags := 8, nameIndex := 45, descriptorIndex := 46, attributes := #[] }] 32 4 #[] #[{ accessFlags := 24, nameIndex := 34, descriptorIndex := 35, attributes := #[] }, { accessFlags := 24, nameIndex := 15, descriptorIndex := 16, attributes := #[] }, { accessFlags := 24, nameIndex := 19, descriptorIndex := 16, attributes := #[] }, { accessFlags := 26, nameIndex := 38, descriptorIndex := 16, attributes := #[] }, { accessFlags := 26, nameIndex := 22, descriptorIndex := 23, attributes := #[] }])
  fields := #[{ name := "HEIGHT", type := .int, accessFlags := 24, slot := 0, constantValue := 0 }, { name := "BOTTOM", type := .long, accessFlags := 24, slot := 1, constantValue := 0 }, { name := "BOARD", type := .long, accessFlags := 24, slot := 2, constantValue := 0 }, { name := "COLUMN", type := .long, accessFlags := 26, slot := 3, constantValue := 0 }, { name := "DIRECTIONS", type := (.array .int), accessFlags := 26, slot := 4, constantValue := 0 }]
  methods := #[k3m0, k3m1]
  instanceTypes := #[]
  staticTypes := #[.int, .long, .long, .long, (.array .int)]
  resolved := Array.replicate 56 none
  statics := some 0 }

def pool4 : Array CpInfo := pool [(1, u "java/lang/Cloneable"), (0, .class_ 1), (0, u "java/lang/Object"), (0, .class_ 3)] 3

/-- java/lang/Cloneable -/
def k4 : Class := { plain "java/lang/Cloneable" (some 0) with
  accessFlags := 1537
  interfaces := #[]
  cf := some (fileOf pool4 2 #[] #[] 1537 4 #[] #[])
  fields := #[]
  methods := #[]
  instanceTypes := #[]
  staticTypes := #[]
  resolved := Array.replicate 8 none
  statics := none }

def pool5 : Array CpInfo := pool [(1, u "java/io/Serializable"), (0, .class_ 1), (0, u "java/lang/Object"), (0, .class_ 3)] 3

/-- java/io/Serializable -/
def k5 : Class := { plain "java/io/Serializable" (some 0) with
  accessFlags := 1537
  interfaces := #[]
  cf := some (fileOf pool5 2 #[] #[] 1537 4 #[] #[])
  fields := #[]
  methods := #[]
  instanceTypes := #[]
  staticTypes := #[]
  resolved := Array.replicate 8 none
  statics := none }

/-- the primitive byte -/
def k6 : Class := { plain "byte" none with kind := .primitive 'B', accessFlags := 0x411 }
/-- [B -/
def k7 : Class := { plain "[B" (some 0) with kind := .array 6 .byte, interfaces := #[4, 5], accessFlags := 1041 }

/-- the primitive int -/
def k8 : Class := { plain "int" none with kind := .primitive 'I', accessFlags := 0x411 }
/-- [I -/
def k9 : Class := { plain "[I" (some 0) with kind := .array 8 .int, interfaces := #[4, 5], accessFlags := 1041 }

def heap : Heap := #[{ cls := 3, slots := #[.int 0, .long 0, .long 0, .long 0, .ref 1], vm := .statics 3 },
  { cls := 9, slots := #[.int 1, .int 7, .int 8, .int 6], vm := .none }]
def classes : Array Class := #[k0, k1, k2, k3, k4, k5, k6, k7, k8, k9]
def interned : List (Array UInt16 × Addr) := []
def slotsUsed : Nat := 9
def theMethod : MethodId := ⟨1, 1⟩
def args0 : Array Value := #[.int 1, .int 2, .int 3, .int 4, .long 77]
def aboutOver (below : List Frame) : State where
  vm := { classes := classes, interned := interned.toArray }
  heap := heap
  slotsUsed := slotsUsed
  threads := #[{ frames := .invoking theMethod args0 :: below }]
def below0 : List Frame := [.native { method := ⟨0, 0⟩, args := #[] }]
def about1 : State := aboutOver below0
def p0 : Program := .bare "" "" ""
def e0 : Env := launch0.env 0 0 0
theorem w_frames : about1.frames = Frame.invoking theMethod args0 :: below0 := rfl
set_option maxRecDepth 65536 in
theorem w_args : argsFit about1.vm theMethod args0 = true := by decide +kernel
set_option maxRecDepth 65536 in
theorem w_heap : heapFits about1 = true := by decide +kernel
set_option maxRecDepth 65536 in
theorem w_runnable : about1.curStatus? = some .runnable := by decide +kernel
set_option maxRecDepth 65536 in
theorem w_alone : about1.alone = true := by decide +kernel
set_option maxRecDepth 65536 in
theorem w_named : about1.methodNamed? x = some theMethod := by decide +kernel
set_option maxRecDepth 65536 in
theorem w_hears : about1.hears theMethod below0 = true := by decide +kernel
set_option maxRecDepth 65536 in
theorem w_ripe : about1.ripe theMethod args0 below0 = true := by decide +kernel
theorem w_running : about1.status = .running := rfl
set_option maxRecDepth 65536 in
theorem w_room : about1.hasRoom e0.platform room_1 = true :=
  launch0.hasRoom_least _ room_1 (by decide +kernel) (by decide +kernel) (by decide +kernel) (by decide +kernel) (by decide +kernel) (by decide +kernel)
theorem allAtoms_all (ts : List Jvm.Cond) (a : Array Jvm.Value) (st : Jvm.State) : (allAtoms ts).before a st = ts.all (fun c => c.before a st) := by
  induction ts with
  | nil => rfl
  | cons c t ih =>
    show (Jvm.Cond.and c (allAtoms t)).before a st = _
    rw [Jvm.Cond.before_and, ih, List.all_cons]
def words1 : List Jvm.Cond := Jvm.Cond.code x code maxLocals ret :: tables_1
/-- a 'code' word, met by the world's own term for the bytes: nothing is compared byte by byte -/
theorem code_word {y : MethodName} {bytes : ByteArray} {mx : Nat} {rt : Option FieldType} {a : Array Value} {s : State} {m : MethodId} {meth : Method} {c : Code} (h1 : s.methodNamed? y = some m) (h2 : s.vm.method? m = some meth) (h3 : meth.code = some c) (h4 : c.code = bytes)
    (h5 : (c.maxLocals == mx && c.exceptionTable.isEmpty && decide (c.maxStack ≤ mostOperands) && decide (meth.sig.returnType = rt) && !meth.locks && decide (parseMethodDescriptor y.desc = some meth.sig)) = true) : (Jvm.Cond.code y bytes mx rt).before a s = true := by
  simp only [Bool.and_eq_true, beq_iff_eq, Bool.not_eq_true', decide_eq_true_eq] at h5
  obtain ⟨⟨⟨⟨⟨g1, g2⟩, g3⟩, g4⟩, g5⟩, g6⟩ := h5
  simp [Cond.before, Cond.holds, Cond.value, h1, h2, h3, h4, g1, g2, g3, g4, g5, g6]
def isCode : Jvm.Cond → Bool
  | .code _ _ _ _ => true
  | _ => false
theorem all_split {L : List Jvm.Cond} {P : Jvm.Cond → Bool} (h1 : L.all (fun c => isCode c || P c) = true) (h2 : ∀ c ∈ L.filter isCode, P c = true) : L.all P = true := by
  refine List.all_eq_true.mpr fun c hc => ?_
  have h := List.all_eq_true.mp h1 c hc
  rcases Bool.eq_false_or_eq_true (isCode c) with hi | hi
  · exact h2 c (List.mem_filter.mpr ⟨hc, hi⟩)
  · simpa [hi] using h
set_option maxRecDepth 65536 in
theorem w_c0 : (Jvm.Cond.code x code maxLocals ret).before args0 about1 = true := code_word (m := ⟨1, 1⟩) (meth := k1m1) (c := k1c1) (by decide +kernel) rfl rfl rfl (by decide +kernel)
set_option maxRecDepth 65536 in
theorem w_c1 : (Jvm.Cond.code ({ cls := "com/example/afterstate/afterstate/connect4/BitboardHasFourPinLaw", name := "bit", desc := "(II)J" } : Jvm.MethodName) method_3_code (2 : Nat) (Option.some Jvm.ClassFile.FieldType.long)).before args0 about1 = true := code_word (m := ⟨1, 2⟩) (meth := k1m2) (c := k1c2) (by decide +kernel) rfl rfl rfl (by decide +kernel)
set_option maxRecDepth 65536 in
theorem w_c2 : (Jvm.Cond.code ({ cls := "com/example/afterstate/afterstate/connect4/BitboardHasFourPinLaw", name := "isLine", desc := "(IIIIIIII)Z" } : Jvm.MethodName) method_4_code (16 : Nat) (Option.some Jvm.ClassFile.FieldType.boolean)).before args0 about1 = true := code_word (m := ⟨1, 3⟩) (meth := k1m3) (c := k1c3) (by decide +kernel) rfl rfl rfl (by decide +kernel)
set_option maxRecDepth 65536 in
theorem w_c3 : (Jvm.Cond.code ({ cls := "java/lang/Math", name := "max", desc := "(II)I" } : Jvm.MethodName) jdk_29_method_65_code (2 : Nat) (Option.some Jvm.ClassFile.FieldType.int)).before args0 about1 = true := code_word (m := ⟨2, 1⟩) (meth := k2m1) (c := k2c1) (by decide +kernel) rfl rfl rfl (by decide +kernel)
set_option maxRecDepth 65536 in
theorem w_c4 : (Jvm.Cond.code ({ cls := "java/lang/Math", name := "min", desc := "(II)I" } : Jvm.MethodName) jdk_29_method_69_code (2 : Nat) (Option.some Jvm.ClassFile.FieldType.int)).before args0 about1 = true := code_word (m := ⟨2, 2⟩) (meth := k2m2) (c := k2c2) (by decide +kernel) rfl rfl rfl (by decide +kernel)
set_option maxRecDepth 65536 in
theorem w_c5 : (Jvm.Cond.code ({ cls := "com/example/afterstate/afterstate/connect4/Bitboard", name := "hasFour", desc := "(J)Z" } : Jvm.MethodName) prog_22_method_5_code (8 : Nat) (Option.some Jvm.ClassFile.FieldType.boolean)).before args0 about1 = true := code_word (m := ⟨3, 1⟩) (meth := k3m1) (c := k3c1) (by decide +kernel) rfl rfl rfl (by decide +kernel)
def codes1 : List Jvm.Cond := [Jvm.Cond.code x code maxLocals ret, Jvm.Cond.code ({ cls := "com/example/afterstate/afterstate/connect4/BitboardHasFourPinLaw", name := "bit", desc := "(II)J" } : Jvm.MethodName) method_3_code (2 : Nat) (Option.some Jvm.ClassFile.FieldType.long), Jvm.Cond.code ({ cls := "com/example/afterstate/afterstate/connect4/BitboardHasFourPinLaw", name := "isLine", desc := "(IIIIIIII)Z" } : Jvm.MethodName) method_4_code (16 : Nat) (Option.some Jvm.ClassFile.FieldType.boolean), Jvm.Cond.code ({ cls := "java/lang/Math", name := "max", desc := "(II)I" } : Jvm.MethodName) jdk_29_method_65_code (2 : Nat) (Option.some Jvm.ClassFile.FieldType.int), Jvm.Cond.code ({ cls := "java/lang/Math", name := "min", desc := "(II)I" } : Jvm.MethodName) jdk_29_method_69_code (2 : Nat) (Option.some Jvm.ClassFile.FieldType.int), Jvm.Cond.code ({ cls := "com/example/afterstate/afterstate/connect4/Bitboard", name := "hasFour", desc := "(J)Z" } : Jvm.MethodName) prog_22_method_5_code (8 : Nat) (Option.some Jvm.ClassFile.FieldType.boolean)]
set_option maxRecDepth 65536 in
theorem codes_eq : words1.filter isCode = codes1 := rfl
theorem w_codes : ∀ c ∈ words1.filter isCode, c.before args0 about1 = true := by
  rw [codes_eq]
  intro c hc
  simp only [codes1, List.mem_cons, List.not_mem_nil, or_false] at hc
  rcases hc with rfl | rfl | rfl | rfl | rfl | rfl
  · exact w_c0
  · exact w_c1
  · exact w_c2
  · exact w_c3
  · exact w_c4
  · exact w_c5
set_option maxRecDepth 65536 in
theorem w_t1 : words1.all (fun c => isCode c || c.before args0 about1) = true := by decide +kernel
theorem w_tables : (allAtoms (Jvm.Cond.code x code maxLocals ret :: tables_1)).before args0 about1 = true := by
  rw [allAtoms_all]
  show words1.all (fun c => c.before args0 about1) = true
  refine all_split ?_ w_codes
  rw [w_t1]
set_option maxRecDepth 65536 in
theorem w_case : (Jvm.Cond.and given_1 narrow_1).before args0 about1 = true := by decide +kernel
theorem w_applies : (headSpec (Jvm.Cond.code x code maxLocals ret :: tables_1) room_1).applies x e0.platform about1 = true :=
  (Spec.applies_iff w_frames).mpr ⟨w_running, w_runnable, w_alone, w_named, w_hears, w_ripe, w_room, w_tables⟩
theorem atStart : AtStart classFile x code maxLocals ret World_1 tables_1 room_1 Calls_1 rest_1 Pre_1 launch0 p0 e0 about1 theMethod args0 below0 :=
  ⟨lists_1, trivial, launch0.admits_env _ _ _, launch0.least_env, fairChoices_fair.cas, fairChoices_fair.clock, w_frames, w_args, w_heap, w_applies, trivial, trivial, w_case⟩
end start1
theorem witness_1 : WitnessClaimed_1 := ⟨start1.p0, start1.e0, start1.about1, start1.theMethod, start1.args0, start1.below0, start1.atStart⟩
end Jvm.Pilot.@@N@@
