import JvmDerived
import JvmDerived.Pilot.@@N@@Statement
import JvmDerived.Pilot.@@N@@Code
set_option linter.unusedVariables false
set_option linter.unusedSimpArgs false
@@BLOCK:NumsL.lean.txt@@
namespace Jvm.Pilot.@@N@@
open Jvm Jvm.ClassFile Sem Op Lib Jvm.Free Jvm.Stand Jvm.LawKit Jvm.RoadKit Bundle Jvm.Pilot.@@N@@.Jvm.D
/-! OWN: the walks' own small calculus: 'Go' says that the run, standing in T with the top frame g, comes to an end that answers; every step carries a Go at the next place back to a Go at this one, so that a walk may fork and join. -/
section Own
variable {p : Program} {l : Launch} {e : Env} {R : Room} {s Z : State} {m : MethodId} {args a0 : Array Value} {below : List Frame} {meth : Method} {c : Code} {T : State} {locs : List Loc} {cells slots : Nat} {h : Heap} {P : Outcome → State → Prop}
/-- what a body must come to -/
def OwnEnd (Q : Option Value → Heap → List Loc → Prop) (s : State) (k n : Nat) (o : Outcome) (t : State) : Prop := ∃ v L, o = .returned v ∧ Q v t.heap L ∧ FrameEnd s o t L k n
def Go (p : Program) (e : Env) (below : List Frame) (P : Outcome → State → Prop) (T : State) (g : JFrame) : Prop := ∃ t o, Steps p.tables e below (T.setTop g) t ∧ t.status = .running ∧ Ended t below o ∧ P o t
theorem Go.of {T' : State} {g g' : JFrame} (k : ∀ t, Steps p.tables e below (T'.setTop g') t → Steps p.tables e below (T.setTop g) t) (K : Go p e below P T' g') : Go p e below P T g := by
  obtain ⟨t, o, h1, h2⟩ := K
  exact ⟨t, o, k t h1, h2⟩
theorem Go.joinI {g : JFrame} (X : Stand p l e R s m args below meth c T locs cells slots) (eT : T.heap = h) (v0 : Int32) (g1 : Int32 → JFrame) (K : (∀ (T' : State) (v : Int32), v = v0 → Stand p l e R s m args below meth c T' locs cells slots → T'.heap = h → Go p e below P T' (g1 v)) → Go p e below P T g)
    (J : ∀ T', Stand p l e R s m args below meth c T' locs cells slots → T'.heap = h → Go p e below P T' (g1 v0)) : Go p e below P T g := K fun T' v q X' e' => q ▸ J T' X' e'
theorem Go.joinJ {g : JFrame} (X : Stand p l e R s m args below meth c T locs cells slots) (eT : T.heap = h) (v0 : Int64) (g1 : Int64 → JFrame) (K : (∀ (T' : State) (v : Int64), v = v0 → Stand p l e R s m args below meth c T' locs cells slots → T'.heap = h → Go p e below P T' (g1 v)) → Go p e below P T g)
    (J : ∀ T', Stand p l e R s m args below meth c T' locs cells slots → T'.heap = h → Go p e below P T' (g1 v0)) : Go p e below P T g := K fun T' v q X' e' => q ▸ J T' X' e'
theorem Go.joinR {g : JFrame} (X : Stand p l e R s m args below meth c T locs cells slots) (eT : T.heap = h) (v0 : Addr) (g1 : Addr → JFrame) (K : (∀ (T' : State) (v : Addr), v = v0 → Stand p l e R s m args below meth c T' locs cells slots → T'.heap = h → Go p e below P T' (g1 v)) → Go p e below P T g)
    (J : ∀ T', Stand p l e R s m args below meth c T' locs cells slots → T'.heap = h → Go p e below P T' (g1 v0)) : Go p e below P T g := K fun T' v q X' e' => q ▸ J T' X' e'
theorem Go.cast {g g' : JFrame} (q : g = g') (K : Go p e below P T g') : Go p e below P T g := q ▸ K
theorem Go.leave (X : Stand p l e R s m args below meth c T locs cells slots) {g : JFrame} {v : Option Value} (hv : meth.sig.returnType = none → v = none) (hlk : meth.locks = false) {Q : Option Value → Heap → List Loc → Prop} {k n : Nat} (hc : cells ≤ k) (hs : slots ≤ n) (hQ : Q v T.heap locs)
    (st : ∀ fs, (∀ (f : JFrame) (acts : List Action), f.method = m → f.locked = none → f.entered = [] → (doReturn e (T.setTop f) acts v).1 = T.setFrames fs) → Steps p.tables e below (T.setTop g) (T.setFrames fs)) : Go p e below (OwnEnd Q s k n) T g := by
  obtain ⟨fs, hr, hrun, hended, hW, hsame⟩ := X.leave hv hlk
  exact ⟨_, _, st fs hr, hrun, hended, _, _, rfl, hQ, ⟨_, rfl⟩, hW, hsame.mono hc hs⟩
theorem Go.retZ (X : Stand p l e R s m args below meth c T locs cells slots) (hx : p.tables.exec = Jvm.exec) {pc pc0 : Nat} {Ls : Array Slot} {z z' : Int32} {rest : List Value} (hret : meth.sig.returnType = some .boolean) (hlk : meth.locks = false) (hd : decode c.code pc0 = .ok (.ireturn, 1)) (hpc : pc = pc0) {Q : Option Value → Heap → List Loc → Prop} {k n : Nat}
    (hz : z &&& 1 = z') (hQ : Q (some (.int z')) T.heap locs) (hc : cells ≤ k) (hs : slots ≤ n) : Go p e below (OwnEnd Q s k n) T (mkF m pc Ls (.int z :: rest)) := by
  subst hz hpc
  exact Go.leave X (v := some (.int (nar .boolean z))) (fun q => by rw [hret] at q; cases q) hlk hc hs hQ fun fs hr => retN X hx (t := .boolean) hret (by simp) hd hr
theorem Go.retW (X : Stand p l e R s m args below meth c T locs cells slots) (hx : p.tables.exec = Jvm.exec) {pc pc0 : Nat} {Ls : Array Slot} {w : Value} {t : FieldType} {i : Instr} {rest : List Value} (hret : meth.sig.returnType = some t) (hlk : meth.locks = false) (hn : narrow t w = w)
    (hi : (i = .ireturn ∧ (t = .int ∨ t = .boolean ∨ t = .byte ∨ t = .char ∨ t = .short) ∧ ∃ z, w = .int z) ∨ (i = .lreturn ∧ t = .long ∧ ∃ z, w = .long z) ∨ (i = .dreturn ∧ t = .double ∧ ∃ z, w = .double z) ∨ (i = .freturn ∧ t = .float ∧ ∃ z, w = .float z) ∨ (i = .areturn ∧ t.isReference = true ∧ w.isRef = true))
    (hd : decode c.code pc0 = .ok (i, 1)) (hpc : pc = pc0) {Q : Option Value → Heap → List Loc → Prop} {k n : Nat} (hQ : Q (some w) T.heap locs) (hc : cells ≤ k) (hs : slots ≤ n) : Go p e below (OwnEnd Q s k n) T (mkF m pc Ls (w :: rest)) := by
  subst hpc
  exact Go.leave X (v := some w) (fun q => by rw [hret] at q; cases q) hlk hc hs hQ fun fs hr => retOut X hx hret hn hi hd hr
theorem Go.retI (X : Stand p l e R s m args below meth c T locs cells slots) (hx : p.tables.exec = Jvm.exec) {pc pc0 : Nat} {Ls : Array Slot} {z : Int32} {rest : List Value} (hret : meth.sig.returnType = some .int) (hlk : meth.locks = false) (hd : decode c.code pc0 = .ok (.ireturn, 1)) (hpc : pc = pc0) {Q : Option Value → Heap → List Loc → Prop} {k n : Nat}
    (hQ : Q (some (.int z)) T.heap locs) (hc : cells ≤ k) (hs : slots ≤ n) : Go p e below (OwnEnd Q s k n) T (mkF m pc Ls (.int z :: rest)) := Go.retW X hx hret hlk rfl (Or.inl ⟨rfl, Or.inl rfl, _, rfl⟩) hd hpc hQ hc hs
theorem Go.retJ (X : Stand p l e R s m args below meth c T locs cells slots) (hx : p.tables.exec = Jvm.exec) {pc pc0 : Nat} {Ls : Array Slot} {z : Int64} {rest : List Value} (hret : meth.sig.returnType = some .long) (hlk : meth.locks = false) (hd : decode c.code pc0 = .ok (.lreturn, 1)) (hpc : pc = pc0) {Q : Option Value → Heap → List Loc → Prop} {k n : Nat}
    (hQ : Q (some (.long z)) T.heap locs) (hc : cells ≤ k) (hs : slots ≤ n) : Go p e below (OwnEnd Q s k n) T (mkF m pc Ls (.long z :: rest)) := Go.retW X hx hret hlk rfl (Or.inr (Or.inl ⟨rfl, rfl, _, rfl⟩)) hd hpc hQ hc hs
theorem Go.retA (X : Stand p l e R s m args below meth c T locs cells slots) (hx : p.tables.exec = Jvm.exec) {pc pc0 : Nat} {Ls : Array Slot} {w : Value} {t : FieldType} {rest : List Value} (hret : meth.sig.returnType = some t) (hlk : meth.locks = false) (ht : t.isReference = true) (hw : w.isRef = true) (hd : decode c.code pc0 = .ok (.areturn, 1)) (hpc : pc = pc0) {Q : Option Value → Heap → List Loc → Prop} {k n : Nat}
    (hQ : Q (some w) T.heap locs) (hc : cells ≤ k) (hs : slots ≤ n) : Go p e below (OwnEnd Q s k n) T (mkF m pc Ls (w :: rest)) := by
  refine Go.retW X hx hret hlk ?_ (Or.inr (Or.inr (Or.inr (Or.inr ⟨rfl, ht, hw⟩)))) hd hpc hQ hc hs
  rcases ref_cases hw with rfl | ⟨a, rfl⟩ <;> cases t <;> first | rfl | (simp [FieldType.isReference] at ht)
theorem Go.retV (X : Stand p l e R s m args below meth c T locs cells slots) (hx : p.tables.exec = Jvm.exec) {pc pc0 : Nat} {Ls : Array Slot} (hret : meth.sig.returnType = none) (hlk : meth.locks = false) (hd : decode c.code pc0 = .ok (.return_, 1)) (hpc : pc = pc0) {Q : Option Value → Heap → List Loc → Prop} {k n : Nat}
    (hQ : Q none T.heap locs) (hc : cells ≤ k) (hs : slots ≤ n) : Go p e below (OwnEnd Q s k n) T (mkF m pc Ls []) := by
  subst hpc
  exact Go.leave X (v := none) (fun _ => rfl) hlk hc hs hQ fun fs hr => X.returnOut hx hret hd hr
/-- a contract of a body: called on these arguments and this heap -/
def Ctr (l : Launch) (Z : State) (y : MethodName) (code : ByteArray) (mx : Nat) (ret : Option FieldType) (Rm : Room) (as' : Array Value) (h : Heap) (Q : Option Value → Heap → List Loc → Prop) : Prop :=
  ∀ ws : List Cond, MetFree l y (head1 (Cond.code y code mx ret :: ws) Rm) (fun a U => a = as' ∧ Z.Warmed39 U.vm ∧ U.heap = h) (fun _ _ _ _ _ => True) (fun _ U o U' => OwnEnd Q U Rm.cells Rm.slots o U')
theorem Ctr.of {y : MethodName} {code : ByteArray} {mx : Nat} {ret : Option FieldType} {Rm : Room} {as' : Array Value} {Q : Option Value → Heap → List Loc → Prop} (hp : plainFor y = true)
    (body : ∀ (p : Program) (e : Env) (s : State) (m : MethodId) (below : List Frame) (meth : Method) (c : Code) (s₁ : State), p.tables.exec = Jvm.exec → c.code = code → c.maxLocals = mx → s.vm.findClass y.cls = some m.cls → meth.name = y.name → meth.sig.returnType = ret → meth.locks = false → Z.Warmed39 s.vm →
      Stand p l e Rm s m as' below meth c s₁ [] 0 0 → s₁.heap = h → Go p e below (OwnEnd Q s Rm.cells Rm.slots) s₁ (entryFrame m as' mx)) : Ctr l Z y code mx ret Rm as' h Q := by
  intro ws
  refine MetFree.of_bodySF hp hisR ?_
  intro p e s m args below meth c s₁ Bd hml hP hK
  obtain ⟨rfl, hZ, hh⟩ := hP
  exact body p e s m below meth c s₁ Bd.exec Bd.bytes hml (findClass_of_methodNamed Bd.named) (name_of_methodNamed Bd.named Bd.method).1 Bd.returns Bd.notSynchronized hZ (Stand.of_body Bd) (by rw [← hh, Bd.state]; rfl)
/-- a body that returns V, writes nothing and makes nothing -/
def Pur (l : Launch) (Z : State) (y : MethodName) (code : ByteArray) (mx : Nat) (ret : Option FieldType) (fr lo : Nat) (as' : Array Value) (h : Heap) (V : Option Value) : Prop :=
  Ctr l Z y code mx ret ({ frames := fr, cells := 0, slots := 0, locals := lo } : Room) as' h fun v h' L => v = V ∧ L = [] ∧ h' = h
theorem Go.callS (X : Stand p l e R s m args below meth c T locs cells slots) (hx : p.tables.exec = Jvm.exec) (hZ : Z.Warmed39 s.vm) {own : String} {index : Nat} {y : MethodName} {bytes : ByteArray} {maxL : Nat} {ret : Option FieldType} (hown : s.vm.findClass own = some m.cls)
    (w1 : (Cond.methodLink own index y).before a0 Z = true) (w2 : (Cond.static y).before a0 Z = true) (w3 : (Cond.initialized y.cls).before a0 Z = true) (w4 : (Cond.code y bytes maxL ret).before a0 Z = true) (hy : y.cls ≠ "java/lang/invoke/MethodHandle" ∧ y.cls ≠ "java/lang/invoke/VarHandle")
    {Rm : Room} {Q : Option Value → Heap → List Loc → Prop} (argsL rest : List Value) (C : Ctr l Z y bytes maxL ret Rm argsL.toArray h Q) (eT : T.heap = h) {pc : Nat} {Ls : Array Slot} {st : List Value} (hst : st = argsL.reverse ++ rest) (hsz : Ls.size = c.maxLocals) {ps : List FieldType} {r : Option FieldType} (hpd : parseMethodDescriptor y.desc = some ⟨ps, r⟩) (hln : argsL.length = ps.length)
    (hd : decode c.code pc = .ok (.invokestatic index, 3)) (hfr : Rm.frames + 1 ≤ R.frames) (hlo : (rest.map fun v => v.category).sum + (maxL + 11) + Rm.locals ≤ R.locals) (hc : cells + Rm.cells ≤ R.cells) (hs : slots + Rm.slots ≤ R.slots)
    (K : ∀ v T' L, Stand p l e R s m args below meth c T' (locs ++ L) (cells + Rm.cells) (slots + Rm.slots) → Q v T'.heap L → Go p e below P T' (mkF m (pc + 3) Ls (v.toList ++ rest))) : Go p e below P T (mkF m pc Ls st) := by
  subst hst
  obtain ⟨v, _, ⟨T', L', k', n'⟩, -, X', ⟨L, hQ, l1, l2, l3⟩, st⟩ := Jvm.LawKit.callS X hx (y := y) hown (mvT hZ w1) (mvT hZ w2) (mvT hZ w3) (mvT hZ w4) hy (backOf (W := (rest.map fun v => v.category).sum) (Q := Q) (C []) hZ w4 w3 hfr hlo) (g := mkF m pc Ls (argsL.reverse ++ rest)) rfl hsz (argsL := argsL) (rest := rest) (lenOf hpd hln) rfl (by show 2 * 0 + _ ≤ _; omega) hd (fun _ _ => ⟨rfl, eT, hc, hs⟩)
  dsimp only [Pt.U, Pt.locs, Pt.cells, Pt.slots] at X' l1 l2 l3 st hQ
  subst l1 l2 l3
  exact Go.of st (K v T' L X' hQ)
theorem Go.pureS (X : Stand p l e R s m args below meth c T locs cells slots) (hx : p.tables.exec = Jvm.exec) (hZ : Z.Warmed39 s.vm) {own : String} {index : Nat} {y : MethodName} {bytes : ByteArray} {maxL : Nat} {ret : Option FieldType} (hown : s.vm.findClass own = some m.cls)
    (w1 : (Cond.methodLink own index y).before a0 Z = true) (w2 : (Cond.static y).before a0 Z = true) (w3 : (Cond.initialized y.cls).before a0 Z = true) (w4 : (Cond.code y bytes maxL ret).before a0 Z = true) (hy : y.cls ≠ "java/lang/invoke/MethodHandle" ∧ y.cls ≠ "java/lang/invoke/VarHandle")
    {fr lo : Nat} {V : Option Value} (argsL rest : List Value) (C : Pur l Z y bytes maxL ret fr lo argsL.toArray h V) (eT : T.heap = h) {pc : Nat} {Ls : Array Slot} {st : List Value} (hst : st = argsL.reverse ++ rest) (hsz : Ls.size = c.maxLocals) {ps : List FieldType} {r : Option FieldType} (hpd : parseMethodDescriptor y.desc = some ⟨ps, r⟩) (hln : argsL.length = ps.length)
    (hd : decode c.code pc = .ok (.invokestatic index, 3)) (hfr : fr + 1 ≤ R.frames) (hlo : (rest.map fun v => v.category).sum + (maxL + 11) + lo ≤ R.locals) (hc : cells ≤ R.cells) (hs : slots ≤ R.slots)
    (K : ∀ T', Stand p l e R s m args below meth c T' locs cells slots → T'.heap = h → Go p e below P T' (mkF m (pc + 3) Ls (V.toList ++ rest))) : Go p e below P T (mkF m pc Ls st) := by
  refine Go.callS X hx hZ hown w1 w2 w3 w4 hy argsL rest C eT hst hsz hpd hln hd hfr hlo hc hs ?_
  rintro v T' L X' ⟨rfl, rfl, e'⟩
  rw [List.append_nil] at X'
  exact K T' X' e'
theorem Go.callV (X : Stand p l e R s m args below meth c T locs cells slots) (hx : p.tables.exec = Jvm.exec) (hZ : Z.Warmed39 s.vm) {own C : String} {index : Nat} {y z : MethodName} {bytes : ByteArray} {maxL : Nat} {ret : Option FieldType} (hown : s.vm.findClass own = some m.cls)
    (w1 : (Cond.methodLink own index y).before a0 Z = true) (w2 : (Cond.declares y).before a0 Z = true) (hnf : NotFace s y) (w3 : (Cond.selects C y z).before a0 Z = true) (w4 : (Cond.instanceMethod z).before a0 Z = true) (w5 : (Cond.initialized z.cls).before a0 Z = true) (w6 : (Cond.code z bytes maxL ret).before a0 Z = true) (hy : y.cls ≠ "java/lang/invoke/MethodHandle" ∧ y.cls ≠ "java/lang/invoke/VarHandle")
    {Rm : Room} {Q : Option Value → Heap → List Loc → Prop} {b : Addr} (argsL rest : List Value) (E : Exa Z h b C) (Ct : Ctr l Z z bytes maxL ret Rm (.ref b :: argsL).toArray h Q) (eT : T.heap = h) {pc : Nat} {Ls : Array Slot} {st : List Value} (hst : st = argsL.reverse ++ .ref b :: rest) (hsz : Ls.size = c.maxLocals) {ps : List FieldType} {r : Option FieldType} (hpd : parseMethodDescriptor y.desc = some ⟨ps, r⟩) (hln : argsL.length = ps.length)
    (hd : decode c.code pc = .ok (.invokevirtual index, 3)) (hfr : Rm.frames + 1 ≤ R.frames) (hlo : (rest.map fun v => v.category).sum + (maxL + 11) + Rm.locals ≤ R.locals) (hc : cells + Rm.cells ≤ R.cells) (hs : slots + Rm.slots ≤ R.slots)
    (K : ∀ v T' L, Stand p l e R s m args below meth c T' (locs ++ L) (cells + Rm.cells) (slots + Rm.slots) → Q v T'.heap L → Go p e below P T' (mkF m (pc + 3) Ls (v.toList ++ rest))) : Go p e below P T (mkF m pc Ls st) := by
  subst hst
  obtain ⟨cq, kq, q1, q2, q3⟩ := isOf hZ eT E
  obtain ⟨v, _, ⟨T', L', k', n'⟩, -, X', ⟨L, hQ, l1, l2, l3⟩, st⟩ := X.virtualBack hx (y := y) (z := z) hown (mvT hZ w1) (mvT hZ w2) hnf (mvT hZ w3) (mvT hZ w4) hy (backOf (W := (rest.map fun v => v.category).sum) (Q := Q) (Ct []) hZ w6 w5 hfr hlo) q1 q3 (g := mkF m pc Ls (argsL.reverse ++ .ref b :: rest)) rfl hsz (Steps.refl _) (argsL := argsL) (rest := rest) (lenOf hpd hln) rfl (by show 2 * 0 + _ ≤ _; omega) hd (fun _ _ => ⟨rfl, eT, hc, hs⟩)
  dsimp only [Pt.U, Pt.locs, Pt.cells, Pt.slots] at X' l1 l2 l3 st hQ
  subst l1 l2 l3
  exact Go.of (fun _ k => st.trans k) (K v T' L X' hQ)
theorem Go.pureV (X : Stand p l e R s m args below meth c T locs cells slots) (hx : p.tables.exec = Jvm.exec) (hZ : Z.Warmed39 s.vm) {own C : String} {index : Nat} {y z : MethodName} {bytes : ByteArray} {maxL : Nat} {ret : Option FieldType} (hown : s.vm.findClass own = some m.cls)
    (w1 : (Cond.methodLink own index y).before a0 Z = true) (w2 : (Cond.declares y).before a0 Z = true) (hnf : NotFace s y) (w3 : (Cond.selects C y z).before a0 Z = true) (w4 : (Cond.instanceMethod z).before a0 Z = true) (w5 : (Cond.initialized z.cls).before a0 Z = true) (w6 : (Cond.code z bytes maxL ret).before a0 Z = true) (hy : y.cls ≠ "java/lang/invoke/MethodHandle" ∧ y.cls ≠ "java/lang/invoke/VarHandle")
    {fr lo : Nat} {V : Option Value} {b : Addr} (argsL rest : List Value) (E : Exa Z h b C) (Ct : Pur l Z z bytes maxL ret fr lo (.ref b :: argsL).toArray h V) (eT : T.heap = h) {pc : Nat} {Ls : Array Slot} {st : List Value} (hst : st = argsL.reverse ++ .ref b :: rest) (hsz : Ls.size = c.maxLocals) {ps : List FieldType} {r : Option FieldType} (hpd : parseMethodDescriptor y.desc = some ⟨ps, r⟩) (hln : argsL.length = ps.length)
    (hd : decode c.code pc = .ok (.invokevirtual index, 3)) (hfr : fr + 1 ≤ R.frames) (hlo : (rest.map fun v => v.category).sum + (maxL + 11) + lo ≤ R.locals) (hc : cells ≤ R.cells) (hs : slots ≤ R.slots)
    (K : ∀ T', Stand p l e R s m args below meth c T' locs cells slots → T'.heap = h → Go p e below P T' (mkF m (pc + 3) Ls (V.toList ++ rest))) : Go p e below P T (mkF m pc Ls st) := by
  refine Go.callV X hx hZ hown w1 w2 hnf w3 w4 w5 w6 hy argsL rest E Ct eT hst hsz hpd hln hd hfr hlo hc hs ?_
  rintro v T' L X' ⟨rfl, rfl, e'⟩
  rw [List.append_nil] at X'
  exact K T' X' e'
theorem Go.callU (X : Stand p l e R s m args below meth c T locs cells slots) (hx : p.tables.exec = Jvm.exec) (hZ : Z.Warmed39 s.vm) {own C ow : String} {index : Nat} {y z : MethodName} {bytes : ByteArray} {maxL : Nat} {ret : Option FieldType} (hown : s.vm.findClass own = some m.cls)
    (w1 : (Cond.methodLink own index y).before a0 Z = true) (w2 : (Cond.sameMethod y.cls ow y.name y.desc).before a0 Z = true) (w2' : (Cond.declares ⟨ow, y.name, y.desc⟩).before a0 Z = true) (w3 : (Cond.selects C y z).before a0 Z = true) (w4 : (Cond.instanceMethod z).before a0 Z = true) (w5 : (Cond.initialized z.cls).before a0 Z = true) (w6 : (Cond.code z bytes maxL ret).before a0 Z = true) (hy : ow ≠ "java/lang/invoke/MethodHandle" ∧ ow ≠ "java/lang/invoke/VarHandle")
    {Rm : Room} {Q : Option Value → Heap → List Loc → Prop} {b : Addr} (argsL rest : List Value) (E : Exa Z h b C) (Ct : Ctr l Z z bytes maxL ret Rm (.ref b :: argsL).toArray h Q) (eT : T.heap = h) {pc : Nat} {Ls : Array Slot} {st : List Value} (hst : st = argsL.reverse ++ .ref b :: rest) (hsz : Ls.size = c.maxLocals) {ps : List FieldType} {r : Option FieldType} (hpd : parseMethodDescriptor y.desc = some ⟨ps, r⟩) (hln : argsL.length = ps.length)
    (hd : decode c.code pc = .ok (.invokevirtual index, 3)) (hfr : Rm.frames + 1 ≤ R.frames) (hlo : (rest.map fun v => v.category).sum + (maxL + 11) + Rm.locals ≤ R.locals) (hc : cells + Rm.cells ≤ R.cells) (hs : slots + Rm.slots ≤ R.slots)
    (K : ∀ v T' L, Stand p l e R s m args below meth c T' (locs ++ L) (cells + Rm.cells) (slots + Rm.slots) → Q v T'.heap L → Go p e below P T' (mkF m (pc + 3) Ls (v.toList ++ rest))) : Go p e below P T (mkF m pc Ls st) := by
  subst hst
  obtain ⟨cq, kq, q1, q2, q3⟩ := isOf hZ eT E
  obtain ⟨v, _, ⟨T', L', k', n'⟩, -, X', ⟨L, hQ, l1, l2, l3⟩, st⟩ := X.virtualBackUp hx (x := y) (y := z) (owner := ow) hown (mvT hZ w1) (mvT hZ w2) (mvT hZ w2') hy (mvT hZ w3) (mvT hZ w4) (backOf (W := (rest.map fun v => v.category).sum) (Q := Q) (Ct []) hZ w6 w5 hfr hlo) q1 q3 (g := mkF m pc Ls (argsL.reverse ++ .ref b :: rest)) rfl hsz (Steps.refl _) (argsL := argsL) (rest := rest) (lenOf hpd hln) rfl (by show 2 * 0 + _ ≤ _; omega) hd (fun _ _ => ⟨rfl, eT, hc, hs⟩)
  dsimp only [Pt.U, Pt.locs, Pt.cells, Pt.slots] at X' l1 l2 l3 st hQ
  subst l1 l2 l3
  exact Go.of (fun _ k => st.trans k) (K v T' L X' hQ)
theorem Go.pureU (X : Stand p l e R s m args below meth c T locs cells slots) (hx : p.tables.exec = Jvm.exec) (hZ : Z.Warmed39 s.vm) {own C ow : String} {index : Nat} {y z : MethodName} {bytes : ByteArray} {maxL : Nat} {ret : Option FieldType} (hown : s.vm.findClass own = some m.cls)
    (w1 : (Cond.methodLink own index y).before a0 Z = true) (w2 : (Cond.sameMethod y.cls ow y.name y.desc).before a0 Z = true) (w2' : (Cond.declares ⟨ow, y.name, y.desc⟩).before a0 Z = true) (w3 : (Cond.selects C y z).before a0 Z = true) (w4 : (Cond.instanceMethod z).before a0 Z = true) (w5 : (Cond.initialized z.cls).before a0 Z = true) (w6 : (Cond.code z bytes maxL ret).before a0 Z = true) (hy : ow ≠ "java/lang/invoke/MethodHandle" ∧ ow ≠ "java/lang/invoke/VarHandle")
    {fr lo : Nat} {V : Option Value} {b : Addr} (argsL rest : List Value) (E : Exa Z h b C) (Ct : Pur l Z z bytes maxL ret fr lo (.ref b :: argsL).toArray h V) (eT : T.heap = h) {pc : Nat} {Ls : Array Slot} {st : List Value} (hst : st = argsL.reverse ++ .ref b :: rest) (hsz : Ls.size = c.maxLocals) {ps : List FieldType} {r : Option FieldType} (hpd : parseMethodDescriptor y.desc = some ⟨ps, r⟩) (hln : argsL.length = ps.length)
    (hd : decode c.code pc = .ok (.invokevirtual index, 3)) (hfr : fr + 1 ≤ R.frames) (hlo : (rest.map fun v => v.category).sum + (maxL + 11) + lo ≤ R.locals) (hc : cells ≤ R.cells) (hs : slots ≤ R.slots)
    (K : ∀ T', Stand p l e R s m args below meth c T' locs cells slots → T'.heap = h → Go p e below P T' (mkF m (pc + 3) Ls (V.toList ++ rest))) : Go p e below P T (mkF m pc Ls st) := by
  refine Go.callU X hx hZ hown w1 w2 w2' w3 w4 w5 w6 hy argsL rest E Ct eT hst hsz hpd hln hd hfr hlo hc hs ?_
  rintro v T' L X' ⟨rfl, rfl, e'⟩
  rw [List.append_nil] at X'
  exact K T' X' e'
theorem Go.callI (X : Stand p l e R s m args below meth c T locs cells slots) (hx : p.tables.exec = Jvm.exec) (hZ : Z.Warmed39 s.vm) {own : String} {index : Nat} {y : MethodName} {bytes : ByteArray} {maxL : Nat} (hyn : y.name = "<init>") (hown : s.vm.findClass own = some m.cls)
    (w1 : (Cond.methodLink own index y).before a0 Z = true) (w2 : (Cond.instanceMethod y).before a0 Z = true) (w3 : (Cond.initialized y.cls).before a0 Z = true) (w4 : (Cond.code y bytes maxL none).before a0 Z = true) (hy : y.cls ≠ "java/lang/invoke/MethodHandle" ∧ y.cls ≠ "java/lang/invoke/VarHandle")
    {Rm : Room} {Q : Option Value → Heap → List Loc → Prop} {b : Addr} (argsL rest : List Value) (C : Ctr l Z y bytes maxL none Rm (.ref b :: argsL).toArray h Q) (eT : T.heap = h) {pc : Nat} {Ls : Array Slot} {st : List Value} (hst : st = argsL.reverse ++ .ref b :: rest) (hsz : Ls.size = c.maxLocals) {ps : List FieldType} {r : Option FieldType} (hpd : parseMethodDescriptor y.desc = some ⟨ps, r⟩) (hln : argsL.length = ps.length)
    (hd : decode c.code pc = .ok (.invokespecial index, 3)) (hfr : Rm.frames + 1 ≤ R.frames) (hlo : (rest.map fun v => v.category).sum + (maxL + 11) + Rm.locals ≤ R.locals) (hc : cells + Rm.cells ≤ R.cells) (hs : slots + Rm.slots ≤ R.slots)
    (K : ∀ v T' L, Stand p l e R s m args below meth c T' (locs ++ L) (cells + Rm.cells) (slots + Rm.slots) → Q v T'.heap L → Go p e below P T' (mkF m (pc + 3) Ls (v.toList ++ rest))) : Go p e below P T (mkF m pc Ls st) := by
  subst hst
  obtain ⟨v, _, ⟨T', L', k', n'⟩, -, X', ⟨L, hQ, l1, l2, l3⟩, st⟩ := X.specialBack hx (y := y) hyn hown (mvT hZ w1) (mvT hZ w2) (mvT hZ w4) hy (backOf (W := (rest.map fun v => v.category).sum) (Q := Q) (C []) hZ w4 w3 hfr hlo) (g := mkF m pc Ls (argsL.reverse ++ .ref b :: rest)) rfl hsz (Steps.refl _) (a := b) (argsL := argsL) (rest := rest) (lenOf hpd hln) rfl (by show 2 * 0 + _ ≤ _; omega) hd (fun _ _ => ⟨rfl, eT, hc, hs⟩)
  dsimp only [Pt.U, Pt.locs, Pt.cells, Pt.slots] at X' l1 l2 l3 st hQ
  subst l1 l2 l3
  exact Go.of (fun _ k => st.trans k) (K v T' L X' hQ)
end Own
theorem own_nf {args : Array Value} {s : State} {C : String} {y y' : MethodName} (hc : y.cls = y'.cls) (hsel : (Cond.selects C y' y').before args s = true) : NotFace s y := fun r0 h0 => by
  obtain ⟨c2, r2, m2, q1, q2, q3, q4, kP, hkP, hkPi⟩ := Cond.selects_spec hsel
  have e1 := findClass_of_methodNamed h0
  have e2 := findClass_of_methodNamed q3
  rw [hc] at e1
  have e3 : r0.cls = m2.cls := Option.some.inj (e1.symm.trans e2)
  exact ⟨kP, e3 ▸ hkP, hkPi⟩
section OwnWords
variable {args : Array Value} {s : State} {a b t i : Term} {v : Value}
theorem own_eqv (g : (Cond.eq a b).value args s none s [] = some true) (hb : b.eval args s none [] s = some v) : a.eval args s none [] s = some v := by
  cases ha : a.eval args s none [] s with
  | none => simp [Cond.value, ha] at g
  | some x => cases x <;> cases v <;> simp [Cond.value, ha, hb] at g ⊢ <;> exact g
theorem own_len {x : Addr} {cl : Cell} {ty : FieldType} {n : Int32} (A : Arr s s.heap x cl ty) (ht : t.eval args s none [] s = some (.ref x)) (g : (Term.length t).eval args s none [] s = some (.int n)) : cl.slots.size < 2 ^ 31 ∧ cl.slots.size.toInt32 = n := by
  have q := A.fin (Vm.Alike.refl _)
  by_cases hl : cl.slots.size < 2 ^ 31
  · refine ⟨hl, ?_⟩
    have e := len_f (args := args) (first := s) (o := none) (idx := []) ht q hl
    exact Value.int.inj (Option.some.inj (e.symm.trans g))
  · simp [Term.eval, ht, q, hl] at g
theorem own_elem {x : Addr} {cl : Cell} {ty : FieldType} {j : Int32} {k : Nat} (A : Arr s s.heap x cl ty) (ht : t.eval args s none [] s = some (.ref x)) (hk : j.toNatClampNeg = k) (g : (Term.elem t (.int j)).eval args s none [] s = some v) : cl.slots[k]? = some v := by
  have e := (elem_in (j := j) (a := .int j) g ht rfl A.1).2
  rw [hk] at e; exact e
end OwnWords
section OwnSteps
variable {p : Program} {l : Launch} {e : Env} {R : Room} {s Z : State} {m : MethodId} {args a0 : Array Value} {below : List Frame} {meth : Method} {c : Code} {T : State} {locs : List Loc} {cells slots : Nat} {h : Heap} {P : Outcome → State → Prop} {pc pc0 : Nat} {Ls : Array Slot} {st : List Value}
theorem Go.iload (X : Stand p l e R s m args below meth c T locs cells slots) (hx : p.tables.exec = Jvm.exec) {k : Nat} {v : Int32} (hd : decode c.code pc0 = .ok (.iload k, 2)) (hpc : pc = pc0) (hl : Ls[k]? = some (.val (.int v))) (K : Go p e below P T (mkF m (pc0 + 2) Ls (.int v :: st))) : Go p e below P T (mkF m pc Ls (st)) := by
  subst hpc
  exact Go.of (fun _ q => XS.iload X.here hx rfl hd hl q) K
theorem Go.iloadN (X : Stand p l e R s m args below meth c T locs cells slots) (hx : p.tables.exec = Jvm.exec) {k : Fin 4} {v : Int32} (hd : decode c.code pc0 = .ok (.iload_n k, 1)) (hpc : pc = pc0) (hl : Ls[k.val]? = some (.val (.int v))) (K : Go p e below P T (mkF m (pc0 + 1) Ls (.int v :: st))) : Go p e below P T (mkF m pc Ls (st)) := by
  subst hpc
  exact Go.of (fun _ q => XS.iloadN X.here hx rfl hd hl q) K
theorem Go.istore (X : Stand p l e R s m args below meth c T locs cells slots) (hx : p.tables.exec = Jvm.exec) {k : Nat} {v : Int32} (hd : decode c.code pc0 = .ok (.istore k, 2)) (hpc : pc = pc0) (l' : Array Slot) (hl : storeLocals Ls k (.int v) = some l') (K : Go p e below P T (mkF m (pc0 + 2) l' (st))) : Go p e below P T (mkF m pc Ls (.int v :: st)) := by
  subst hpc
  exact Go.of (fun _ q => XS.istore X.here hx rfl hd rfl hl q) K
theorem Go.istoreN (X : Stand p l e R s m args below meth c T locs cells slots) (hx : p.tables.exec = Jvm.exec) {k : Fin 4} {v : Int32} (hd : decode c.code pc0 = .ok (.istore_n k, 1)) (hpc : pc = pc0) (l' : Array Slot) (hl : storeLocals Ls k.val (.int v) = some l') (K : Go p e below P T (mkF m (pc0 + 1) l' (st))) : Go p e below P T (mkF m pc Ls (.int v :: st)) := by
  subst hpc
  exact Go.of (fun _ q => XS.istoreN X.here hx rfl hd rfl hl q) K
theorem Go.lload (X : Stand p l e R s m args below meth c T locs cells slots) (hx : p.tables.exec = Jvm.exec) {k : Nat} {v : Int64} (hd : decode c.code pc0 = .ok (.lload k, 2)) (hpc : pc = pc0) (hl : Ls[k]? = some (.val (.long v))) (K : Go p e below P T (mkF m (pc0 + 2) Ls (.long v :: st))) : Go p e below P T (mkF m pc Ls (st)) := by
  subst hpc
  exact Go.of (fun _ q => XS.lload X.here hx rfl hd hl q) K
theorem Go.lloadN (X : Stand p l e R s m args below meth c T locs cells slots) (hx : p.tables.exec = Jvm.exec) {k : Fin 4} {v : Int64} (hd : decode c.code pc0 = .ok (.lload_n k, 1)) (hpc : pc = pc0) (hl : Ls[k.val]? = some (.val (.long v))) (K : Go p e below P T (mkF m (pc0 + 1) Ls (.long v :: st))) : Go p e below P T (mkF m pc Ls (st)) := by
  subst hpc
  exact Go.of (fun _ q => XS.lloadN X.here hx rfl hd hl q) K
theorem Go.lstore (X : Stand p l e R s m args below meth c T locs cells slots) (hx : p.tables.exec = Jvm.exec) {k : Nat} {v : Int64} (hd : decode c.code pc0 = .ok (.lstore k, 2)) (hpc : pc = pc0) (l' : Array Slot) (hl : storeLocals Ls k (.long v) = some l') (K : Go p e below P T (mkF m (pc0 + 2) l' (st))) : Go p e below P T (mkF m pc Ls (.long v :: st)) := by
  subst hpc
  exact Go.of (fun _ q => XS.lstore X.here hx rfl hd rfl hl q) K
theorem Go.lstoreN (X : Stand p l e R s m args below meth c T locs cells slots) (hx : p.tables.exec = Jvm.exec) {k : Fin 4} {v : Int64} (hd : decode c.code pc0 = .ok (.lstore_n k, 1)) (hpc : pc = pc0) (l' : Array Slot) (hl : storeLocals Ls k.val (.long v) = some l') (K : Go p e below P T (mkF m (pc0 + 1) l' (st))) : Go p e below P T (mkF m pc Ls (.long v :: st)) := by
  subst hpc
  exact Go.of (fun _ q => XS.lstoreN X.here hx rfl hd rfl hl q) K
theorem Go.aload (X : Stand p l e R s m args below meth c T locs cells slots) (hx : p.tables.exec = Jvm.exec) {k : Nat} {v : Value} (hd : decode c.code pc0 = .ok (.aload k, 2)) (hpc : pc = pc0) (hl : Ls[k]? = some (.val v)) (hv : v.isRef = true) (K : Go p e below P T (mkF m (pc0 + 2) Ls (v :: st))) : Go p e below P T (mkF m pc Ls (st)) := by
  subst hpc
  exact Go.of (fun _ q => XS.aload X.here hx rfl hd hl hv q) K
theorem Go.aloadN (X : Stand p l e R s m args below meth c T locs cells slots) (hx : p.tables.exec = Jvm.exec) {k : Fin 4} {v : Value} (hd : decode c.code pc0 = .ok (.aload_n k, 1)) (hpc : pc = pc0) (hl : Ls[k.val]? = some (.val v)) (hv : v.isRef = true) (K : Go p e below P T (mkF m (pc0 + 1) Ls (v :: st))) : Go p e below P T (mkF m pc Ls (st)) := by
  subst hpc
  exact Go.of (fun _ q => XS.aloadN X.here hx rfl hd hl hv q) K
theorem Go.astore (X : Stand p l e R s m args below meth c T locs cells slots) (hx : p.tables.exec = Jvm.exec) {k : Nat} {v : Value} (hd : decode c.code pc0 = .ok (.astore k, 2)) (hpc : pc = pc0) (hv : v.isRef = true) (l' : Array Slot) (hl : storeLocals Ls k v = some l') (K : Go p e below P T (mkF m (pc0 + 2) l' (st))) : Go p e below P T (mkF m pc Ls (v :: st)) := by
  subst hpc
  exact Go.of (fun _ q => XS.astore X.here hx rfl hd rfl hv hl q) K
theorem Go.astoreN (X : Stand p l e R s m args below meth c T locs cells slots) (hx : p.tables.exec = Jvm.exec) {k : Fin 4} {v : Value} (hd : decode c.code pc0 = .ok (.astore_n k, 1)) (hpc : pc = pc0) (hv : v.isRef = true) (l' : Array Slot) (hl : storeLocals Ls k.val v = some l') (K : Go p e below P T (mkF m (pc0 + 1) l' (st))) : Go p e below P T (mkF m pc Ls (v :: st)) := by
  subst hpc
  exact Go.of (fun _ q => XS.astoreN X.here hx rfl hd rfl hv hl q) K
theorem Go.iconst (X : Stand p l e R s m args below meth c T locs cells slots) (hx : p.tables.exec = Jvm.exec) {i : Int} (hd : decode c.code pc0 = .ok (.iconst i, 1)) (hpc : pc = pc0) (v : Int32) (hv : Int32.ofInt i = v) (K : Go p e below P T (mkF m (pc0 + 1) Ls (.int v :: st))) : Go p e below P T (mkF m pc Ls (st)) := by
  subst hpc
  subst hv
  exact Go.of (fun _ q => XS.iconst X.here hx rfl hd q) K
theorem Go.bipush (X : Stand p l e R s m args below meth c T locs cells slots) (hx : p.tables.exec = Jvm.exec) {i : Int} (hd : decode c.code pc0 = .ok (.bipush i, 2)) (hpc : pc = pc0) (v : Int32) (hv : (Int8.ofInt i).toInt32 = v) (K : Go p e below P T (mkF m (pc0 + 2) Ls (.int v :: st))) : Go p e below P T (mkF m pc Ls (st)) := by
  subst hpc
  subst hv
  exact Go.of (fun _ q => XS.bipush X.here hx rfl hd q) K
theorem Go.sipush (X : Stand p l e R s m args below meth c T locs cells slots) (hx : p.tables.exec = Jvm.exec) {i : Int} (hd : decode c.code pc0 = .ok (.sipush i, 3)) (hpc : pc = pc0) (v : Int32) (hv : (Int16.ofInt i).toInt32 = v) (K : Go p e below P T (mkF m (pc0 + 3) Ls (.int v :: st))) : Go p e below P T (mkF m pc Ls (st)) := by
  subst hpc
  subst hv
  exact Go.of (fun _ q => XS.sipush X.here hx rfl hd q) K
theorem Go.lconst (X : Stand p l e R s m args below meth c T locs cells slots) (hx : p.tables.exec = Jvm.exec) {k : Fin 2} (hd : decode c.code pc0 = .ok (.lconst k, 1)) (hpc : pc = pc0) (v : Int64) (hv : Int64.ofNat k = v) (K : Go p e below P T (mkF m (pc0 + 1) Ls (.long v :: st))) : Go p e below P T (mkF m pc Ls (st)) := by
  subst hpc
  subst hv
  exact Go.of (fun _ q => XS.lconst X.here hx rfl hd q) K
theorem Go.aconstNull (X : Stand p l e R s m args below meth c T locs cells slots) (hx : p.tables.exec = Jvm.exec)  (hd : decode c.code pc0 = .ok (.aconst_null, 1)) (hpc : pc = pc0)  (K : Go p e below P T (mkF m (pc0 + 1) Ls (.null :: st))) : Go p e below P T (mkF m pc Ls (st)) := by
  subst hpc
  exact Go.of (fun _ q => XS.aconstNull X.here hx rfl hd q) K
theorem Go.iadd (X : Stand p l e R s m args below meth c T locs cells slots) (hx : p.tables.exec = Jvm.exec) {x y : Int32} (hd : decode c.code pc0 = .ok (.iadd, 1)) (hpc : pc = pc0)  (K : Go p e below P T (mkF m (pc0 + 1) Ls (.int (x + y) :: st))) : Go p e below P T (mkF m pc Ls (.int y :: .int x :: st)) := by
  subst hpc
  exact Go.of (fun _ q => XS.iadd X.here hx rfl hd rfl q) K
theorem Go.isub (X : Stand p l e R s m args below meth c T locs cells slots) (hx : p.tables.exec = Jvm.exec) {x y : Int32} (hd : decode c.code pc0 = .ok (.isub, 1)) (hpc : pc = pc0)  (K : Go p e below P T (mkF m (pc0 + 1) Ls (.int (x - y) :: st))) : Go p e below P T (mkF m pc Ls (.int y :: .int x :: st)) := by
  subst hpc
  exact Go.of (fun _ q => XS.isub X.here hx rfl hd rfl q) K
theorem Go.imul (X : Stand p l e R s m args below meth c T locs cells slots) (hx : p.tables.exec = Jvm.exec) {x y : Int32} (hd : decode c.code pc0 = .ok (.imul, 1)) (hpc : pc = pc0)  (K : Go p e below P T (mkF m (pc0 + 1) Ls (.int (x * y) :: st))) : Go p e below P T (mkF m pc Ls (.int y :: .int x :: st)) := by
  subst hpc
  exact Go.of (fun _ q => XS.imul X.here hx rfl hd rfl q) K
theorem Go.iand (X : Stand p l e R s m args below meth c T locs cells slots) (hx : p.tables.exec = Jvm.exec) {x y : Int32} (hd : decode c.code pc0 = .ok (.iand, 1)) (hpc : pc = pc0)  (K : Go p e below P T (mkF m (pc0 + 1) Ls (.int (x &&& y) :: st))) : Go p e below P T (mkF m pc Ls (.int y :: .int x :: st)) := by
  subst hpc
  exact Go.of (fun _ q => XS.iand X.here hx rfl hd rfl q) K
theorem Go.ior (X : Stand p l e R s m args below meth c T locs cells slots) (hx : p.tables.exec = Jvm.exec) {x y : Int32} (hd : decode c.code pc0 = .ok (.ior, 1)) (hpc : pc = pc0)  (K : Go p e below P T (mkF m (pc0 + 1) Ls (.int (x ||| y) :: st))) : Go p e below P T (mkF m pc Ls (.int y :: .int x :: st)) := by
  subst hpc
  exact Go.of (fun _ q => XS.ior X.here hx rfl hd rfl q) K
theorem Go.ixor (X : Stand p l e R s m args below meth c T locs cells slots) (hx : p.tables.exec = Jvm.exec) {x y : Int32} (hd : decode c.code pc0 = .ok (.ixor, 1)) (hpc : pc = pc0)  (K : Go p e below P T (mkF m (pc0 + 1) Ls (.int (x ^^^ y) :: st))) : Go p e below P T (mkF m pc Ls (.int y :: .int x :: st)) := by
  subst hpc
  exact Go.of (fun _ q => XS.ixor X.here hx rfl hd rfl q) K
theorem Go.idiv (X : Stand p l e R s m args below meth c T locs cells slots) (hx : p.tables.exec = Jvm.exec) {x y : Int32} (hd : decode c.code pc0 = .ok (.idiv, 1)) (hpc : pc = pc0) (hy : y ≠ 0) (K : Go p e below P T (mkF m (pc0 + 1) Ls (.int (x / y) :: st))) : Go p e below P T (mkF m pc Ls (.int y :: .int x :: st)) := by
  subst hpc
  exact Go.of (fun _ q => XS.idiv X.here hx rfl hd rfl hy q) K
theorem Go.ineg (X : Stand p l e R s m args below meth c T locs cells slots) (hx : p.tables.exec = Jvm.exec) {x : Int32} (hd : decode c.code pc0 = .ok (.ineg, 1)) (hpc : pc = pc0)  (K : Go p e below P T (mkF m (pc0 + 1) Ls (.int (-x) :: st))) : Go p e below P T (mkF m pc Ls (.int x :: st)) := by
  subst hpc
  exact Go.of (fun _ q => XS.ineg X.here hx rfl hd rfl q) K
theorem Go.ladd (X : Stand p l e R s m args below meth c T locs cells slots) (hx : p.tables.exec = Jvm.exec) {x y : Int64} (hd : decode c.code pc0 = .ok (.ladd, 1)) (hpc : pc = pc0)  (K : Go p e below P T (mkF m (pc0 + 1) Ls (.long (x + y) :: st))) : Go p e below P T (mkF m pc Ls (.long y :: .long x :: st)) := by
  subst hpc
  exact Go.of (fun _ q => XS.ladd X.here hx rfl hd rfl q) K
theorem Go.lsub (X : Stand p l e R s m args below meth c T locs cells slots) (hx : p.tables.exec = Jvm.exec) {x y : Int64} (hd : decode c.code pc0 = .ok (.lsub, 1)) (hpc : pc = pc0)  (K : Go p e below P T (mkF m (pc0 + 1) Ls (.long (x - y) :: st))) : Go p e below P T (mkF m pc Ls (.long y :: .long x :: st)) := by
  subst hpc
  exact Go.of (fun _ q => XS.lsub X.here hx rfl hd rfl q) K
theorem Go.lmul (X : Stand p l e R s m args below meth c T locs cells slots) (hx : p.tables.exec = Jvm.exec) {x y : Int64} (hd : decode c.code pc0 = .ok (.lmul, 1)) (hpc : pc = pc0)  (K : Go p e below P T (mkF m (pc0 + 1) Ls (.long (x * y) :: st))) : Go p e below P T (mkF m pc Ls (.long y :: .long x :: st)) := by
  subst hpc
  exact Go.of (fun _ q => XS.lmul X.here hx rfl hd rfl q) K
theorem Go.land (X : Stand p l e R s m args below meth c T locs cells slots) (hx : p.tables.exec = Jvm.exec) {x y : Int64} (hd : decode c.code pc0 = .ok (.land, 1)) (hpc : pc = pc0)  (K : Go p e below P T (mkF m (pc0 + 1) Ls (.long (x &&& y) :: st))) : Go p e below P T (mkF m pc Ls (.long y :: .long x :: st)) := by
  subst hpc
  exact Go.of (fun _ q => XS.land X.here hx rfl hd rfl q) K
theorem Go.lor (X : Stand p l e R s m args below meth c T locs cells slots) (hx : p.tables.exec = Jvm.exec) {x y : Int64} (hd : decode c.code pc0 = .ok (.lor, 1)) (hpc : pc = pc0)  (K : Go p e below P T (mkF m (pc0 + 1) Ls (.long (x ||| y) :: st))) : Go p e below P T (mkF m pc Ls (.long y :: .long x :: st)) := by
  subst hpc
  exact Go.of (fun _ q => XS.lor X.here hx rfl hd rfl q) K
theorem Go.lxor (X : Stand p l e R s m args below meth c T locs cells slots) (hx : p.tables.exec = Jvm.exec) {x y : Int64} (hd : decode c.code pc0 = .ok (.lxor, 1)) (hpc : pc = pc0)  (K : Go p e below P T (mkF m (pc0 + 1) Ls (.long (x ^^^ y) :: st))) : Go p e below P T (mkF m pc Ls (.long y :: .long x :: st)) := by
  subst hpc
  exact Go.of (fun _ q => XS.lxor X.here hx rfl hd rfl q) K
theorem Go.ldiv (X : Stand p l e R s m args below meth c T locs cells slots) (hx : p.tables.exec = Jvm.exec) {x y : Int64} (hd : decode c.code pc0 = .ok (.ldiv, 1)) (hpc : pc = pc0) (hy : y ≠ 0) (K : Go p e below P T (mkF m (pc0 + 1) Ls (.long (x / y) :: st))) : Go p e below P T (mkF m pc Ls (.long y :: .long x :: st)) := by
  subst hpc
  exact Go.of (fun _ q => XS.ldiv X.here hx rfl hd rfl hy q) K
theorem Go.lneg (X : Stand p l e R s m args below meth c T locs cells slots) (hx : p.tables.exec = Jvm.exec) {x : Int64} (hd : decode c.code pc0 = .ok (.lneg, 1)) (hpc : pc = pc0)  (K : Go p e below P T (mkF m (pc0 + 1) Ls (.long (-x) :: st))) : Go p e below P T (mkF m pc Ls (.long x :: st)) := by
  subst hpc
  exact Go.of (fun _ q => XS.lneg X.here hx rfl hd rfl q) K
theorem Go.irem (X : Stand p l e R s m args below meth c T locs cells slots) (hx : p.tables.exec = Jvm.exec) {x y : Int32} (hd : decode c.code pc0 = .ok (.irem, 1)) (hpc : pc = pc0) (hy : y ≠ 0) (K : Go p e below P T (mkF m (pc0 + 1) Ls (.int (x % y) :: st))) : Go p e below P T (mkF m pc Ls (.int y :: .int x :: st)) := by
  subst hpc
  exact Go.of (fun _ q => iremM X hx rfl hd rfl hy q) K
theorem Go.lrem (X : Stand p l e R s m args below meth c T locs cells slots) (hx : p.tables.exec = Jvm.exec) {x y : Int64} (hd : decode c.code pc0 = .ok (.lrem, 1)) (hpc : pc = pc0) (hy : y ≠ 0) (K : Go p e below P T (mkF m (pc0 + 1) Ls (.long (x - (x / y) * y) :: st))) : Go p e below P T (mkF m pc Ls (.long y :: .long x :: st)) := by
  subst hpc
  exact Go.of (fun _ q => XS.lrem X.here hx rfl hd rfl hy q) K
theorem Go.ishl (X : Stand p l e R s m args below meth c T locs cells slots) (hx : p.tables.exec = Jvm.exec) {x y : Int32} (hd : decode c.code pc0 = .ok (.ishl, 1)) (hpc : pc = pc0)  (K : Go p e below P T (mkF m (pc0 + 1) Ls (.int (x <<< (y &&& 31)) :: st))) : Go p e below P T (mkF m pc Ls (.int y :: .int x :: st)) := by
  subst hpc
  exact Go.of (fun _ q => XS.ishl X.here hx rfl hd rfl q) K
theorem Go.ishr (X : Stand p l e R s m args below meth c T locs cells slots) (hx : p.tables.exec = Jvm.exec) {x y : Int32} (hd : decode c.code pc0 = .ok (.ishr, 1)) (hpc : pc = pc0)  (K : Go p e below P T (mkF m (pc0 + 1) Ls (.int (x >>> (y &&& 31)) :: st))) : Go p e below P T (mkF m pc Ls (.int y :: .int x :: st)) := by
  subst hpc
  exact Go.of (fun _ q => XS.ishr X.here hx rfl hd rfl q) K
theorem Go.iushr (X : Stand p l e R s m args below meth c T locs cells slots) (hx : p.tables.exec = Jvm.exec) {x y : Int32} (hd : decode c.code pc0 = .ok (.iushr, 1)) (hpc : pc = pc0)  (K : Go p e below P T (mkF m (pc0 + 1) Ls (.int ((x.toUInt32 >>> (y &&& 31).toUInt32).toInt32) :: st))) : Go p e below P T (mkF m pc Ls (.int y :: .int x :: st)) := by
  subst hpc
  exact Go.of (fun _ q => XS.iushr X.here hx rfl hd rfl q) K
theorem Go.lshl (X : Stand p l e R s m args below meth c T locs cells slots) (hx : p.tables.exec = Jvm.exec) {x : Int64} {y : Int32} (hd : decode c.code pc0 = .ok (.lshl, 1)) (hpc : pc = pc0)  (K : Go p e below P T (mkF m (pc0 + 1) Ls (.long (x <<< (y &&& 0x3f).toInt64) :: st))) : Go p e below P T (mkF m pc Ls (.int y :: .long x :: st)) := by
  subst hpc
  exact Go.of (fun _ q => XS.lshl X.here hx rfl hd rfl q) K
theorem Go.lshr (X : Stand p l e R s m args below meth c T locs cells slots) (hx : p.tables.exec = Jvm.exec) {x : Int64} {y : Int32} (hd : decode c.code pc0 = .ok (.lshr, 1)) (hpc : pc = pc0)  (K : Go p e below P T (mkF m (pc0 + 1) Ls (.long (x >>> (y &&& 0x3f).toInt64) :: st))) : Go p e below P T (mkF m pc Ls (.int y :: .long x :: st)) := by
  subst hpc
  exact Go.of (fun _ q => XS.lshr X.here hx rfl hd rfl q) K
theorem Go.lushr (X : Stand p l e R s m args below meth c T locs cells slots) (hx : p.tables.exec = Jvm.exec) {x : Int64} {y : Int32} (hd : decode c.code pc0 = .ok (.lushr, 1)) (hpc : pc = pc0)  (K : Go p e below P T (mkF m (pc0 + 1) Ls (.long ((x.toUInt64 >>> (y &&& 0x3f).toInt64.toUInt64).toInt64) :: st))) : Go p e below P T (mkF m pc Ls (.int y :: .long x :: st)) := by
  subst hpc
  exact Go.of (fun _ q => XS.lushr X.here hx rfl hd rfl q) K
theorem Go.i2l (X : Stand p l e R s m args below meth c T locs cells slots) (hx : p.tables.exec = Jvm.exec) {x : Int32} (hd : decode c.code pc0 = .ok (.i2l, 1)) (hpc : pc = pc0)  (K : Go p e below P T (mkF m (pc0 + 1) Ls (.long x.toInt64 :: st))) : Go p e below P T (mkF m pc Ls (.int x :: st)) := by
  subst hpc
  exact Go.of (fun _ q => XS.i2l X.here hx rfl hd rfl q) K
theorem Go.l2i (X : Stand p l e R s m args below meth c T locs cells slots) (hx : p.tables.exec = Jvm.exec) {x : Int64} (hd : decode c.code pc0 = .ok (.l2i, 1)) (hpc : pc = pc0)  (K : Go p e below P T (mkF m (pc0 + 1) Ls (.int x.toInt32 :: st))) : Go p e below P T (mkF m pc Ls (.long x :: st)) := by
  subst hpc
  exact Go.of (fun _ q => XS.l2i X.here hx rfl hd rfl q) K
theorem Go.i2b (X : Stand p l e R s m args below meth c T locs cells slots) (hx : p.tables.exec = Jvm.exec) {x : Int32} (hd : decode c.code pc0 = .ok (.i2b, 1)) (hpc : pc = pc0)  (K : Go p e below P T (mkF m (pc0 + 1) Ls (.int x.toInt8.toInt32 :: st))) : Go p e below P T (mkF m pc Ls (.int x :: st)) := by
  subst hpc
  exact Go.of (fun _ q => XS.i2b X.here hx rfl hd rfl q) K
theorem Go.i2s (X : Stand p l e R s m args below meth c T locs cells slots) (hx : p.tables.exec = Jvm.exec) {x : Int32} (hd : decode c.code pc0 = .ok (.i2s, 1)) (hpc : pc = pc0)  (K : Go p e below P T (mkF m (pc0 + 1) Ls (.int x.toInt16.toInt32 :: st))) : Go p e below P T (mkF m pc Ls (.int x :: st)) := by
  subst hpc
  exact Go.of (fun _ q => XS.i2s X.here hx rfl hd rfl q) K
theorem Go.i2c (X : Stand p l e R s m args below meth c T locs cells slots) (hx : p.tables.exec = Jvm.exec) {x : Int32} (hd : decode c.code pc0 = .ok (.i2c, 1)) (hpc : pc = pc0)  (K : Go p e below P T (mkF m (pc0 + 1) Ls (.int x.toUInt32.toUInt16.toUInt32.toInt32 :: st))) : Go p e below P T (mkF m pc Ls (.int x :: st)) := by
  subst hpc
  exact Go.of (fun _ q => XS.i2c X.here hx rfl hd rfl q) K
theorem Go.lcmp (X : Stand p l e R s m args below meth c T locs cells slots) (hx : p.tables.exec = Jvm.exec) {x y : Int64} (hd : decode c.code pc0 = .ok (.lcmp, 1)) (hpc : pc = pc0)  (K : Go p e below P T (mkF m (pc0 + 1) Ls (.int (lcmpW x y) :: st))) : Go p e below P T (mkF m pc Ls (.long y :: .long x :: st)) := by
  subst hpc
  exact Go.of (fun _ q => XS.lcmp X.here hx rfl hd rfl q) K
theorem Go.dup (X : Stand p l e R s m args below meth c T locs cells slots) (hx : p.tables.exec = Jvm.exec) {x : Value} (hd : decode c.code pc0 = .ok (.dup, 1)) (hpc : pc = pc0) (hc : x.category = 1) (K : Go p e below P T (mkF m (pc0 + 1) Ls (x :: x :: st))) : Go p e below P T (mkF m pc Ls (x :: st)) := by
  subst hpc
  exact Go.of (fun _ q => XS.dup X.here hx rfl hd rfl hc q) K
theorem Go.dupX1 (X : Stand p l e R s m args below meth c T locs cells slots) (hx : p.tables.exec = Jvm.exec) {x y : Value} (hd : decode c.code pc0 = .ok (.dup_x1, 1)) (hpc : pc = pc0) (hc : x.category = 1) (hc' : y.category = 1) (K : Go p e below P T (mkF m (pc0 + 1) Ls (x :: y :: x :: st))) : Go p e below P T (mkF m pc Ls (x :: y :: st)) := by
  subst hpc
  exact Go.of (fun _ q => XS.dupX1 X.here hx rfl hd rfl hc hc' q) K
theorem Go.dup2 (X : Stand p l e R s m args below meth c T locs cells slots) (hx : p.tables.exec = Jvm.exec) {x y : Value} (hd : decode c.code pc0 = .ok (.dup2, 1)) (hpc : pc = pc0) (hc : x.category = 1) (hc' : y.category = 1) (K : Go p e below P T (mkF m (pc0 + 1) Ls (x :: y :: x :: y :: st))) : Go p e below P T (mkF m pc Ls (x :: y :: st)) := by
  subst hpc
  exact Go.of (fun _ q => XT.dup2 X.here hx rfl hd rfl hc hc' q) K
theorem Go.pop (X : Stand p l e R s m args below meth c T locs cells slots) (hx : p.tables.exec = Jvm.exec) {x : Value} (hd : decode c.code pc0 = .ok (.pop, 1)) (hpc : pc = pc0) (hc : x.category = 1) (K : Go p e below P T (mkF m (pc0 + 1) Ls (st))) : Go p e below P T (mkF m pc Ls (x :: st)) := by
  subst hpc
  exact Go.of (fun _ q => XS.pop X.here hx rfl hd rfl hc q) K
theorem Go.iinc (X : Stand p l e R s m args below meth c T locs cells slots) (hx : p.tables.exec = Jvm.exec) {k : Nat} {cst : Int} {x : Int32} (hd : decode c.code pc0 = .ok (.iinc k cst, 3)) (hpc : pc = pc0) (hl : Ls[k]? = some (.val (.int x))) (l' : Array Slot) (hl' : storeLocals Ls k (.int (x + Int32.ofInt cst)) = some l') (K : Go p e below P T (mkF m (pc0 + 3) l' (st))) : Go p e below P T (mkF m pc Ls (st)) := by
  subst hpc
  exact Go.of (fun _ q => XS.iinc X.here hx rfl hd hl hl' q) K
theorem Go.goto (X : Stand p l e R s m args below meth c T locs cells slots) (hx : p.tables.exec = Jvm.exec)  {o : Int} (hd : decode c.code pc0 = .ok (.goto o, 3)) (hpc : pc = pc0) (pc' : Nat)  (ho : 0 ≤ (pc0 : Int) + o) (hp : ((pc0 : Int) + o).toNat = pc') (K : Go p e below P T (mkF m pc' Ls st)) : Go p e below P T (mkF m pc Ls (st)) := by
  subst hpc
  exact Go.of (fun _ q => XS.goto X.here hx rfl rfl hd ho hp q) K
theorem Go.ifYes (X : Stand p l e R s m args below meth c T locs cells slots) (hx : p.tables.exec = Jvm.exec) {cd : ClassFile.Cond} {x : Int32} {o : Int} (hd : decode c.code pc0 = .ok (.ifCond cd o, 3)) (hpc : pc = pc0) (pc' : Nat) (hc : ifCond.holds cd x = true) (ho : 0 ≤ (pc0 : Int) + o) (hp : ((pc0 : Int) + o).toNat = pc') (K : Go p e below P T (mkF m pc' Ls st)) : Go p e below P T (mkF m pc Ls (.int x :: st)) := by
  subst hpc
  exact Go.of (fun _ q => XS.ifYes X.here hx rfl rfl hd rfl hc ho hp q) K
theorem Go.icmpYes (X : Stand p l e R s m args below meth c T locs cells slots) (hx : p.tables.exec = Jvm.exec) {cd : ClassFile.Cond} {x y : Int32} {o : Int} (hd : decode c.code pc0 = .ok (.if_icmp cd o, 3)) (hpc : pc = pc0) (pc' : Nat) (hc : if_icmp.holds cd x y = true) (ho : 0 ≤ (pc0 : Int) + o) (hp : ((pc0 : Int) + o).toNat = pc') (K : Go p e below P T (mkF m pc' Ls st)) : Go p e below P T (mkF m pc Ls (.int y :: .int x :: st)) := by
  subst hpc
  exact Go.of (fun _ q => XS.icmpYes X.here hx rfl rfl hd rfl hc ho hp q) K
theorem Go.ifnullYes (X : Stand p l e R s m args below meth c T locs cells slots) (hx : p.tables.exec = Jvm.exec)  {o : Int} (hd : decode c.code pc0 = .ok (.ifnull o, 3)) (hpc : pc = pc0) (pc' : Nat)  (ho : 0 ≤ (pc0 : Int) + o) (hp : ((pc0 : Int) + o).toNat = pc') (K : Go p e below P T (mkF m pc' Ls st)) : Go p e below P T (mkF m pc Ls (.null :: st)) := by
  subst hpc
  exact Go.of (fun _ q => XS.ifnullYes X.here hx rfl rfl hd rfl ho hp q) K
theorem Go.ifnonnullYes (X : Stand p l e R s m args below meth c T locs cells slots) (hx : p.tables.exec = Jvm.exec) {b : Addr} {o : Int} (hd : decode c.code pc0 = .ok (.ifnonnull o, 3)) (hpc : pc = pc0) (pc' : Nat)  (ho : 0 ≤ (pc0 : Int) + o) (hp : ((pc0 : Int) + o).toNat = pc') (K : Go p e below P T (mkF m pc' Ls st)) : Go p e below P T (mkF m pc Ls (.ref b :: st)) := by
  subst hpc
  exact Go.of (fun _ q => XS.ifnonnullYes X.here hx rfl rfl hd rfl ho hp q) K
theorem Go.ifNo (X : Stand p l e R s m args below meth c T locs cells slots) (hx : p.tables.exec = Jvm.exec) {cd : ClassFile.Cond} {o : Int} {x : Int32} (hd : decode c.code pc0 = .ok (.ifCond cd o, 3)) (hpc : pc = pc0) (hc : ifCond.holds cd x = false) (K : Go p e below P T (mkF m (pc0 + 3) Ls (st))) : Go p e below P T (mkF m pc Ls (.int x :: st)) := by
  subst hpc
  exact Go.of (fun _ q => XS.ifNo X.here hx rfl hd rfl hc q) K
theorem Go.icmpNo (X : Stand p l e R s m args below meth c T locs cells slots) (hx : p.tables.exec = Jvm.exec) {cd : ClassFile.Cond} {o : Int} {x y : Int32} (hd : decode c.code pc0 = .ok (.if_icmp cd o, 3)) (hpc : pc = pc0) (hc : if_icmp.holds cd x y = false) (K : Go p e below P T (mkF m (pc0 + 3) Ls (st))) : Go p e below P T (mkF m pc Ls (.int y :: .int x :: st)) := by
  subst hpc
  exact Go.of (fun _ q => XS.icmpNo X.here hx rfl hd rfl hc q) K
theorem Go.ifnullNo (X : Stand p l e R s m args below meth c T locs cells slots) (hx : p.tables.exec = Jvm.exec) {o : Int} {b : Addr} (hd : decode c.code pc0 = .ok (.ifnull o, 3)) (hpc : pc = pc0)  (K : Go p e below P T (mkF m (pc0 + 3) Ls (st))) : Go p e below P T (mkF m pc Ls (.ref b :: st)) := by
  subst hpc
  exact Go.of (fun _ q => XS.ifnullNo X.here hx rfl hd rfl q) K
theorem Go.ifnonnullNo (X : Stand p l e R s m args below meth c T locs cells slots) (hx : p.tables.exec = Jvm.exec) {o : Int} (hd : decode c.code pc0 = .ok (.ifnonnull o, 3)) (hpc : pc = pc0)  (K : Go p e below P T (mkF m (pc0 + 3) Ls (st))) : Go p e below P T (mkF m pc Ls (.null :: st)) := by
  subst hpc
  exact Go.of (fun _ q => XS.ifnonnullNo X.here hx rfl hd rfl q) K
theorem Go.acmp (X : Stand p l e R s m args below meth c T locs cells slots) (hx : p.tables.exec = Jvm.exec) {cd : ACond} {x y : Value} {o : Int} (hd : decode c.code pc0 = .ok (.if_acmp cd o, 3)) (hpc : pc = pc0) (h1 : x.isRef = true) (h2 : y.isRef = true) (same : Bool) (hq : decide (x = y) = same) (pc' : Nat) (ho : 0 ≤ (pc0 : Int) + o) (hp : pc' = if acV cd same = true then ((pc0 : Int) + o).toNat else pc0 + 3) (K : Go p e below P T (mkF m pc' Ls st)) : Go p e below P T (mkF m pc Ls (y :: x :: st)) := by
  subst hpc
  exact Go.of (fun _ q => Jvm.RoadKit.acmp X hx rfl h1 h2 rfl hd rfl hq ho hp q) K
theorem Go.tswIn (X : Stand p l e R s m args below meth c T locs cells slots) (hx : p.tables.exec = Jvm.exec) {dflt low high : Int} {offs : Array Int} {len : Nat} {o : Int} {i : Int32} (hd : decode c.code pc0 = .ok (.tableswitch dflt low high offs, len)) (hpc : pc = pc0) (pc' : Nat) (hin : ¬ (i.toInt < low ∨ i.toInt > high)) (hoff : offs[(i.toInt - low).toNat]? = some o) (ho : 0 ≤ (pc0 : Int) + o) (hp : ((pc0 : Int) + o).toNat = pc') (K : Go p e below P T (mkF m pc' Ls st)) : Go p e below P T (mkF m pc Ls (.int i :: st)) := by
  subst hpc
  exact Go.of (fun _ q => XS.tswIn X.here hx rfl rfl hd rfl hin hoff ho hp q) K
theorem Go.ldc (X : Stand p l e R s m args below meth c T locs cells slots) (hx : p.tables.exec = Jvm.exec) (hZ : Z.Warmed39 s.vm) {own : String} {index : Nat} (hown : s.vm.findClass own = some m.cls) {v : Int32} (w : (Cond.constant own index v).before a0 Z = true) (hd : decode c.code pc0 = .ok (.ldc index, 2)) (hpc : pc = pc0) (K : Go p e below P T (mkF m (pc0 + 2) Ls (.int v :: st))) : Go p e below P T (mkF m pc Ls st) := by
  subst hpc
  exact Go.of (fun _ q => X.ldcInt hx hown (mvT hZ w) (g := mkF m pc Ls st) rfl hd _ q) K
theorem Go.ldc_w (X : Stand p l e R s m args below meth c T locs cells slots) (hx : p.tables.exec = Jvm.exec) (hZ : Z.Warmed39 s.vm) {own : String} {index : Nat} (hown : s.vm.findClass own = some m.cls) {v : Int32} (w : (Cond.constant own index v).before a0 Z = true) (hd : decode c.code pc0 = .ok (.ldc_w index, 3)) (hpc : pc = pc0) (K : Go p e below P T (mkF m (pc0 + 3) Ls (.int v :: st))) : Go p e below P T (mkF m pc Ls st) := by
  subst hpc
  exact Go.of (fun _ q => X.ldcwInt hx hown (mvT hZ w) (g := mkF m pc Ls st) rfl hd _ q) K
theorem Go.ldc2_w (X : Stand p l e R s m args below meth c T locs cells slots) (hx : p.tables.exec = Jvm.exec) (hZ : Z.Warmed39 s.vm) {own : String} {index : Nat} (hown : s.vm.findClass own = some m.cls) {v : Int64} (w : (Cond.constantLong own index v).before a0 Z = true) (hd : decode c.code pc0 = .ok (.ldc2_w index, 3)) (hpc : pc = pc0) (K : Go p e below P T (mkF m (pc0 + 3) Ls (.long v :: st))) : Go p e below P T (mkF m pc Ls st) := by
  subst hpc
  exact Go.of (fun _ q => X.ldc2Long hx hown (mvT hZ w) (g := mkF m pc Ls st) rfl hd _ q) K
theorem Go.getS (X : Stand p l e R s m args below meth c T locs cells slots) (hx : p.tables.exec = Jvm.exec) (hZ : Z.Warmed39 s.vm) {own : String} {index : Nat} (hown : s.vm.findClass own = some m.cls) {R0 O n d host : String} {v : Value} (w : (Cond.fieldLink own index R0 n d).before a0 Z = true ∨ (Cond.fieldLinkNest own index R0 n d host).before a0 Z = true) (via : Via Z R0 O n d) (eT : T.heap = h) (F : Sta Z h O n d v) (hd : decode c.code pc0 = .ok (.getstatic index, 3)) (hpc : pc = pc0) (K : ∀ T', Stand p l e R s m args below meth c T' locs cells slots → T'.heap = h → Go p e below P T' (mkF m (pc0 + 3) Ls (v :: st))) : Go p e below P T (mkF m pc Ls st) := by
  subst hpc
  obtain ⟨T', X', e', q⟩ := getS2 X hx hZ hown w via eT F (g := mkF m pc Ls st) rfl hd
  exact Go.of q (K T' X' e')
theorem Go.getF (X : Stand p l e R s m args below meth c T locs cells slots) (hx : p.tables.exec = Jvm.exec) (hZ : Z.Warmed39 s.vm) {own : String} {index : Nat} (hown : s.vm.findClass own = some m.cls) {R0 O n d host : String} {a : Addr} {v : Value} (w : (Cond.fieldLink own index R0 n d).before a0 Z = true ∨ (Cond.fieldLinkNest own index R0 n d host).before a0 Z = true) (via : Via Z R0 O n d) (eT : T.heap = h) (F : Fld Z h a O n d v) (hd : decode c.code pc0 = .ok (.getfield index, 3)) (hpc : pc = pc0) (K : ∀ T', Stand p l e R s m args below meth c T' locs cells slots → T'.heap = h → Go p e below P T' (mkF m (pc0 + 3) Ls (v :: st))) : Go p e below P T (mkF m pc Ls (.ref a :: st)) := by
  subst hpc
  obtain ⟨T', X', e', q⟩ := Jvm.RoadKit.getF X hx hZ hown w via eT F (g := mkF m pc Ls (.ref a :: st)) rfl rfl hd
  exact Go.of q (K T' X' e')
theorem Go.putF (X : Stand p l e R s m args below meth c T locs cells slots) (hx : p.tables.exec = Jvm.exec) (hZ : Z.Warmed39 s.vm) {own : String} {index : Nat} (hown : s.vm.findClass own = some m.cls) {R0 O n d host C : String} {kk : Nat} {a : Addr} {v old : Value} {ty : FieldType} (w : (Cond.fieldLink own index R0 n d).before a0 Z = true ∨ (Cond.fieldLinkNest own index R0 n d host).before a0 Z = true) (via : Via Z R0 O n d) (eT : T.heap = h) (F : Fld Z h a O n d old) (E : Exa Z h a C) (L : (Cond.lays C O n d).before a0 Z = true ∨ ((Cond.laysFinal C O n d).before a0 Z = true ∧ own = O ∧ meth.name = "<init>")) (wi : (Cond.instantiable C kk).before a0 Z = true) (hty : parseFieldDescriptor d = some ty) (hn : narrow ty v = v) (hf : fits ty v = true) (hd : decode c.code pc0 = .ok (.putfield index, 3)) (hpc : pc = pc0)
    (K : ∀ T' h', Stand p l e R s m args below meth c T' (locs ++ [⟨a, Jvm.RoadKit.slotOf Z O n d⟩]) cells slots → T'.heap = h' → Wr h h' a (Jvm.RoadKit.slotOf Z O n d) v → Fld Z h' a O n d v → Go p e below P T' (mkF m (pc0 + 3) Ls st)) : Go p e below P T (mkF m pc Ls (v :: .ref a :: st)) := by
  subst hpc
  obtain ⟨T', h', X', e', W, q⟩ := Jvm.RoadKit.putF X hx hZ hown w via eT F E L wi hty hn hf (g := mkF m pc Ls (v :: .ref a :: st)) rfl rfl hd
  exact Go.of q (K T' h' X' e' W (F.same W))
theorem Go.newO (X : Stand p l e R s m args below meth c T locs cells slots) (hx : p.tables.exec = Jvm.exec) (hZ : Z.Warmed39 s.vm) {own : String} {index : Nat} (hown : s.vm.findClass own = some m.cls) {C : String} {n : Nat} (w : (Cond.classLink own index C).before a0 Z = true) (wi : (Cond.instantiable C n).before a0 Z = true) (wz : (Cond.initialized C).before a0 Z = true) (eT : T.heap = h) (hd : decode c.code pc0 = .ok (.new index, 3)) (hpc : pc = pc0) (hc : cells + 1 ≤ R.cells) (hl : slots + n ≤ R.slots)
    (K : ∀ T' h' b, b = h.size → Stand p l e R s m args below meth c T' locs (cells + 1) (slots + n) → T'.heap = h' → Ext h h' → Exa Z h' b C → (∀ {O nm d : String} {ty : FieldType}, Laid Z a0 C O nm d → parseFieldDescriptor d = some ty → Fld Z h' b O nm d (defaultValue ty)) → Go p e below P T' (mkF m (pc0 + 3) Ls (.ref b :: st))) : Go p e below P T (mkF m pc Ls st) := by
  subst hpc
  obtain ⟨T', h', X', e', E, A, D, -, q⟩ := Jvm.RoadKit.newO X hx hZ hown w wi wz eT (g := mkF m pc Ls st) rfl hd hc hl
  exact Go.of q (K T' h' _ rfl X' e' E A D)
theorem Go.initO (X : Stand p l e R s m args below meth c T locs cells slots) (hx : p.tables.exec = Jvm.exec) (hZ : Z.Warmed39 s.vm) {own : String} {index : Nat} (hown : s.vm.findClass own = some m.cls) (w1 : (Cond.methodLink own index Lib.objectInit).before a0 Z = true) (w2 : (Cond.instanceMethod Lib.objectInit).before a0 Z = true) (w3 : (Cond.code Lib.objectInit ⟨#[0xb1]⟩ 1 none).before a0 Z = true) (eT : T.heap = h) (hsz : Ls.size = c.maxLocals) {a : Addr} (hd : decode c.code pc0 = .ok (.invokespecial index, 3)) (hpc : pc = pc0) (hf : 1 ≤ R.frames) (hl : (st.map fun v => v.category).sum + 12 ≤ R.locals) (K : ∀ T', Stand p l e R s m args below meth c T' locs cells slots → T'.heap = h → Go p e below P T' (mkF m (pc0 + 3) Ls (st))) : Go p e below P T (mkF m pc Ls (.ref a :: st)) := by
  subst hpc
  obtain ⟨T', X', e', q⟩ := Jvm.RoadKit.initO X hx hZ hown w1 w2 w3 eT (g := mkF m pc Ls (.ref a :: st)) rfl hsz rfl hd hf (W := (st.map fun v => v.category).sum) (by show 2 * 0 + _ ≤ _; omega) hl
  exact Go.of q (K T' X' e')
theorem Go.alen (X : Stand p l e R s m args below meth c T locs cells slots) (hx : p.tables.exec = Jvm.exec) (hZ : Z.Warmed39 s.vm) {a : Addr} {k : ClassId} {ty : FieldType} {n : Int32} {vs : List Value} {dv : Value} (A : Arv Z h a k ty n vs dv) (eT : T.heap = h) (hd : decode c.code pc0 = .ok (.arraylength, 1)) (hpc : pc = pc0) (K : Go p e below P T (mkF m (pc0 + 1) Ls (.int n :: st))) : Go p e below P T (mkF m pc Ls (.ref a :: st)) := by
  subst hpc
  obtain ⟨cl, Ar, -, Sz, Ng, -, -⟩ := A
  refine Go.of (fun _ q => X.arraylength hx (by rw [eT]; exact Ar.1) (State.isArrayOf_alike hZ.alike Ar.2.1) (g := mkF m pc Ls (.ref a :: st)) rfl rfl hd _ q) ?_
  rw [len_of Sz Ng]
  exact K
theorem Go.iaload (X : Stand p l e R s m args below meth c T locs cells slots) (hx : p.tables.exec = Jvm.exec) (hZ : Z.Warmed39 s.vm) {a : Addr} {k : ClassId} {n : Int32} {vs : List Value} {dv : Value} {j : Int32} (v : Value) (A : Arv Z h a k .int n vs dv) (eT : T.heap = h) (hj : ¬ j < 0 ∧ j < n) (hv : vs.getD j.toNatClampNeg dv = v) (hd : decode c.code pc0 = .ok (.iaload, 1)) (hpc : pc = pc0) (K : Go p e below P T (mkF m (pc0 + 1) Ls (v :: st))) : Go p e below P T (mkF m pc Ls (.int j :: .ref a :: st)) := by
  subst hpc
  obtain ⟨cl, Ar, -, Sz, Ng, Hs, -⟩ := A
  have hin : ¬ (j < 0 ∨ cl.slots.size ≤ j.toNatClampNeg) := inb_of Sz hj
  exact Go.of (fun _ q => X.iaload hx (j := j) (v := v) (by rw [eT]; exact Ar.1) (State.isArrayOf_alike hZ.alike Ar.2.1) Ar.2.2 hin (Has.at Hs hin hv) (g := mkF m pc Ls (.int j :: .ref a :: st)) rfl rfl hd _ q) K
theorem Go.laload (X : Stand p l e R s m args below meth c T locs cells slots) (hx : p.tables.exec = Jvm.exec) (hZ : Z.Warmed39 s.vm) {a : Addr} {k : ClassId} {n : Int32} {vs : List Value} {dv : Value} {j : Int32} (v : Value) (A : Arv Z h a k .long n vs dv) (eT : T.heap = h) (hj : ¬ j < 0 ∧ j < n) (hv : vs.getD j.toNatClampNeg dv = v) (hd : decode c.code pc0 = .ok (.laload, 1)) (hpc : pc = pc0) (K : Go p e below P T (mkF m (pc0 + 1) Ls (v :: st))) : Go p e below P T (mkF m pc Ls (.int j :: .ref a :: st)) := by
  subst hpc
  obtain ⟨cl, Ar, -, Sz, Ng, Hs, -⟩ := A
  have hin : ¬ (j < 0 ∨ cl.slots.size ≤ j.toNatClampNeg) := inb_of Sz hj
  exact Go.of (fun _ q => X.laload hx (j := j) (v := v) (by rw [eT]; exact Ar.1) (State.isArrayOf_alike hZ.alike Ar.2.1) Ar.2.2 hin (Has.at Hs hin hv) (g := mkF m pc Ls (.int j :: .ref a :: st)) rfl rfl hd _ q) K
theorem Go.aaload (X : Stand p l e R s m args below meth c T locs cells slots) (hx : p.tables.exec = Jvm.exec) (hZ : Z.Warmed39 s.vm) {a : Addr} {k : ClassId} {ty : FieldType} {n : Int32} {vs : List Value} {dv : Value} {j : Int32} (v : Value) (A : Arv Z h a k ty n vs dv) (eT : T.heap = h) (hty : ty.isReference = true) (hj : ¬ j < 0 ∧ j < n) (hv : vs.getD j.toNatClampNeg dv = v) (hd : decode c.code pc0 = .ok (.aaload, 1)) (hpc : pc = pc0) (K : Go p e below P T (mkF m (pc0 + 1) Ls (v :: st))) : Go p e below P T (mkF m pc Ls (.int j :: .ref a :: st)) := by
  subst hpc
  obtain ⟨cl, Ar, -, Sz, Ng, Hs, -⟩ := A
  have hin : ¬ (j < 0 ∨ cl.slots.size ≤ j.toNatClampNeg) := inb_of Sz hj
  exact Go.of (fun _ q => X.aaload hx (j := j) (v := v) (by rw [eT]; exact Ar.1) (State.isArrayOf_alike hZ.alike Ar.2.1) hty Ar.2.2 hin (Has.at Hs hin hv) (g := mkF m pc Ls (.int j :: .ref a :: st)) rfl rfl hd _ q) K
theorem Go.iastore (X : Stand p l e R s m args below meth c T locs cells slots) (hx : p.tables.exec = Jvm.exec) (hZ : Z.Warmed39 s.vm) {a : Addr} {k : ClassId} {n : Int32} {vs : List Value} {dv : Value} {j : Int32} {x : Int32} (A : Arv Z h a k .int n vs dv) (eT : T.heap = h) (hj : ¬ j < 0 ∧ j < n) (i : Nat) (hi : j.toNatClampNeg = i) (hl : i < vs.length) (hd : decode c.code pc0 = .ok (.iastore, 1)) (hpc : pc = pc0)
    (K : ∀ T' h', Stand p l e R s m args below meth c T' (locs ++ [⟨a, j.toNatClampNeg⟩]) cells slots → T'.heap = h' → Wr h h' a j.toNatClampNeg (.int x) → Arv Z h' a k .int n (vs.set i (.int x)) dv → Go p e below P T' (mkF m (pc0 + 1) Ls st)) : Go p e below P T (mkF m pc Ls (.int x :: .int j :: .ref a :: st)) := by
  subst hpc
  obtain ⟨cl, Ar, cq, Sz, Ng, Hs, Gs⟩ := A
  have hin : ¬ (j < 0 ∨ cl.slots.size ≤ j.toNatClampNeg) := inb_of Sz hj
  obtain ⟨T', h', X', e', W, q⟩ := stI X hx hZ eT Ar (j := j) hin (g := mkF m pc Ls (.int x :: .int j :: .ref a :: st)) rfl rfl hd
  exact Go.of q (K T' h' X' e' W (Arv.set Ar cq Sz Ng Hs Gs rfl W i hi hl))
theorem Go.lastore (X : Stand p l e R s m args below meth c T locs cells slots) (hx : p.tables.exec = Jvm.exec) (hZ : Z.Warmed39 s.vm) {a : Addr} {k : ClassId} {n : Int32} {vs : List Value} {dv : Value} {j : Int32} {x : Int64} (A : Arv Z h a k .long n vs dv) (eT : T.heap = h) (hj : ¬ j < 0 ∧ j < n) (i : Nat) (hi : j.toNatClampNeg = i) (hl : i < vs.length) (hd : decode c.code pc0 = .ok (.lastore, 1)) (hpc : pc = pc0)
    (K : ∀ T' h', Stand p l e R s m args below meth c T' (locs ++ [⟨a, j.toNatClampNeg⟩]) cells slots → T'.heap = h' → Wr h h' a j.toNatClampNeg (.long x) → Arv Z h' a k .long n (vs.set i (.long x)) dv → Go p e below P T' (mkF m (pc0 + 1) Ls st)) : Go p e below P T (mkF m pc Ls (.long x :: .int j :: .ref a :: st)) := by
  subst hpc
  obtain ⟨cl, Ar, cq, Sz, Ng, Hs, Gs⟩ := A
  have hin : ¬ (j < 0 ∨ cl.slots.size ≤ j.toNatClampNeg) := inb_of Sz hj
  obtain ⟨T', h', X', e', W, q⟩ := stJ X hx hZ eT Ar (j := j) hin (g := mkF m pc Ls (.long x :: .int j :: .ref a :: st)) rfl rfl hd
  exact Go.of q (K T' h' X' e' W (Arv.set Ar cq Sz Ng Hs Gs rfl W i hi hl))
theorem Go.aastore (X : Stand p l e R s m args below meth c T locs cells slots) (hx : p.tables.exec = Jvm.exec) (hZ : Z.Warmed39 s.vm) {a : Addr} {k : ClassId} {ty : FieldType} {n : Int32} {vs : List Value} {dv : Value} {j : Int32} {v : Value} (A : Arv Z h a k ty n vs dv) (eT : T.heap = h) (hj : ¬ j < 0 ∧ j < n) (i : Nat) (hi : j.toNatClampNeg = i) (hl : i < vs.length) (hty : ty.isReference = true) (hfv : fits ty v = true) (F : ∀ cl, Arr Z h a cl ty → cl.cls = k → Sto Z h a v) (hd : decode c.code pc0 = .ok (.aastore, 1)) (hpc : pc = pc0)
    (K : ∀ T' h', Stand p l e R s m args below meth c T' (locs ++ [⟨a, j.toNatClampNeg⟩]) cells slots → T'.heap = h' → Wr h h' a j.toNatClampNeg (v) → Arv Z h' a k ty n (vs.set i (v)) dv → Go p e below P T' (mkF m (pc0 + 1) Ls st)) : Go p e below P T (mkF m pc Ls (v :: .int j :: .ref a :: st)) := by
  subst hpc
  obtain ⟨cl, Ar, cq, Sz, Ng, Hs, Gs⟩ := A
  have hin : ¬ (j < 0 ∨ cl.slots.size ≤ j.toNatClampNeg) := inb_of Sz hj
  obtain ⟨T', h', X', e', W, q⟩ := stR X hx hZ eT Ar (j := j) hin hty (F cl Ar cq) (g := mkF m pc Ls (v :: .int j :: .ref a :: st)) rfl rfl hd
  exact Go.of q (K T' h' X' e' W (Arv.set Ar cq Sz Ng Hs Gs hfv W i hi hl))
theorem Go.newP (X : Stand p l e R s m args below meth c T locs cells slots) (hx : p.tables.exec = Jvm.exec) (hZ : Z.Warmed39 s.vm) {aty : ArrayType} {n : Int32} (w : (Cond.arrayClass (newarray.typeOf aty)).before a0 Z = true) (eT : T.heap = h) (u : Nat) (hn : ¬ n < 0) (cap : Nat) (hcap : n.toNatClampNeg ≤ cap) (hb : cap * 8 ≤ 536870912) (hc : cells + 1 ≤ R.cells) (hl : slots + cap ≤ R.slots) (ad : String) (had : "[" ++ (newarray.typeOf aty).toString = ad) (hd : decode c.code pc0 = .ok (.newarray aty, 2)) (hpc : pc = pc0)
    (K : ∀ T' h' b k, b = h.size → Stand p l e R s m args below meth c T' locs (cells + 1) (slots + cap) → T'.heap = h' → Ext h h' → Arv Z h' b k (newarray.typeOf aty) n ([] ++ List.replicate u (defaultValue (newarray.typeOf aty))) (defaultValue (newarray.typeOf aty)) → Exa Z h' b ad → Go p e below P T' (mkF m (pc0 + 2) Ls (.ref b :: st))) : Go p e below P T (mkF m pc Ls (.int n :: st)) := by
  subst hpc
  obtain ⟨T', h', cA, X', e', E, A, A', q⟩ := newPE X hx hZ w eT (g := mkF m pc Ls (.int n :: st)) rfl hd rfl hn (cap := cap) hcap hb hc hl had
  exact Go.of q (K T' h' _ cA rfl X' e' E ((Arv.new A hn).pad (pad_rep [] _ u)) A')
theorem Go.newR (X : Stand p l e R s m args below meth c T locs cells slots) (hx : p.tables.exec = Jvm.exec) (hZ : Z.Warmed39 s.vm) {own : String} {index : Nat} (hown : s.vm.findClass own = some m.cls) {C : String} {n : Int32} (w1 : (Cond.classLink own index C).before a0 Z = true) (w2 : (Cond.arrayOver (.object C)).before a0 Z = true) (eT : T.heap = h) (u : Nat) (hn : ¬ n < 0) (cap : Nat) (hcap : n.toNatClampNeg ≤ cap) (hb : cap * 8 ≤ 536870912) (hc : cells + 1 ≤ R.cells) (hl : slots + cap ≤ R.slots) (hd : decode c.code pc0 = .ok (.anewarray index, 3)) (hpc : pc = pc0)
    (K : ∀ T' h' b k, b = h.size → Stand p l e R s m args below meth c T' locs (cells + 1) (slots + cap) → T'.heap = h' → Ext h h' → Arv Z h' b k (.object C) n ([] ++ List.replicate u (.null)) (.null) → Ovr Z k C → Go p e below P T' (mkF m (pc0 + 3) Ls (.ref b :: st))) : Go p e below P T (mkF m pc Ls (.int n :: st)) := by
  subst hpc
  obtain ⟨T', h', cA, X', e', E, A, O, q⟩ := Jvm.RoadKit.newR X hx hZ hown w1 w2 eT (g := mkF m pc Ls (.int n :: st)) rfl hd rfl hn (cap := cap) hcap hb hc hl
  exact Go.of q (K T' h' _ cA rfl X' e' E ((Arv.new A hn).pad (pad_rep [] _ u)) O)
theorem Go.newRA (X : Stand p l e R s m args below meth c T locs cells slots) (hx : p.tables.exec = Jvm.exec) (hZ : Z.Warmed39 s.vm) {own : String} {index : Nat} (hown : s.vm.findClass own = some m.cls) {C : String} {ty : FieldType} {n : Int32} (hC : (FieldType.array ty).toString = C) (w1 : (Cond.classLink own index C).before a0 Z = true) (w2 : (Cond.arrayOver (.array ty)).before a0 Z = true) (eT : T.heap = h) (u : Nat) (hn : ¬ n < 0) (cap : Nat) (hcap : n.toNatClampNeg ≤ cap) (hb : cap * 8 ≤ 536870912) (hc : cells + 1 ≤ R.cells) (hl : slots + cap ≤ R.slots) (hd : decode c.code pc0 = .ok (.anewarray index, 3)) (hpc : pc = pc0)
    (K : ∀ T' h' b k, b = h.size → Stand p l e R s m args below meth c T' locs (cells + 1) (slots + cap) → T'.heap = h' → Ext h h' → Arv Z h' b k (.array ty) n ([] ++ List.replicate u (.null)) (.null) → OvrA Z k ty C → Go p e below P T' (mkF m (pc0 + 3) Ls (.ref b :: st))) : Go p e below P T (mkF m pc Ls (.int n :: st)) := by
  subst hpc
  obtain ⟨T', h', cA, X', e', E, A, -, O, q⟩ := Jvm.RoadKit.newRA X hx hZ hown hC w1 w2 eT (g := mkF m pc Ls (.int n :: st)) rfl hd rfl hn (cap := cap) hcap hb hc hl rfl
  exact Go.of q (K T' h' _ cA rfl X' e' E ((Arv.new A hn).pad (pad_rep [] _ u)) O)
end OwnSteps
theorem own_i32 {k n : Int32} {v : Int} (h : k.toInt = v) (hv : n.toInt = v) : k = n := Int32.toInt_inj.mp (h.trans hv.symm)
def cellv (c n b : Int32) : Int32 := if c &&& b = 0 then (if n &&& b = 0 then 0 else 2) else 1
theorem own_bit (b : BitVec 32) (i : Nat) (hb : ∀ j, j < 32 → b.getLsbD j = decide (j = i)) (c : BitVec 32) : c &&& b = 0 ∨ c &&& b = b := by
  by_cases h : c.getLsbD i
  · right
    apply BitVec.eq_of_getLsbD_eq
    intro j hj
    rw [BitVec.getLsbD_and, hb j hj]
    by_cases e : j = i
    · subst e; simp [h]
    · simp [e]
  · left
    apply BitVec.eq_of_getLsbD_eq
    intro j hj
    rw [BitVec.getLsbD_and, hb j hj]
    by_cases e : j = i
    · subst e; simp [h]
    · simp [e]
theorem own_bit32 (b : Int32) (i : Nat) (hb : ∀ j, j < 32 → b.toBitVec.getLsbD j = decide (j = i)) (c : Int32) : c &&& b = 0 ∨ c &&& b = b := by
  rcases own_bit b.toBitVec i hb c.toBitVec with h | h
  · left; apply Int32.toBitVec_inj.mp; simpa using h
  · right; apply Int32.toBitVec_inj.mp; simpa using h
theorem own_b1 (c n b : Int32) (h : c &&& b = 0 ∨ c &&& b = b) (hb : b ≠ 0) : (if cellv c n b = 1 then b else 0) = c &&& b := by
  unfold cellv
  rcases h with h | h
  · rw [if_pos h, h]; split <;> simp_all
  · rw [h, if_neg hb]; simp
theorem own_b2 (c n b : Int32) (h : c &&& b = 0 ∨ c &&& b = b) (h' : n &&& b = 0 ∨ n &&& b = b) (hb : b ≠ 0) (hcn : n &&& c = 0) : (if cellv c n b = 2 then b else 0) = n &&& b := by
  unfold cellv
  rcases h with h | h
  · rw [if_pos h]
    rcases h' with h' | h'
    · rw [if_pos h', h']; simp
    · rw [h', if_neg hb]; simp
  · rw [h, if_neg hb]
    have : n &&& b = 0 := by rw [← h, ← Int32.and_assoc, hcn, Int32.zero_and]
    rw [this]; simp
theorem own_b0 (c n b : Int32) (h : c &&& b = 0 ∨ c &&& b = b) (h' : n &&& b = 0 ∨ n &&& b = b) (hb : b ≠ 0) : ((c &&& b) ||| (n &&& b)) ||| (if cellv c n b = 0 then b else 0) = b := by
  unfold cellv
  rcases h with h | h
  · rw [if_pos h, h]
    rcases h' with h' | h'
    · rw [if_pos h', h']; simp
    · rw [h', if_neg hb]; simp
  · rw [h, if_neg hb]
    rcases h' with h' | h' <;> rw [h'] <;> simp
theorem own_dist (c a b : Int32) : (c &&& a) ||| (c &&& b) = c &&& (a ||| b) := Int32.toBitVec_inj.mp (by simp [BitVec.and_or_distrib_left])
theorem own_or9 (c : Int32) : (((((((((c &&& (1 : Int32)) ||| (c &&& (2 : Int32))) ||| (c &&& (4 : Int32))) ||| (c &&& (8 : Int32))) ||| (c &&& (16 : Int32))) ||| (c &&& (32 : Int32))) ||| (c &&& (64 : Int32))) ||| (c &&& (128 : Int32))) ||| (c &&& (256 : Int32))) = c &&& 511 := by
  rw [own_dist, own_dist, own_dist, own_dist, own_dist, own_dist, own_dist, own_dist]
  rfl
theorem own_cn (x0 x1 : Int32) : ((x1 &&& (511 : Int32)) &&& ((x0 &&& (511 : Int32)) ^^^ (-1 : Int32))) &&& (x0 &&& (511 : Int32)) = 0 := by
  apply Int32.toBitVec_inj.mp
  apply BitVec.eq_of_getLsbD_eq
  intro j hj
  simp
  intro h1 h2 h3 h4
  simp_all
theorem own_m1 (x0 x1 : Int32) : (((((((((if (cellv (x0 &&& (511 : Int32)) ((x1 &&& (511 : Int32)) &&& ((x0 &&& (511 : Int32)) ^^^ (-1 : Int32))) (1 : Int32)) = (1 : Int32) then (1 : Int32) else 0) ||| (if (cellv (x0 &&& (511 : Int32)) ((x1 &&& (511 : Int32)) &&& ((x0 &&& (511 : Int32)) ^^^ (-1 : Int32))) (2 : Int32)) = (1 : Int32) then (2 : Int32) else 0)) ||| (if (cellv (x0 &&& (511 : Int32)) ((x1 &&& (511 : Int32)) &&& ((x0 &&& (511 : Int32)) ^^^ (-1 : Int32))) (4 : Int32)) = (1 : Int32) then (4 : Int32) else 0)) ||| (if (cellv (x0 &&& (511 : Int32)) ((x1 &&& (511 : Int32)) &&& ((x0 &&& (511 : Int32)) ^^^ (-1 : Int32))) (8 : Int32)) = (1 : Int32) then (8 : Int32) else 0)) ||| (if (cellv (x0 &&& (511 : Int32)) ((x1 &&& (511 : Int32)) &&& ((x0 &&& (511 : Int32)) ^^^ (-1 : Int32))) (16 : Int32)) = (1 : Int32) then (16 : Int32) else 0)) ||| (if (cellv (x0 &&& (511 : Int32)) ((x1 &&& (511 : Int32)) &&& ((x0 &&& (511 : Int32)) ^^^ (-1 : Int32))) (32 : Int32)) = (1 : Int32) then (32 : Int32) else 0)) ||| (if (cellv (x0 &&& (511 : Int32)) ((x1 &&& (511 : Int32)) &&& ((x0 &&& (511 : Int32)) ^^^ (-1 : Int32))) (64 : Int32)) = (1 : Int32) then (64 : Int32) else 0)) ||| (if (cellv (x0 &&& (511 : Int32)) ((x1 &&& (511 : Int32)) &&& ((x0 &&& (511 : Int32)) ^^^ (-1 : Int32))) (128 : Int32)) = (1 : Int32) then (128 : Int32) else 0)) ||| (if (cellv (x0 &&& (511 : Int32)) ((x1 &&& (511 : Int32)) &&& ((x0 &&& (511 : Int32)) ^^^ (-1 : Int32))) (256 : Int32)) = (1 : Int32) then (256 : Int32) else 0)) = (x0 &&& (511 : Int32)) := by
  have hcn : ((x1 &&& (511 : Int32)) &&& ((x0 &&& (511 : Int32)) ^^^ (-1 : Int32))) &&& (x0 &&& (511 : Int32)) = 0 := own_cn x0 x1
  generalize hc : (x0 &&& (511 : Int32)) = c at *
  generalize hn : ((x1 &&& (511 : Int32)) &&& (c ^^^ (-1 : Int32))) = n at *
  rw [own_b1 c n (1 : Int32) (own_bit32 (1 : Int32) 0 (by decide) c) (by decide)]
  rw [own_b1 c n (2 : Int32) (own_bit32 (2 : Int32) 1 (by decide) c) (by decide)]
  rw [own_b1 c n (4 : Int32) (own_bit32 (4 : Int32) 2 (by decide) c) (by decide)]
  rw [own_b1 c n (8 : Int32) (own_bit32 (8 : Int32) 3 (by decide) c) (by decide)]
  rw [own_b1 c n (16 : Int32) (own_bit32 (16 : Int32) 4 (by decide) c) (by decide)]
  rw [own_b1 c n (32 : Int32) (own_bit32 (32 : Int32) 5 (by decide) c) (by decide)]
  rw [own_b1 c n (64 : Int32) (own_bit32 (64 : Int32) 6 (by decide) c) (by decide)]
  rw [own_b1 c n (128 : Int32) (own_bit32 (128 : Int32) 7 (by decide) c) (by decide)]
  rw [own_b1 c n (256 : Int32) (own_bit32 (256 : Int32) 8 (by decide) c) (by decide)]
  rw [own_or9 c]
  rw [← hc, Int32.and_assoc, Int32.and_self]
theorem own_m2 (x0 x1 : Int32) : (((((((((if (cellv (x0 &&& (511 : Int32)) ((x1 &&& (511 : Int32)) &&& ((x0 &&& (511 : Int32)) ^^^ (-1 : Int32))) (1 : Int32)) = (2 : Int32) then (1 : Int32) else 0) ||| (if (cellv (x0 &&& (511 : Int32)) ((x1 &&& (511 : Int32)) &&& ((x0 &&& (511 : Int32)) ^^^ (-1 : Int32))) (2 : Int32)) = (2 : Int32) then (2 : Int32) else 0)) ||| (if (cellv (x0 &&& (511 : Int32)) ((x1 &&& (511 : Int32)) &&& ((x0 &&& (511 : Int32)) ^^^ (-1 : Int32))) (4 : Int32)) = (2 : Int32) then (4 : Int32) else 0)) ||| (if (cellv (x0 &&& (511 : Int32)) ((x1 &&& (511 : Int32)) &&& ((x0 &&& (511 : Int32)) ^^^ (-1 : Int32))) (8 : Int32)) = (2 : Int32) then (8 : Int32) else 0)) ||| (if (cellv (x0 &&& (511 : Int32)) ((x1 &&& (511 : Int32)) &&& ((x0 &&& (511 : Int32)) ^^^ (-1 : Int32))) (16 : Int32)) = (2 : Int32) then (16 : Int32) else 0)) ||| (if (cellv (x0 &&& (511 : Int32)) ((x1 &&& (511 : Int32)) &&& ((x0 &&& (511 : Int32)) ^^^ (-1 : Int32))) (32 : Int32)) = (2 : Int32) then (32 : Int32) else 0)) ||| (if (cellv (x0 &&& (511 : Int32)) ((x1 &&& (511 : Int32)) &&& ((x0 &&& (511 : Int32)) ^^^ (-1 : Int32))) (64 : Int32)) = (2 : Int32) then (64 : Int32) else 0)) ||| (if (cellv (x0 &&& (511 : Int32)) ((x1 &&& (511 : Int32)) &&& ((x0 &&& (511 : Int32)) ^^^ (-1 : Int32))) (128 : Int32)) = (2 : Int32) then (128 : Int32) else 0)) ||| (if (cellv (x0 &&& (511 : Int32)) ((x1 &&& (511 : Int32)) &&& ((x0 &&& (511 : Int32)) ^^^ (-1 : Int32))) (256 : Int32)) = (2 : Int32) then (256 : Int32) else 0)) = ((x1 &&& (511 : Int32)) &&& ((x0 &&& (511 : Int32)) ^^^ (-1 : Int32))) := by
  have hcn : ((x1 &&& (511 : Int32)) &&& ((x0 &&& (511 : Int32)) ^^^ (-1 : Int32))) &&& (x0 &&& (511 : Int32)) = 0 := own_cn x0 x1
  generalize hc : (x0 &&& (511 : Int32)) = c at *
  generalize hn : ((x1 &&& (511 : Int32)) &&& (c ^^^ (-1 : Int32))) = n at *
  rw [own_b2 c n (1 : Int32) (own_bit32 (1 : Int32) 0 (by decide) c) (own_bit32 (1 : Int32) 0 (by decide) n) (by decide) hcn]
  rw [own_b2 c n (2 : Int32) (own_bit32 (2 : Int32) 1 (by decide) c) (own_bit32 (2 : Int32) 1 (by decide) n) (by decide) hcn]
  rw [own_b2 c n (4 : Int32) (own_bit32 (4 : Int32) 2 (by decide) c) (own_bit32 (4 : Int32) 2 (by decide) n) (by decide) hcn]
  rw [own_b2 c n (8 : Int32) (own_bit32 (8 : Int32) 3 (by decide) c) (own_bit32 (8 : Int32) 3 (by decide) n) (by decide) hcn]
  rw [own_b2 c n (16 : Int32) (own_bit32 (16 : Int32) 4 (by decide) c) (own_bit32 (16 : Int32) 4 (by decide) n) (by decide) hcn]
  rw [own_b2 c n (32 : Int32) (own_bit32 (32 : Int32) 5 (by decide) c) (own_bit32 (32 : Int32) 5 (by decide) n) (by decide) hcn]
  rw [own_b2 c n (64 : Int32) (own_bit32 (64 : Int32) 6 (by decide) c) (own_bit32 (64 : Int32) 6 (by decide) n) (by decide) hcn]
  rw [own_b2 c n (128 : Int32) (own_bit32 (128 : Int32) 7 (by decide) c) (own_bit32 (128 : Int32) 7 (by decide) n) (by decide) hcn]
  rw [own_b2 c n (256 : Int32) (own_bit32 (256 : Int32) 8 (by decide) c) (own_bit32 (256 : Int32) 8 (by decide) n) (by decide) hcn]
  rw [own_or9 n]
  rw [← hn, Int32.and_assoc, Int32.and_comm (c ^^^ (-1 : Int32)), ← Int32.and_assoc, Int32.and_assoc x1, Int32.and_self]
theorem own_not0 (x b : Int32) (h : x &&& b = 0) : ~~~x &&& b = b := by
  apply Int32.toBitVec_inj.mp
  apply BitVec.eq_of_getLsbD_eq
  intro i hi
  have q := congrArg (fun v : Int32 => v.toBitVec.getLsbD i) h
  simp at q
  simp [hi]
  cases u : x.toBitVec.getLsbD i <;> cases v : b.toBitVec.getLsbD i <;> simp_all
theorem own_not1 (x b : Int32) (h : x &&& b = b) : ~~~x &&& b = 0 := by
  apply Int32.toBitVec_inj.mp
  apply BitVec.eq_of_getLsbD_eq
  intro i hi
  have q := congrArg (fun v : Int32 => v.toBitVec.getLsbD i) h
  simp at q
  simp [hi]
  cases u : x.toBitVec.getLsbD i <;> cases v : b.toBitVec.getLsbD i <;> simp_all
theorem own_orand (c n b : Int32) : (c ||| n) &&& b = (c &&& b) ||| (n &&& b) := Int32.toBitVec_inj.mp (by simp [BitVec.and_or_distrib_right])
theorem own_z (c n b : Int32) (h : c &&& b = 0 ∨ c &&& b = b) (h' : n &&& b = 0 ∨ n &&& b = b) (hb : b ≠ 0) : (if cellv c n b = 0 then b else 0) = ~~~(c ||| n) &&& b := by
  have e := own_orand c n b
  unfold cellv
  rcases h with h | h
  · rw [if_pos h]
    rcases h' with h' | h'
    · rw [if_pos h', if_pos rfl, own_not0 _ _ (by rw [e, h, h']; simp)]
    · rw [h', if_neg hb, if_neg (by decide), own_not1 _ _ (by rw [e, h, h']; simp)]
  · rw [h, if_neg hb, if_neg (by decide)]
    rcases h' with h' | h' <;> rw [own_not1 _ _ (by rw [e, h, h']; simp)]
theorem own_fin (x : Int32) (h : x &&& 511 = x) : x ||| (~~~x &&& 511) = 511 := by
  have q : ∀ i, i < 32 → (x.toBitVec.getLsbD i = true → (511 : Int32).toBitVec.getLsbD i = true) := fun i hi u => by
    have z := congrArg (fun v : Int32 => v.toBitVec.getLsbD i) h
    rw [Int32.toBitVec_and] at z
    rw [BitVec.getLsbD_and, u, Bool.true_and] at z
    exact z
  apply Int32.toBitVec_inj.mp
  apply BitVec.eq_of_getLsbD_eq
  intro i hi
  rw [Int32.toBitVec_or, Int32.toBitVec_and, Int32.toBitVec_not, BitVec.getLsbD_or, BitVec.getLsbD_and, BitVec.getLsbD_not]
  have z := q i hi
  cases u : x.toBitVec.getLsbD i
  · simp [hi]
  · rw [z u]; simp
theorem own_m0 (x0 x1 : Int32) : (((((((((((if (cellv (x0 &&& (511 : Int32)) ((x1 &&& (511 : Int32)) &&& ((x0 &&& (511 : Int32)) ^^^ (-1 : Int32))) (1 : Int32)) = (1 : Int32) then (1 : Int32) else 0) ||| (if (cellv (x0 &&& (511 : Int32)) ((x1 &&& (511 : Int32)) &&& ((x0 &&& (511 : Int32)) ^^^ (-1 : Int32))) (2 : Int32)) = (1 : Int32) then (2 : Int32) else 0)) ||| (if (cellv (x0 &&& (511 : Int32)) ((x1 &&& (511 : Int32)) &&& ((x0 &&& (511 : Int32)) ^^^ (-1 : Int32))) (4 : Int32)) = (1 : Int32) then (4 : Int32) else 0)) ||| (if (cellv (x0 &&& (511 : Int32)) ((x1 &&& (511 : Int32)) &&& ((x0 &&& (511 : Int32)) ^^^ (-1 : Int32))) (8 : Int32)) = (1 : Int32) then (8 : Int32) else 0)) ||| (if (cellv (x0 &&& (511 : Int32)) ((x1 &&& (511 : Int32)) &&& ((x0 &&& (511 : Int32)) ^^^ (-1 : Int32))) (16 : Int32)) = (1 : Int32) then (16 : Int32) else 0)) ||| (if (cellv (x0 &&& (511 : Int32)) ((x1 &&& (511 : Int32)) &&& ((x0 &&& (511 : Int32)) ^^^ (-1 : Int32))) (32 : Int32)) = (1 : Int32) then (32 : Int32) else 0)) ||| (if (cellv (x0 &&& (511 : Int32)) ((x1 &&& (511 : Int32)) &&& ((x0 &&& (511 : Int32)) ^^^ (-1 : Int32))) (64 : Int32)) = (1 : Int32) then (64 : Int32) else 0)) ||| (if (cellv (x0 &&& (511 : Int32)) ((x1 &&& (511 : Int32)) &&& ((x0 &&& (511 : Int32)) ^^^ (-1 : Int32))) (128 : Int32)) = (1 : Int32) then (128 : Int32) else 0)) ||| (if (cellv (x0 &&& (511 : Int32)) ((x1 &&& (511 : Int32)) &&& ((x0 &&& (511 : Int32)) ^^^ (-1 : Int32))) (256 : Int32)) = (1 : Int32) then (256 : Int32) else 0)) ||| (((((((((if (cellv (x0 &&& (511 : Int32)) ((x1 &&& (511 : Int32)) &&& ((x0 &&& (511 : Int32)) ^^^ (-1 : Int32))) (1 : Int32)) = (2 : Int32) then (1 : Int32) else 0) ||| (if (cellv (x0 &&& (511 : Int32)) ((x1 &&& (511 : Int32)) &&& ((x0 &&& (511 : Int32)) ^^^ (-1 : Int32))) (2 : Int32)) = (2 : Int32) then (2 : Int32) else 0)) ||| (if (cellv (x0 &&& (511 : Int32)) ((x1 &&& (511 : Int32)) &&& ((x0 &&& (511 : Int32)) ^^^ (-1 : Int32))) (4 : Int32)) = (2 : Int32) then (4 : Int32) else 0)) ||| (if (cellv (x0 &&& (511 : Int32)) ((x1 &&& (511 : Int32)) &&& ((x0 &&& (511 : Int32)) ^^^ (-1 : Int32))) (8 : Int32)) = (2 : Int32) then (8 : Int32) else 0)) ||| (if (cellv (x0 &&& (511 : Int32)) ((x1 &&& (511 : Int32)) &&& ((x0 &&& (511 : Int32)) ^^^ (-1 : Int32))) (16 : Int32)) = (2 : Int32) then (16 : Int32) else 0)) ||| (if (cellv (x0 &&& (511 : Int32)) ((x1 &&& (511 : Int32)) &&& ((x0 &&& (511 : Int32)) ^^^ (-1 : Int32))) (32 : Int32)) = (2 : Int32) then (32 : Int32) else 0)) ||| (if (cellv (x0 &&& (511 : Int32)) ((x1 &&& (511 : Int32)) &&& ((x0 &&& (511 : Int32)) ^^^ (-1 : Int32))) (64 : Int32)) = (2 : Int32) then (64 : Int32) else 0)) ||| (if (cellv (x0 &&& (511 : Int32)) ((x1 &&& (511 : Int32)) &&& ((x0 &&& (511 : Int32)) ^^^ (-1 : Int32))) (128 : Int32)) = (2 : Int32) then (128 : Int32) else 0)) ||| (if (cellv (x0 &&& (511 : Int32)) ((x1 &&& (511 : Int32)) &&& ((x0 &&& (511 : Int32)) ^^^ (-1 : Int32))) (256 : Int32)) = (2 : Int32) then (256 : Int32) else 0))) ||| (((((((((if (cellv (x0 &&& (511 : Int32)) ((x1 &&& (511 : Int32)) &&& ((x0 &&& (511 : Int32)) ^^^ (-1 : Int32))) (1 : Int32)) = (0 : Int32) then (1 : Int32) else 0) ||| (if (cellv (x0 &&& (511 : Int32)) ((x1 &&& (511 : Int32)) &&& ((x0 &&& (511 : Int32)) ^^^ (-1 : Int32))) (2 : Int32)) = (0 : Int32) then (2 : Int32) else 0)) ||| (if (cellv (x0 &&& (511 : Int32)) ((x1 &&& (511 : Int32)) &&& ((x0 &&& (511 : Int32)) ^^^ (-1 : Int32))) (4 : Int32)) = (0 : Int32) then (4 : Int32) else 0)) ||| (if (cellv (x0 &&& (511 : Int32)) ((x1 &&& (511 : Int32)) &&& ((x0 &&& (511 : Int32)) ^^^ (-1 : Int32))) (8 : Int32)) = (0 : Int32) then (8 : Int32) else 0)) ||| (if (cellv (x0 &&& (511 : Int32)) ((x1 &&& (511 : Int32)) &&& ((x0 &&& (511 : Int32)) ^^^ (-1 : Int32))) (16 : Int32)) = (0 : Int32) then (16 : Int32) else 0)) ||| (if (cellv (x0 &&& (511 : Int32)) ((x1 &&& (511 : Int32)) &&& ((x0 &&& (511 : Int32)) ^^^ (-1 : Int32))) (32 : Int32)) = (0 : Int32) then (32 : Int32) else 0)) ||| (if (cellv (x0 &&& (511 : Int32)) ((x1 &&& (511 : Int32)) &&& ((x0 &&& (511 : Int32)) ^^^ (-1 : Int32))) (64 : Int32)) = (0 : Int32) then (64 : Int32) else 0)) ||| (if (cellv (x0 &&& (511 : Int32)) ((x1 &&& (511 : Int32)) &&& ((x0 &&& (511 : Int32)) ^^^ (-1 : Int32))) (128 : Int32)) = (0 : Int32) then (128 : Int32) else 0)) ||| (if (cellv (x0 &&& (511 : Int32)) ((x1 &&& (511 : Int32)) &&& ((x0 &&& (511 : Int32)) ^^^ (-1 : Int32))) (256 : Int32)) = (0 : Int32) then (256 : Int32) else 0))) = 511 := by
  rw [own_m1 x0 x1, own_m2 x0 x1]
  generalize hc : (x0 &&& (511 : Int32)) = c at *
  generalize hn : ((x1 &&& (511 : Int32)) &&& (c ^^^ (-1 : Int32))) = n at *
  rw [own_z c n (1 : Int32) (own_bit32 (1 : Int32) 0 (by decide) c) (own_bit32 (1 : Int32) 0 (by decide) n) (by decide)]
  rw [own_z c n (2 : Int32) (own_bit32 (2 : Int32) 1 (by decide) c) (own_bit32 (2 : Int32) 1 (by decide) n) (by decide)]
  rw [own_z c n (4 : Int32) (own_bit32 (4 : Int32) 2 (by decide) c) (own_bit32 (4 : Int32) 2 (by decide) n) (by decide)]
  rw [own_z c n (8 : Int32) (own_bit32 (8 : Int32) 3 (by decide) c) (own_bit32 (8 : Int32) 3 (by decide) n) (by decide)]
  rw [own_z c n (16 : Int32) (own_bit32 (16 : Int32) 4 (by decide) c) (own_bit32 (16 : Int32) 4 (by decide) n) (by decide)]
  rw [own_z c n (32 : Int32) (own_bit32 (32 : Int32) 5 (by decide) c) (own_bit32 (32 : Int32) 5 (by decide) n) (by decide)]
  rw [own_z c n (64 : Int32) (own_bit32 (64 : Int32) 6 (by decide) c) (own_bit32 (64 : Int32) 6 (by decide) n) (by decide)]
  rw [own_z c n (128 : Int32) (own_bit32 (128 : Int32) 7 (by decide) c) (own_bit32 (128 : Int32) 7 (by decide) n) (by decide)]
  rw [own_z c n (256 : Int32) (own_bit32 (256 : Int32) 8 (by decide) c) (own_bit32 (256 : Int32) 8 (by decide) n) (by decide)]
  rw [own_or9 (~~~(c ||| n))]
  apply own_fin
  rw [own_orand, ← hn, ← hc]
  have u : (x0 &&& (511 : Int32)) &&& 511 = x0 &&& 511 := by rw [Int32.and_assoc, Int32.and_self]
  rw [u]
  congr 1
  generalize ((x0 &&& (511 : Int32)) ^^^ (-1 : Int32)) = Y
  rw [Int32.and_assoc (x1 &&& (511 : Int32)) Y 511, Int32.and_comm Y 511, ← Int32.and_assoc (x1 &&& (511 : Int32)) 511 Y, Int32.and_assoc x1 511 511, Int32.and_self]
theorem pd_0 : parseMethodDescriptor "(I)Z" = some ⟨[.int], some .boolean⟩ := by decide +kernel
theorem pd_1 : parseMethodDescriptor "([III)I" = some ⟨[(.array .int), .int, .int], some .int⟩ := by decide +kernel
theorem pd_2 : parseMethodDescriptor "(II)V" = some ⟨[.int, .int], none⟩ := by decide +kernel
theorem pd_3 : parseMethodDescriptor "()[I" = some ⟨[], some (.array .int)⟩ := by decide +kernel
theorem pd_4 : parseMethodDescriptor "([II)I" = some ⟨[(.array .int), .int], some .int⟩ := by decide +kernel
def Facts (Z : State) (a_LINES : Addr) (k_LINES : ClassId) : Prop := (Sta Z Z.heap "com/example/afterstate/afterstate/tictactoe/TicTacToePosition" "LINES" "[I" (.ref a_LINES)) ∧ (Arv Z Z.heap a_LINES k_LINES .int (8 : Int32) [(.int (7 : Int32)), (.int (56 : Int32)), (.int (448 : Int32)), (.int (73 : Int32)), (.int (146 : Int32)), (.int (292 : Int32)), (.int (273 : Int32)), (.int (84 : Int32))] (.int (0 : Int32)))
theorem d3_0 : decode prog_67_method_10_code 0 = .ok (.getstatic 80, 3) := by decide +kernel
theorem d3_3 : decode prog_67_method_10_code 3 = .ok (.astore_n 1, 1) := by decide +kernel
theorem d3_4 : decode prog_67_method_10_code 4 = .ok (.aload_n 1, 1) := by decide +kernel
theorem d3_5 : decode prog_67_method_10_code 5 = .ok (.arraylength, 1) := by decide +kernel
theorem d3_6 : decode prog_67_method_10_code 6 = .ok (.istore_n 2, 1) := by decide +kernel
theorem d3_7 : decode prog_67_method_10_code 7 = .ok (.iconst 0, 1) := by decide +kernel
theorem d3_8 : decode prog_67_method_10_code 8 = .ok (.istore_n 3, 1) := by decide +kernel
theorem d3_9 : decode prog_67_method_10_code 9 = .ok (.iload_n 3, 1) := by decide +kernel
theorem d3_10 : decode prog_67_method_10_code 10 = .ok (.iload_n 2, 1) := by decide +kernel
theorem d3_11 : decode prog_67_method_10_code 11 = .ok (.if_icmp .ge 25, 3) := by decide +kernel
theorem d3_14 : decode prog_67_method_10_code 14 = .ok (.aload_n 1, 1) := by decide +kernel
theorem d3_15 : decode prog_67_method_10_code 15 = .ok (.iload_n 3, 1) := by decide +kernel
theorem d3_16 : decode prog_67_method_10_code 16 = .ok (.iaload, 1) := by decide +kernel
theorem d3_17 : decode prog_67_method_10_code 17 = .ok (.istore 4, 2) := by decide +kernel
theorem d3_19 : decode prog_67_method_10_code 19 = .ok (.iload_n 0, 1) := by decide +kernel
theorem d3_20 : decode prog_67_method_10_code 20 = .ok (.iload 4, 2) := by decide +kernel
theorem d3_22 : decode prog_67_method_10_code 22 = .ok (.iand, 1) := by decide +kernel
theorem d3_23 : decode prog_67_method_10_code 23 = .ok (.iload 4, 2) := by decide +kernel
theorem d3_25 : decode prog_67_method_10_code 25 = .ok (.if_icmp .ne 5, 3) := by decide +kernel
theorem d3_28 : decode prog_67_method_10_code 28 = .ok (.iconst 1, 1) := by decide +kernel
theorem d3_29 : decode prog_67_method_10_code 29 = .ok (.ireturn, 1) := by decide +kernel
theorem d3_30 : decode prog_67_method_10_code 30 = .ok (.iinc 3 1, 3) := by decide +kernel
theorem d3_33 : decode prog_67_method_10_code 33 = .ok (.goto (-24), 3) := by decide +kernel
theorem d3_36 : decode prog_67_method_10_code 36 = .ok (.iconst 0, 1) := by decide +kernel
theorem d3_37 : decode prog_67_method_10_code 37 = .ok (.ireturn, 1) := by decide +kernel
theorem pn_3 : plainName "com/example/afterstate/afterstate/tictactoe/TicTacToePosition" = true := by first | (simp [plainName, overriddenIn]; done) | decide +kernel
theorem ef_3 (m : MethodId) (x0 : Int32) : entryFrame m #[(.int x0)] 5 = mkF m 0 #[.val (.int x0), .unset, .unset, .unset, .unset] [] := by first | (simp [entryFrame, mkF, argsToLocals, Value.category]; done) | rfl
set_option maxRecDepth 65536 in
set_option maxHeartbeats 40000000 in
theorem rmL (l : Launch) (Z : State) (a0 : Array Value) (hw : ∀ d ∈ tables_1, d.before a0 Z = true) (x0 : Int32) (a_LINES : Addr) (k_LINES : ClassId) (h0 : Heap) (O0 : Old Z Z.heap.size h0) (FF : Facts Z a_LINES k_LINES) : Ctr l Z (⟨"com/example/afterstate/afterstate/tictactoe/TicTacToePosition", "completesLine", "(I)Z"⟩ : MethodName) prog_67_method_10_code 5 (some .boolean) ({ frames := 0, cells := 0, slots := 0, locals := 0 } : Room) #[(.int x0)] h0 (fun v h L => (∃ z : Int32, v = some (.int z)) ∧ L = [] ∧ h = h0) := by
  refine Ctr.of (plainFor_of_name pn_3) ?_
  have wd : ∀ {d : Jvm.Cond} (i : Nat), tables_1[i]? = some d → d.before a0 Z = true := fun i q => hw _ (List.mem_of_getElem? q)
  intro p e s m below meth c s₁ hx hby hml hown hnm hret hlk hZ X0 e0
  have FF' := FF
  obtain ⟨S_LINES, V_LINES⟩ := FF'
  refine Go.cast (ef_3 m x0) ?_
  show Go p e below _ s₁ (mkF m 0 #[.val (.int x0), .unset, .unset, .unset, .unset] [])
  refine Go.getS X0 hx hZ hown (host := "") (Or.inl (wd 16 rfl)) Via.refl e0 (S_LINES.ext O0.2) (hb hby d3_0) rfl ?_
  intro T1 X1 e1
  refine Go.astoreN X1 hx (hb hby d3_3) rfl rfl #[.val (.int x0), .val (.ref a_LINES), .unset, .unset, .unset] rfl ?_
  refine Go.aloadN X1 hx (hb hby d3_4) rfl rfl rfl ?_
  refine Go.alen X1 hx hZ (V_LINES.ext O0.2) e1 (hb hby d3_5) rfl ?_
  refine Go.istoreN X1 hx (hb hby d3_6) rfl  #[.val (.int x0), .val (.ref a_LINES), .val (.int (8 : Int32)), .unset, .unset] rfl ?_
  refine Go.iconst X1 hx (hb hby d3_7) rfl (0 : Int32) rfl ?_
  refine Go.istoreN X1 hx (hb hby d3_8) rfl  #[.val (.int x0), .val (.ref a_LINES), .val (.int (8 : Int32)), .val (.int (0 : Int32)), .unset] rfl ?_
  refine Go.iloadN X1 hx (hb hby d3_9) rfl rfl  ?_
  refine Go.iloadN X1 hx (hb hby d3_10) rfl rfl  ?_
  refine Go.icmpNo X1 hx (hb hby d3_11) rfl (tlt (by decide : (0 : Int32) < (8 : Int32))).2.1 ?_
  refine Go.aloadN X1 hx (hb hby d3_14) rfl rfl rfl ?_
  refine Go.iloadN X1 hx (hb hby d3_15) rfl rfl  ?_
  refine Go.iaload X1 hx hZ (.int (7 : Int32)) (V_LINES.ext O0.2) e1  ⟨by decide, by decide⟩ rfl (hb hby d3_16) rfl ?_
  refine Go.istore X1 hx (hb hby d3_17) rfl  #[.val (.int x0), .val (.ref a_LINES), .val (.int (8 : Int32)), .val (.int (0 : Int32)), .val (.int (7 : Int32))] rfl ?_
  refine Go.iloadN X1 hx (hb hby d3_19) rfl rfl  ?_
  refine Go.iload X1 hx (hb hby d3_20) rfl rfl  ?_
  refine Go.iand X1 hx (hb hby d3_22) rfl ?_
  refine Go.iload X1 hx (hb hby d3_23) rfl rfl  ?_
  by_cases hc2 : (x0 &&& (7 : Int32)) = (7 : Int32)
  · refine Go.icmpNo X1 hx (hb hby d3_25) rfl (teq hc2).2 ?_
    refine Go.iconst X1 hx (hb hby d3_28) rfl (1 : Int32) rfl ?_
    exact Go.retZ X1 hx (z' := (1 : Int32)) hret hlk (hb hby d3_29) rfl (by decide) (by rw [e1]; exact ⟨⟨_, rfl⟩, rfl, rfl⟩) (Nat.le_of_ble_eq_true rfl) (Nat.le_of_ble_eq_true rfl)
  · refine Go.icmpYes X1 hx (hb hby d3_25) rfl 30 (feq hc2).2 (by decide) (by decide) ?_
    refine Go.iinc X1 hx (hb hby d3_30) rfl rfl #[.val (.int x0), .val (.ref a_LINES), .val (.int (8 : Int32)), .val (.int ((0 : Int32) + (1 : Int32))), .val (.int (7 : Int32))] rfl ?_
    show Go p e below _ T1 (mkF m 33 #[.val (.int x0), .val (.ref a_LINES), .val (.int (8 : Int32)), .val (.int ((0 : Int32) + (1 : Int32))), .val (.int (7 : Int32))] [])
    rw [show ((0 : Int32) + (1 : Int32)) = (1 : Int32) from by decide]
    show Go p e below _ T1 (mkF m 33 #[.val (.int x0), .val (.ref a_LINES), .val (.int (8 : Int32)), .val (.int (1 : Int32)), .val (.int (7 : Int32))] [])
    refine Go.goto X1 hx (hb hby d3_33) rfl 9 (by decide) (by decide) ?_
    refine Go.iloadN X1 hx (hb hby d3_9) rfl rfl  ?_
    refine Go.iloadN X1 hx (hb hby d3_10) rfl rfl  ?_
    refine Go.icmpNo X1 hx (hb hby d3_11) rfl (tlt (by decide : (1 : Int32) < (8 : Int32))).2.1 ?_
    refine Go.aloadN X1 hx (hb hby d3_14) rfl rfl rfl ?_
    refine Go.iloadN X1 hx (hb hby d3_15) rfl rfl  ?_
    refine Go.iaload X1 hx hZ (.int (56 : Int32)) (V_LINES.ext O0.2) e1  ⟨by decide, by decide⟩ rfl (hb hby d3_16) rfl ?_
    refine Go.istore X1 hx (hb hby d3_17) rfl  #[.val (.int x0), .val (.ref a_LINES), .val (.int (8 : Int32)), .val (.int (1 : Int32)), .val (.int (56 : Int32))] rfl ?_
    refine Go.iloadN X1 hx (hb hby d3_19) rfl rfl  ?_
    refine Go.iload X1 hx (hb hby d3_20) rfl rfl  ?_
    refine Go.iand X1 hx (hb hby d3_22) rfl ?_
    refine Go.iload X1 hx (hb hby d3_23) rfl rfl  ?_
    by_cases hc3 : (x0 &&& (56 : Int32)) = (56 : Int32)
    · refine Go.icmpNo X1 hx (hb hby d3_25) rfl (teq hc3).2 ?_
      refine Go.iconst X1 hx (hb hby d3_28) rfl (1 : Int32) rfl ?_
      exact Go.retZ X1 hx (z' := (1 : Int32)) hret hlk (hb hby d3_29) rfl (by decide) (by rw [e1]; exact ⟨⟨_, rfl⟩, rfl, rfl⟩) (Nat.le_of_ble_eq_true rfl) (Nat.le_of_ble_eq_true rfl)
    · refine Go.icmpYes X1 hx (hb hby d3_25) rfl 30 (feq hc3).2 (by decide) (by decide) ?_
      refine Go.iinc X1 hx (hb hby d3_30) rfl rfl #[.val (.int x0), .val (.ref a_LINES), .val (.int (8 : Int32)), .val (.int ((1 : Int32) + (1 : Int32))), .val (.int (56 : Int32))] rfl ?_
      show Go p e below _ T1 (mkF m 33 #[.val (.int x0), .val (.ref a_LINES), .val (.int (8 : Int32)), .val (.int ((1 : Int32) + (1 : Int32))), .val (.int (56 : Int32))] [])
      rw [show ((1 : Int32) + (1 : Int32)) = (2 : Int32) from by decide]
      show Go p e below _ T1 (mkF m 33 #[.val (.int x0), .val (.ref a_LINES), .val (.int (8 : Int32)), .val (.int (2 : Int32)), .val (.int (56 : Int32))] [])
      refine Go.goto X1 hx (hb hby d3_33) rfl 9 (by decide) (by decide) ?_
      refine Go.iloadN X1 hx (hb hby d3_9) rfl rfl  ?_
      refine Go.iloadN X1 hx (hb hby d3_10) rfl rfl  ?_
      refine Go.icmpNo X1 hx (hb hby d3_11) rfl (tlt (by decide : (2 : Int32) < (8 : Int32))).2.1 ?_
      refine Go.aloadN X1 hx (hb hby d3_14) rfl rfl rfl ?_
      refine Go.iloadN X1 hx (hb hby d3_15) rfl rfl  ?_
      refine Go.iaload X1 hx hZ (.int (448 : Int32)) (V_LINES.ext O0.2) e1  ⟨by decide, by decide⟩ rfl (hb hby d3_16) rfl ?_
      refine Go.istore X1 hx (hb hby d3_17) rfl  #[.val (.int x0), .val (.ref a_LINES), .val (.int (8 : Int32)), .val (.int (2 : Int32)), .val (.int (448 : Int32))] rfl ?_
      refine Go.iloadN X1 hx (hb hby d3_19) rfl rfl  ?_
      refine Go.iload X1 hx (hb hby d3_20) rfl rfl  ?_
      refine Go.iand X1 hx (hb hby d3_22) rfl ?_
      refine Go.iload X1 hx (hb hby d3_23) rfl rfl  ?_
      by_cases hc4 : (x0 &&& (448 : Int32)) = (448 : Int32)
      · refine Go.icmpNo X1 hx (hb hby d3_25) rfl (teq hc4).2 ?_
        refine Go.iconst X1 hx (hb hby d3_28) rfl (1 : Int32) rfl ?_
        exact Go.retZ X1 hx (z' := (1 : Int32)) hret hlk (hb hby d3_29) rfl (by decide) (by rw [e1]; exact ⟨⟨_, rfl⟩, rfl, rfl⟩) (Nat.le_of_ble_eq_true rfl) (Nat.le_of_ble_eq_true rfl)
      · refine Go.icmpYes X1 hx (hb hby d3_25) rfl 30 (feq hc4).2 (by decide) (by decide) ?_
        refine Go.iinc X1 hx (hb hby d3_30) rfl rfl #[.val (.int x0), .val (.ref a_LINES), .val (.int (8 : Int32)), .val (.int ((2 : Int32) + (1 : Int32))), .val (.int (448 : Int32))] rfl ?_
        show Go p e below _ T1 (mkF m 33 #[.val (.int x0), .val (.ref a_LINES), .val (.int (8 : Int32)), .val (.int ((2 : Int32) + (1 : Int32))), .val (.int (448 : Int32))] [])
        rw [show ((2 : Int32) + (1 : Int32)) = (3 : Int32) from by decide]
        show Go p e below _ T1 (mkF m 33 #[.val (.int x0), .val (.ref a_LINES), .val (.int (8 : Int32)), .val (.int (3 : Int32)), .val (.int (448 : Int32))] [])
        refine Go.goto X1 hx (hb hby d3_33) rfl 9 (by decide) (by decide) ?_
        refine Go.iloadN X1 hx (hb hby d3_9) rfl rfl  ?_
        refine Go.iloadN X1 hx (hb hby d3_10) rfl rfl  ?_
        refine Go.icmpNo X1 hx (hb hby d3_11) rfl (tlt (by decide : (3 : Int32) < (8 : Int32))).2.1 ?_
        refine Go.aloadN X1 hx (hb hby d3_14) rfl rfl rfl ?_
        refine Go.iloadN X1 hx (hb hby d3_15) rfl rfl  ?_
        refine Go.iaload X1 hx hZ (.int (73 : Int32)) (V_LINES.ext O0.2) e1  ⟨by decide, by decide⟩ rfl (hb hby d3_16) rfl ?_
        refine Go.istore X1 hx (hb hby d3_17) rfl  #[.val (.int x0), .val (.ref a_LINES), .val (.int (8 : Int32)), .val (.int (3 : Int32)), .val (.int (73 : Int32))] rfl ?_
        refine Go.iloadN X1 hx (hb hby d3_19) rfl rfl  ?_
        refine Go.iload X1 hx (hb hby d3_20) rfl rfl  ?_
        refine Go.iand X1 hx (hb hby d3_22) rfl ?_
        refine Go.iload X1 hx (hb hby d3_23) rfl rfl  ?_
        by_cases hc5 : (x0 &&& (73 : Int32)) = (73 : Int32)
        · refine Go.icmpNo X1 hx (hb hby d3_25) rfl (teq hc5).2 ?_
          refine Go.iconst X1 hx (hb hby d3_28) rfl (1 : Int32) rfl ?_
          exact Go.retZ X1 hx (z' := (1 : Int32)) hret hlk (hb hby d3_29) rfl (by decide) (by rw [e1]; exact ⟨⟨_, rfl⟩, rfl, rfl⟩) (Nat.le_of_ble_eq_true rfl) (Nat.le_of_ble_eq_true rfl)
        · refine Go.icmpYes X1 hx (hb hby d3_25) rfl 30 (feq hc5).2 (by decide) (by decide) ?_
          refine Go.iinc X1 hx (hb hby d3_30) rfl rfl #[.val (.int x0), .val (.ref a_LINES), .val (.int (8 : Int32)), .val (.int ((3 : Int32) + (1 : Int32))), .val (.int (73 : Int32))] rfl ?_
          show Go p e below _ T1 (mkF m 33 #[.val (.int x0), .val (.ref a_LINES), .val (.int (8 : Int32)), .val (.int ((3 : Int32) + (1 : Int32))), .val (.int (73 : Int32))] [])
          rw [show ((3 : Int32) + (1 : Int32)) = (4 : Int32) from by decide]
          show Go p e below _ T1 (mkF m 33 #[.val (.int x0), .val (.ref a_LINES), .val (.int (8 : Int32)), .val (.int (4 : Int32)), .val (.int (73 : Int32))] [])
          refine Go.goto X1 hx (hb hby d3_33) rfl 9 (by decide) (by decide) ?_
          refine Go.iloadN X1 hx (hb hby d3_9) rfl rfl  ?_
          refine Go.iloadN X1 hx (hb hby d3_10) rfl rfl  ?_
          refine Go.icmpNo X1 hx (hb hby d3_11) rfl (tlt (by decide : (4 : Int32) < (8 : Int32))).2.1 ?_
          refine Go.aloadN X1 hx (hb hby d3_14) rfl rfl rfl ?_
          refine Go.iloadN X1 hx (hb hby d3_15) rfl rfl  ?_
          refine Go.iaload X1 hx hZ (.int (146 : Int32)) (V_LINES.ext O0.2) e1  ⟨by decide, by decide⟩ rfl (hb hby d3_16) rfl ?_
          refine Go.istore X1 hx (hb hby d3_17) rfl  #[.val (.int x0), .val (.ref a_LINES), .val (.int (8 : Int32)), .val (.int (4 : Int32)), .val (.int (146 : Int32))] rfl ?_
          refine Go.iloadN X1 hx (hb hby d3_19) rfl rfl  ?_
          refine Go.iload X1 hx (hb hby d3_20) rfl rfl  ?_
          refine Go.iand X1 hx (hb hby d3_22) rfl ?_
          refine Go.iload X1 hx (hb hby d3_23) rfl rfl  ?_
          by_cases hc6 : (x0 &&& (146 : Int32)) = (146 : Int32)
          · refine Go.icmpNo X1 hx (hb hby d3_25) rfl (teq hc6).2 ?_
            refine Go.iconst X1 hx (hb hby d3_28) rfl (1 : Int32) rfl ?_
            exact Go.retZ X1 hx (z' := (1 : Int32)) hret hlk (hb hby d3_29) rfl (by decide) (by rw [e1]; exact ⟨⟨_, rfl⟩, rfl, rfl⟩) (Nat.le_of_ble_eq_true rfl) (Nat.le_of_ble_eq_true rfl)
          · refine Go.icmpYes X1 hx (hb hby d3_25) rfl 30 (feq hc6).2 (by decide) (by decide) ?_
            refine Go.iinc X1 hx (hb hby d3_30) rfl rfl #[.val (.int x0), .val (.ref a_LINES), .val (.int (8 : Int32)), .val (.int ((4 : Int32) + (1 : Int32))), .val (.int (146 : Int32))] rfl ?_
            show Go p e below _ T1 (mkF m 33 #[.val (.int x0), .val (.ref a_LINES), .val (.int (8 : Int32)), .val (.int ((4 : Int32) + (1 : Int32))), .val (.int (146 : Int32))] [])
            rw [show ((4 : Int32) + (1 : Int32)) = (5 : Int32) from by decide]
            show Go p e below _ T1 (mkF m 33 #[.val (.int x0), .val (.ref a_LINES), .val (.int (8 : Int32)), .val (.int (5 : Int32)), .val (.int (146 : Int32))] [])
            refine Go.goto X1 hx (hb hby d3_33) rfl 9 (by decide) (by decide) ?_
            refine Go.iloadN X1 hx (hb hby d3_9) rfl rfl  ?_
            refine Go.iloadN X1 hx (hb hby d3_10) rfl rfl  ?_
            refine Go.icmpNo X1 hx (hb hby d3_11) rfl (tlt (by decide : (5 : Int32) < (8 : Int32))).2.1 ?_
            refine Go.aloadN X1 hx (hb hby d3_14) rfl rfl rfl ?_
            refine Go.iloadN X1 hx (hb hby d3_15) rfl rfl  ?_
            refine Go.iaload X1 hx hZ (.int (292 : Int32)) (V_LINES.ext O0.2) e1  ⟨by decide, by decide⟩ rfl (hb hby d3_16) rfl ?_
            refine Go.istore X1 hx (hb hby d3_17) rfl  #[.val (.int x0), .val (.ref a_LINES), .val (.int (8 : Int32)), .val (.int (5 : Int32)), .val (.int (292 : Int32))] rfl ?_
            refine Go.iloadN X1 hx (hb hby d3_19) rfl rfl  ?_
            refine Go.iload X1 hx (hb hby d3_20) rfl rfl  ?_
            refine Go.iand X1 hx (hb hby d3_22) rfl ?_
            refine Go.iload X1 hx (hb hby d3_23) rfl rfl  ?_
            by_cases hc7 : (x0 &&& (292 : Int32)) = (292 : Int32)
            · refine Go.icmpNo X1 hx (hb hby d3_25) rfl (teq hc7).2 ?_
              refine Go.iconst X1 hx (hb hby d3_28) rfl (1 : Int32) rfl ?_
              exact Go.retZ X1 hx (z' := (1 : Int32)) hret hlk (hb hby d3_29) rfl (by decide) (by rw [e1]; exact ⟨⟨_, rfl⟩, rfl, rfl⟩) (Nat.le_of_ble_eq_true rfl) (Nat.le_of_ble_eq_true rfl)
            · refine Go.icmpYes X1 hx (hb hby d3_25) rfl 30 (feq hc7).2 (by decide) (by decide) ?_
              refine Go.iinc X1 hx (hb hby d3_30) rfl rfl #[.val (.int x0), .val (.ref a_LINES), .val (.int (8 : Int32)), .val (.int ((5 : Int32) + (1 : Int32))), .val (.int (292 : Int32))] rfl ?_
              show Go p e below _ T1 (mkF m 33 #[.val (.int x0), .val (.ref a_LINES), .val (.int (8 : Int32)), .val (.int ((5 : Int32) + (1 : Int32))), .val (.int (292 : Int32))] [])
              rw [show ((5 : Int32) + (1 : Int32)) = (6 : Int32) from by decide]
              show Go p e below _ T1 (mkF m 33 #[.val (.int x0), .val (.ref a_LINES), .val (.int (8 : Int32)), .val (.int (6 : Int32)), .val (.int (292 : Int32))] [])
              refine Go.goto X1 hx (hb hby d3_33) rfl 9 (by decide) (by decide) ?_
              refine Go.iloadN X1 hx (hb hby d3_9) rfl rfl  ?_
              refine Go.iloadN X1 hx (hb hby d3_10) rfl rfl  ?_
              refine Go.icmpNo X1 hx (hb hby d3_11) rfl (tlt (by decide : (6 : Int32) < (8 : Int32))).2.1 ?_
              refine Go.aloadN X1 hx (hb hby d3_14) rfl rfl rfl ?_
              refine Go.iloadN X1 hx (hb hby d3_15) rfl rfl  ?_
              refine Go.iaload X1 hx hZ (.int (273 : Int32)) (V_LINES.ext O0.2) e1  ⟨by decide, by decide⟩ rfl (hb hby d3_16) rfl ?_
              refine Go.istore X1 hx (hb hby d3_17) rfl  #[.val (.int x0), .val (.ref a_LINES), .val (.int (8 : Int32)), .val (.int (6 : Int32)), .val (.int (273 : Int32))] rfl ?_
              refine Go.iloadN X1 hx (hb hby d3_19) rfl rfl  ?_
              refine Go.iload X1 hx (hb hby d3_20) rfl rfl  ?_
              refine Go.iand X1 hx (hb hby d3_22) rfl ?_
              refine Go.iload X1 hx (hb hby d3_23) rfl rfl  ?_
              by_cases hc8 : (x0 &&& (273 : Int32)) = (273 : Int32)
              · refine Go.icmpNo X1 hx (hb hby d3_25) rfl (teq hc8).2 ?_
                refine Go.iconst X1 hx (hb hby d3_28) rfl (1 : Int32) rfl ?_
                exact Go.retZ X1 hx (z' := (1 : Int32)) hret hlk (hb hby d3_29) rfl (by decide) (by rw [e1]; exact ⟨⟨_, rfl⟩, rfl, rfl⟩) (Nat.le_of_ble_eq_true rfl) (Nat.le_of_ble_eq_true rfl)
              · refine Go.icmpYes X1 hx (hb hby d3_25) rfl 30 (feq hc8).2 (by decide) (by decide) ?_
                refine Go.iinc X1 hx (hb hby d3_30) rfl rfl #[.val (.int x0), .val (.ref a_LINES), .val (.int (8 : Int32)), .val (.int ((6 : Int32) + (1 : Int32))), .val (.int (273 : Int32))] rfl ?_
                show Go p e below _ T1 (mkF m 33 #[.val (.int x0), .val (.ref a_LINES), .val (.int (8 : Int32)), .val (.int ((6 : Int32) + (1 : Int32))), .val (.int (273 : Int32))] [])
                rw [show ((6 : Int32) + (1 : Int32)) = (7 : Int32) from by decide]
                show Go p e below _ T1 (mkF m 33 #[.val (.int x0), .val (.ref a_LINES), .val (.int (8 : Int32)), .val (.int (7 : Int32)), .val (.int (273 : Int32))] [])
                refine Go.goto X1 hx (hb hby d3_33) rfl 9 (by decide) (by decide) ?_
                refine Go.iloadN X1 hx (hb hby d3_9) rfl rfl  ?_
                refine Go.iloadN X1 hx (hb hby d3_10) rfl rfl  ?_
                refine Go.icmpNo X1 hx (hb hby d3_11) rfl (tlt (by decide : (7 : Int32) < (8 : Int32))).2.1 ?_
                refine Go.aloadN X1 hx (hb hby d3_14) rfl rfl rfl ?_
                refine Go.iloadN X1 hx (hb hby d3_15) rfl rfl  ?_
                refine Go.iaload X1 hx hZ (.int (84 : Int32)) (V_LINES.ext O0.2) e1  ⟨by decide, by decide⟩ rfl (hb hby d3_16) rfl ?_
                refine Go.istore X1 hx (hb hby d3_17) rfl  #[.val (.int x0), .val (.ref a_LINES), .val (.int (8 : Int32)), .val (.int (7 : Int32)), .val (.int (84 : Int32))] rfl ?_
                refine Go.iloadN X1 hx (hb hby d3_19) rfl rfl  ?_
                refine Go.iload X1 hx (hb hby d3_20) rfl rfl  ?_
                refine Go.iand X1 hx (hb hby d3_22) rfl ?_
                refine Go.iload X1 hx (hb hby d3_23) rfl rfl  ?_
                by_cases hc9 : (x0 &&& (84 : Int32)) = (84 : Int32)
                · refine Go.icmpNo X1 hx (hb hby d3_25) rfl (teq hc9).2 ?_
                  refine Go.iconst X1 hx (hb hby d3_28) rfl (1 : Int32) rfl ?_
                  exact Go.retZ X1 hx (z' := (1 : Int32)) hret hlk (hb hby d3_29) rfl (by decide) (by rw [e1]; exact ⟨⟨_, rfl⟩, rfl, rfl⟩) (Nat.le_of_ble_eq_true rfl) (Nat.le_of_ble_eq_true rfl)
                · refine Go.icmpYes X1 hx (hb hby d3_25) rfl 30 (feq hc9).2 (by decide) (by decide) ?_
                  refine Go.iinc X1 hx (hb hby d3_30) rfl rfl #[.val (.int x0), .val (.ref a_LINES), .val (.int (8 : Int32)), .val (.int ((7 : Int32) + (1 : Int32))), .val (.int (84 : Int32))] rfl ?_
                  show Go p e below _ T1 (mkF m 33 #[.val (.int x0), .val (.ref a_LINES), .val (.int (8 : Int32)), .val (.int ((7 : Int32) + (1 : Int32))), .val (.int (84 : Int32))] [])
                  rw [show ((7 : Int32) + (1 : Int32)) = (8 : Int32) from by decide]
                  show Go p e below _ T1 (mkF m 33 #[.val (.int x0), .val (.ref a_LINES), .val (.int (8 : Int32)), .val (.int (8 : Int32)), .val (.int (84 : Int32))] [])
                  refine Go.goto X1 hx (hb hby d3_33) rfl 9 (by decide) (by decide) ?_
                  refine Go.iloadN X1 hx (hb hby d3_9) rfl rfl  ?_
                  refine Go.iloadN X1 hx (hb hby d3_10) rfl rfl  ?_
                  refine Go.icmpYes X1 hx (hb hby d3_11) rfl 36 (flt (by decide : ¬ ((8 : Int32) < (8 : Int32)))).2.1 (by decide) (by decide) ?_
                  refine Go.iconst X1 hx (hb hby d3_36) rfl (0 : Int32) rfl ?_
                  exact Go.retZ X1 hx (z' := (0 : Int32)) hret hlk (hb hby d3_37) rfl (by decide) (by rw [e1]; exact ⟨⟨_, rfl⟩, rfl, rfl⟩) (Nat.le_of_ble_eq_true rfl) (Nat.le_of_ble_eq_true rfl)
theorem d1_0 : decode prog_67_method_1_code 0 = .ok (.aload_n 0, 1) := by decide +kernel
theorem d1_1 : decode prog_67_method_1_code 1 = .ok (.invokespecial 3, 3) := by decide +kernel
theorem d1_4 : decode prog_67_method_1_code 4 = .ok (.aload_n 0, 1) := by decide +kernel
theorem d1_5 : decode prog_67_method_1_code 5 = .ok (.iload_n 1, 1) := by decide +kernel
theorem d1_6 : decode prog_67_method_1_code 6 = .ok (.putfield 9, 3) := by decide +kernel
theorem d1_9 : decode prog_67_method_1_code 9 = .ok (.aload_n 0, 1) := by decide +kernel
theorem d1_10 : decode prog_67_method_1_code 10 = .ok (.iload_n 2, 1) := by decide +kernel
theorem d1_11 : decode prog_67_method_1_code 11 = .ok (.putfield 13, 3) := by decide +kernel
theorem d1_14 : decode prog_67_method_1_code 14 = .ok (.aload_n 0, 1) := by decide +kernel
theorem d1_15 : decode prog_67_method_1_code 15 = .ok (.iload_n 1, 1) := by decide +kernel
theorem d1_16 : decode prog_67_method_1_code 16 = .ok (.invokestatic 16, 3) := by decide +kernel
theorem d1_19 : decode prog_67_method_1_code 19 = .ok (.ifCond .eq 7, 3) := by decide +kernel
theorem d1_22 : decode prog_67_method_1_code 22 = .ok (.iconst 1, 1) := by decide +kernel
theorem d1_23 : decode prog_67_method_1_code 23 = .ok (.goto 15, 3) := by decide +kernel
theorem d1_26 : decode prog_67_method_1_code 26 = .ok (.iload_n 2, 1) := by decide +kernel
theorem d1_27 : decode prog_67_method_1_code 27 = .ok (.invokestatic 16, 3) := by decide +kernel
theorem d1_30 : decode prog_67_method_1_code 30 = .ok (.ifCond .eq 7, 3) := by decide +kernel
theorem d1_33 : decode prog_67_method_1_code 33 = .ok (.iconst 2, 1) := by decide +kernel
theorem d1_34 : decode prog_67_method_1_code 34 = .ok (.goto 4, 3) := by decide +kernel
theorem d1_37 : decode prog_67_method_1_code 37 = .ok (.iconst 0, 1) := by decide +kernel
theorem d1_38 : decode prog_67_method_1_code 38 = .ok (.putfield 20, 3) := by decide +kernel
theorem d1_41 : decode prog_67_method_1_code 41 = .ok (.return_, 1) := by decide +kernel
theorem ef_1 (m : MethodId) (x0 : Addr) (x1 : Int32) (x2 : Int32) : entryFrame m #[(.ref x0), (.int x1), (.int x2)] 3 = mkF m 0 #[.val (.ref x0), .val (.int x1), .val (.int x2)] [] := by first | (simp [entryFrame, mkF, argsToLocals, Value.category]; done) | rfl
set_option maxRecDepth 65536 in
set_option maxHeartbeats 40000000 in
theorem rmI (l : Launch) (Z : State) (a0 : Array Value) (hw : ∀ d ∈ tables_1, d.before a0 Z = true) (a : Addr) (x y : Int32) (a_LINES : Addr) (k_LINES : ClassId) (h0 : Heap) (O0 : Old Z Z.heap.size h0) (FF : Facts Z a_LINES k_LINES) (Ea : Exa Z h0 a "com/example/afterstate/afterstate/tictactoe/TicTacToePosition") (ga : Z.heap.size ≤ a) (F_crosses : Fld Z h0 a "com/example/afterstate/afterstate/tictactoe/TicTacToePosition" "crosses" "I" (.int 0)) (F_noughts : Fld Z h0 a "com/example/afterstate/afterstate/tictactoe/TicTacToePosition" "noughts" "I" (.int 0)) (F_winner : Fld Z h0 a "com/example/afterstate/afterstate/tictactoe/TicTacToePosition" "winner" "I" (.int 0)) : Ctr l Z (⟨"com/example/afterstate/afterstate/tictactoe/TicTacToePosition", "<init>", "(II)V"⟩ : MethodName) prog_67_method_1_code 3 none ({ frames := 1, cells := 0, slots := 0, locals := 17 } : Room) #[(.ref a), (.int x), (.int y)] h0 (fun v h L => v = none ∧ Fr Z.heap.size L ∧ Keep h0 h [a] ∧ Exa Z h a "com/example/afterstate/afterstate/tictactoe/TicTacToePosition" ∧ Fld Z h a "com/example/afterstate/afterstate/tictactoe/TicTacToePosition" "crosses" "I" (.int x) ∧ Fld Z h a "com/example/afterstate/afterstate/tictactoe/TicTacToePosition" "noughts" "I" (.int y)) := by
  refine Ctr.of (plainFor_of_name pn_3) ?_
  have wd : ∀ {d : Jvm.Cond} (i : Nat), tables_1[i]? = some d → d.before a0 Z = true := fun i q => hw _ (List.mem_of_getElem? q)
  intro p e s m below meth c s₁ hx hby hml hown hnm hret hlk hZ X0 e0
  have FF' := FF
  obtain ⟨S_LINES, V_LINES⟩ := FF'
  refine Go.cast (ef_1 m a x y) ?_
  show Go p e below _ s₁ (mkF m 0 #[.val (.ref a), .val (.int x), .val (.int y)] [])
  refine Go.aloadN X0 hx (hb hby d1_0) rfl rfl rfl ?_
  refine Go.initO X0 hx hZ hown (wd 6 rfl) (wd 7 rfl) (wd 8 rfl) e0 (by rw [hml]; rfl) (hb hby d1_1) rfl (Nat.le_of_ble_eq_true rfl) (Nat.le_of_ble_eq_true rfl) ?_
  intro T1 X1 e1
  refine Go.aloadN X1 hx (hb hby d1_4) rfl rfl rfl ?_
  refine Go.iloadN X1 hx (hb hby d1_5) rfl rfl  ?_
  refine Go.putF X1 hx hZ hown (host := "") (Or.inl (wd 9 rfl)) Via.refl e1 F_crosses Ea (Or.inr ⟨wd 10 rfl, rfl, hnm⟩) (wd 1 rfl) (ty := .int) (by decide) rfl rfl (hb hby d1_6) rfl ?_
  intro T2 h2 X2 e2 W2 F3
  have K4 := (Keep.refl h0 [a]).wr W2 (Or.inl (List.mem_of_getElem? (i := 0) rfl))
  have O5 := O0.wr W2 ga
  have N6 := Fr.snoc X2 (Fr.nil _) ga
  have E7 := Ea.wr W2
  have F8 := F_noughts.other W2 (Or.inr (slot_ne (Or.inr (wd 12 rfl)) (Or.inr (wd 10 rfl)) (by decide) (t := .int) (t' := .int) (by decide) (by decide)))
  have F9 := F_winner.other W2 (Or.inr (slot_ne (Or.inr (wd 19 rfl)) (Or.inr (wd 10 rfl)) (by decide) (t := .int) (t' := .int) (by decide) (by decide)))
  refine Go.aloadN X2 hx (hb hby d1_9) rfl rfl rfl ?_
  refine Go.iloadN X2 hx (hb hby d1_10) rfl rfl  ?_
  refine Go.putF X2 hx hZ hown (host := "") (Or.inl (wd 11 rfl)) Via.refl e2 F8 E7 (Or.inr ⟨wd 12 rfl, rfl, hnm⟩) (wd 1 rfl) (ty := .int) (by decide) rfl rfl (hb hby d1_11) rfl ?_
  intro T10 h10 X10 e10 W10 F11
  have K12 := K4.wr W10 (Or.inl (List.mem_of_getElem? (i := 0) rfl))
  have O13 := O5.wr W10 ga
  have N14 := Fr.snoc X10 N6 ga
  have E15 := E7.wr W10
  have F16 := F3.other W10 (Or.inr (slot_ne (Or.inr (wd 10 rfl)) (Or.inr (wd 12 rfl)) (by decide) (t := .int) (t' := .int) (by decide) (by decide)))
  have F17 := F9.other W10 (Or.inr (slot_ne (Or.inr (wd 19 rfl)) (Or.inr (wd 12 rfl)) (by decide) (t := .int) (t' := .int) (by decide) (by decide)))
  refine Go.aloadN X10 hx (hb hby d1_14) rfl rfl rfl ?_
  refine Go.iloadN X10 hx (hb hby d1_15) rfl rfl  ?_
  refine Go.callS X10 hx hZ hown (wd 13 rfl) (wd 14 rfl) (wd 2 rfl) (wd 15 rfl) (by decide) [(.int x)] [(.ref a)] (rmL l Z a0 hw x a_LINES k_LINES h10 O13 FF) e10 rfl (by rw [hml]; rfl) pd_0 rfl (hb hby d1_16) (Nat.le_of_ble_eq_true rfl) (Nat.le_of_ble_eq_true rfl) (Nat.le_of_ble_eq_true rfl) (Nat.le_of_ble_eq_true rfl) ?_
  rintro vv18 T18 L18 X18 Q18
  obtain ⟨⟨u18, rfl⟩, rfl, e18⟩ := Q18
  rw [List.append_nil] at X18
  by_cases hc19 : u18 = (0 : Int32)
  · refine Go.ifYes X18 hx (hb hby d1_19) rfl 26 ((if0 _ _).trans (teq hc19).1) (by decide) (by decide) ?_
    refine Go.iloadN X18 hx (hb hby d1_26) rfl rfl  ?_
    refine Go.callS X18 hx hZ hown (wd 13 rfl) (wd 14 rfl) (wd 2 rfl) (wd 15 rfl) (by decide) [(.int y)] [(.ref a)] (rmL l Z a0 hw y a_LINES k_LINES h10 O13 FF) e18 rfl (by rw [hml]; rfl) pd_0 rfl (hb hby d1_27) (Nat.le_of_ble_eq_true rfl) (Nat.le_of_ble_eq_true rfl) (Nat.le_of_ble_eq_true rfl) (Nat.le_of_ble_eq_true rfl) ?_
    rintro vv20 T20 L20 X20 Q20
    obtain ⟨⟨u20, rfl⟩, rfl, e20⟩ := Q20
    rw [List.append_nil] at X20
    by_cases hc21 : u20 = (0 : Int32)
    · refine Go.ifYes X20 hx (hb hby d1_30) rfl 37 ((if0 _ _).trans (teq hc21).1) (by decide) (by decide) ?_
      refine Go.iconst X20 hx (hb hby d1_37) rfl (0 : Int32) rfl ?_
      refine Go.putF X20 hx hZ hown (host := "") (Or.inl (wd 18 rfl)) Via.refl e20 F17 E15 (Or.inr ⟨wd 19 rfl, rfl, hnm⟩) (wd 1 rfl) (ty := .int) (by decide) rfl rfl (hb hby d1_38) rfl ?_
      intro T22 h22 X22 e22 W22 F23
      have K24 := K12.wr W22 (Or.inl (List.mem_of_getElem? (i := 0) rfl))
      have O25 := O13.wr W22 ga
      have N26 := Fr.snoc X22 N14 ga
      have E27 := E15.wr W22
      have F28 := F16.other W22 (Or.inr (slot_ne (Or.inr (wd 10 rfl)) (Or.inr (wd 19 rfl)) (by decide) (t := .int) (t' := .int) (by decide) (by decide)))
      have F29 := F11.other W22 (Or.inr (slot_ne (Or.inr (wd 12 rfl)) (Or.inr (wd 19 rfl)) (by decide) (t := .int) (t' := .int) (by decide) (by decide)))
      exact Go.retV X22 hx hret hlk (hb hby d1_41) rfl (by rw [e22]; exact ⟨rfl, N26, K24, E27, F28, F29⟩) (Nat.le_of_ble_eq_true rfl) (Nat.le_of_ble_eq_true rfl)
    · refine Go.ifNo X20 hx (hb hby d1_30) rfl ((if0 _ _).trans (feq hc21).1) ?_
      refine Go.iconst X20 hx (hb hby d1_33) rfl (2 : Int32) rfl ?_
      refine Go.goto X20 hx (hb hby d1_34) rfl 38 (by decide) (by decide) ?_
      refine Go.putF X20 hx hZ hown (host := "") (Or.inl (wd 18 rfl)) Via.refl e20 F17 E15 (Or.inr ⟨wd 19 rfl, rfl, hnm⟩) (wd 1 rfl) (ty := .int) (by decide) rfl rfl (hb hby d1_38) rfl ?_
      intro T30 h30 X30 e30 W30 F31
      have K32 := K12.wr W30 (Or.inl (List.mem_of_getElem? (i := 0) rfl))
      have O33 := O13.wr W30 ga
      have N34 := Fr.snoc X30 N14 ga
      have E35 := E15.wr W30
      have F36 := F16.other W30 (Or.inr (slot_ne (Or.inr (wd 10 rfl)) (Or.inr (wd 19 rfl)) (by decide) (t := .int) (t' := .int) (by decide) (by decide)))
      have F37 := F11.other W30 (Or.inr (slot_ne (Or.inr (wd 12 rfl)) (Or.inr (wd 19 rfl)) (by decide) (t := .int) (t' := .int) (by decide) (by decide)))
      exact Go.retV X30 hx hret hlk (hb hby d1_41) rfl (by rw [e30]; exact ⟨rfl, N34, K32, E35, F36, F37⟩) (Nat.le_of_ble_eq_true rfl) (Nat.le_of_ble_eq_true rfl)
  · refine Go.ifNo X18 hx (hb hby d1_19) rfl ((if0 _ _).trans (feq hc19).1) ?_
    refine Go.iconst X18 hx (hb hby d1_22) rfl (1 : Int32) rfl ?_
    refine Go.goto X18 hx (hb hby d1_23) rfl 38 (by decide) (by decide) ?_
    refine Go.putF X18 hx hZ hown (host := "") (Or.inl (wd 18 rfl)) Via.refl e18 F17 E15 (Or.inr ⟨wd 19 rfl, rfl, hnm⟩) (wd 1 rfl) (ty := .int) (by decide) rfl rfl (hb hby d1_38) rfl ?_
    intro T38 h38 X38 e38 W38 F39
    have K40 := K12.wr W38 (Or.inl (List.mem_of_getElem? (i := 0) rfl))
    have O41 := O13.wr W38 ga
    have N42 := Fr.snoc X38 N14 ga
    have E43 := E15.wr W38
    have F44 := F16.other W38 (Or.inr (slot_ne (Or.inr (wd 10 rfl)) (Or.inr (wd 19 rfl)) (by decide) (t := .int) (t' := .int) (by decide) (by decide)))
    have F45 := F11.other W38 (Or.inr (slot_ne (Or.inr (wd 12 rfl)) (Or.inr (wd 19 rfl)) (by decide) (t := .int) (t' := .int) (by decide) (by decide)))
    exact Go.retV X38 hx hret hlk (hb hby d1_41) rfl (by rw [e38]; exact ⟨rfl, N42, K40, E43, F44, F45⟩) (Nat.le_of_ble_eq_true rfl) (Nat.le_of_ble_eq_true rfl)
theorem d4_0 : decode prog_67_method_7_code 0 = .ok (.bipush 9, 2) := by decide +kernel
theorem d4_2 : decode prog_67_method_7_code 2 = .ok (.newarray .int, 2) := by decide +kernel
theorem d4_4 : decode prog_67_method_7_code 4 = .ok (.astore_n 1, 1) := by decide +kernel
theorem d4_5 : decode prog_67_method_7_code 5 = .ok (.iconst 0, 1) := by decide +kernel
theorem d4_6 : decode prog_67_method_7_code 6 = .ok (.istore_n 2, 1) := by decide +kernel
theorem d4_7 : decode prog_67_method_7_code 7 = .ok (.iload_n 2, 1) := by decide +kernel
theorem d4_8 : decode prog_67_method_7_code 8 = .ok (.bipush 9, 2) := by decide +kernel
theorem d4_10 : decode prog_67_method_7_code 10 = .ok (.if_icmp .ge 43, 3) := by decide +kernel
theorem d4_13 : decode prog_67_method_7_code 13 = .ok (.iconst 1, 1) := by decide +kernel
theorem d4_14 : decode prog_67_method_7_code 14 = .ok (.iload_n 2, 1) := by decide +kernel
theorem d4_15 : decode prog_67_method_7_code 15 = .ok (.ishl, 1) := by decide +kernel
theorem d4_16 : decode prog_67_method_7_code 16 = .ok (.istore_n 3, 1) := by decide +kernel
theorem d4_17 : decode prog_67_method_7_code 17 = .ok (.aload_n 1, 1) := by decide +kernel
theorem d4_18 : decode prog_67_method_7_code 18 = .ok (.iload_n 2, 1) := by decide +kernel
theorem d4_19 : decode prog_67_method_7_code 19 = .ok (.aload_n 0, 1) := by decide +kernel
theorem d4_20 : decode prog_67_method_7_code 20 = .ok (.getfield 9, 3) := by decide +kernel
theorem d4_23 : decode prog_67_method_7_code 23 = .ok (.iload_n 3, 1) := by decide +kernel
theorem d4_24 : decode prog_67_method_7_code 24 = .ok (.iand, 1) := by decide +kernel
theorem d4_25 : decode prog_67_method_7_code 25 = .ok (.ifCond .eq 7, 3) := by decide +kernel
theorem d4_28 : decode prog_67_method_7_code 28 = .ok (.iconst 1, 1) := by decide +kernel
theorem d4_29 : decode prog_67_method_7_code 29 = .ok (.goto 17, 3) := by decide +kernel
theorem d4_32 : decode prog_67_method_7_code 32 = .ok (.aload_n 0, 1) := by decide +kernel
theorem d4_33 : decode prog_67_method_7_code 33 = .ok (.getfield 13, 3) := by decide +kernel
theorem d4_36 : decode prog_67_method_7_code 36 = .ok (.iload_n 3, 1) := by decide +kernel
theorem d4_37 : decode prog_67_method_7_code 37 = .ok (.iand, 1) := by decide +kernel
theorem d4_38 : decode prog_67_method_7_code 38 = .ok (.ifCond .eq 7, 3) := by decide +kernel
theorem d4_41 : decode prog_67_method_7_code 41 = .ok (.iconst 2, 1) := by decide +kernel
theorem d4_42 : decode prog_67_method_7_code 42 = .ok (.goto 4, 3) := by decide +kernel
theorem d4_45 : decode prog_67_method_7_code 45 = .ok (.iconst 0, 1) := by decide +kernel
theorem d4_46 : decode prog_67_method_7_code 46 = .ok (.iastore, 1) := by decide +kernel
theorem d4_47 : decode prog_67_method_7_code 47 = .ok (.iinc 2 1, 3) := by decide +kernel
theorem d4_50 : decode prog_67_method_7_code 50 = .ok (.goto (-43), 3) := by decide +kernel
theorem d4_53 : decode prog_67_method_7_code 53 = .ok (.aload_n 1, 1) := by decide +kernel
theorem d4_54 : decode prog_67_method_7_code 54 = .ok (.areturn, 1) := by decide +kernel
theorem ef_4 (m : MethodId) (x0 : Addr) : entryFrame m #[(.ref x0)] 4 = mkF m 0 #[.val (.ref x0), .unset, .unset, .unset] [] := by first | (simp [entryFrame, mkF, argsToLocals, Value.category]; done) | rfl
set_option maxRecDepth 65536 in
set_option maxHeartbeats 40000000 in
theorem rmC (l : Launch) (Z : State) (a0 : Array Value) (hw : ∀ d ∈ tables_1, d.before a0 Z = true) (a : Addr) (x y : Int32) (h0 : Heap) (O0 : Old Z Z.heap.size h0) (F_crosses : Fld Z h0 a "com/example/afterstate/afterstate/tictactoe/TicTacToePosition" "crosses" "I" (.int x)) (F_noughts : Fld Z h0 a "com/example/afterstate/afterstate/tictactoe/TicTacToePosition" "noughts" "I" (.int y)) : Ctr l Z (⟨"com/example/afterstate/afterstate/tictactoe/TicTacToePosition", "cells", "()[I"⟩ : MethodName) prog_67_method_7_code 4 (some (.array .int)) ({ frames := 0, cells := 1, slots := 9, locals := 0 } : Room) #[(.ref a)] h0 (fun v h L => ∃ (b : Addr) (k : ClassId), v = some (.ref b) ∧ Fr Z.heap.size L ∧ Keep h0 h [] ∧ h0.size ≤ b ∧ Arv Z h b k .int (9 : Int32) [(.int (cellv x y (1 : Int32))), (.int (cellv x y (2 : Int32))), (.int (cellv x y (4 : Int32))), (.int (cellv x y (8 : Int32))), (.int (cellv x y (16 : Int32))), (.int (cellv x y (32 : Int32))), (.int (cellv x y (64 : Int32))), (.int (cellv x y (128 : Int32))), (.int (cellv x y (256 : Int32)))] (.int (0 : Int32))) := by
  refine Ctr.of (plainFor_of_name pn_3) ?_
  have wd : ∀ {d : Jvm.Cond} (i : Nat), tables_1[i]? = some d → d.before a0 Z = true := fun i q => hw _ (List.mem_of_getElem? q)
  intro p e s m below meth c s₁ hx hby hml hown hnm hret hlk hZ X0 e0
  refine Go.cast (ef_4 m a) ?_
  show Go p e below _ s₁ (mkF m 0 #[.val (.ref a), .unset, .unset, .unset] [])
  refine Go.bipush X0 hx (hb hby d4_0) rfl (9 : Int32) rfl ?_
  refine Go.newP X0 hx hZ (wd 25 rfl) e0 9 (by decide) 9 (by decide) (by decide) (Nat.le_of_ble_eq_true rfl) (Nat.le_of_ble_eq_true rfl) "[I" (by decide) (hb hby d4_2) rfl ?_
  intro T1 h1 b1 k1 g1 X1 e1 E1 V1' A1
  have V1 : Arv Z h1 b1 k1 .int (9 : Int32) [(.int (0 : Int32)), (.int (0 : Int32)), (.int (0 : Int32)), (.int (0 : Int32)), (.int (0 : Int32)), (.int (0 : Int32)), (.int (0 : Int32)), (.int (0 : Int32)), (.int (0 : Int32))] (.int (0 : Int32)) := V1'
  have q1 : Z.heap.size ≤ b1 := Nat.le_trans O0.2.1 (Nat.le_of_eq g1.symm)
  have z1 : h0.size ≤ b1 := Nat.le_trans (Keep.refl h0 []).1 (Nat.le_of_eq g1.symm)
  have ne_a_b1 : a ≠ b1 := Nat.ne_of_lt (Nat.lt_of_lt_of_le F_crosses.lt (Nat.le_of_eq g1.symm))
  have K2 := (Keep.refl h0 []).ext E1
  have O3 := O0.ext E1
  have F4 := F_crosses.ext E1
  have F5 := F_noughts.ext E1
  refine Go.astoreN X1 hx (hb hby d4_4) rfl rfl #[.val (.ref a), .val (.ref b1), .unset, .unset] rfl ?_
  refine Go.iconst X1 hx (hb hby d4_5) rfl (0 : Int32) rfl ?_
  refine Go.istoreN X1 hx (hb hby d4_6) rfl  #[.val (.ref a), .val (.ref b1), .val (.int (0 : Int32)), .unset] rfl ?_
  refine Go.iloadN X1 hx (hb hby d4_7) rfl rfl  ?_
  refine Go.bipush X1 hx (hb hby d4_8) rfl (9 : Int32) rfl ?_
  refine Go.icmpNo X1 hx (hb hby d4_10) rfl (tlt (by decide : (0 : Int32) < (9 : Int32))).2.1 ?_
  refine Go.iconst X1 hx (hb hby d4_13) rfl (1 : Int32) rfl ?_
  refine Go.iloadN X1 hx (hb hby d4_14) rfl rfl  ?_
  refine Go.ishl X1 hx (hb hby d4_15) rfl ?_
  show Go p e below _ T1 (mkF m 16 #[.val (.ref a), .val (.ref b1), .val (.int (0 : Int32)), .unset] [(.int (((1 : Int32) <<< ((0 : Int32) &&& 31))))])
  rw [show (((1 : Int32) <<< ((0 : Int32) &&& 31))) = (1 : Int32) from by decide]
  refine Go.istoreN X1 hx (hb hby d4_16) rfl  #[.val (.ref a), .val (.ref b1), .val (.int (0 : Int32)), .val (.int (1 : Int32))] rfl ?_
  refine Go.aloadN X1 hx (hb hby d4_17) rfl rfl rfl ?_
  refine Go.iloadN X1 hx (hb hby d4_18) rfl rfl  ?_
  refine Go.aloadN X1 hx (hb hby d4_19) rfl rfl rfl ?_
  refine Go.getF X1 hx hZ hown (host := "") (Or.inl (wd 9 rfl)) Via.refl e1 F4 (hb hby d4_20) rfl ?_
  intro T6 X6 e6
  refine Go.iloadN X6 hx (hb hby d4_23) rfl rfl  ?_
  refine Go.iand X6 hx (hb hby d4_24) rfl ?_
  refine Go.joinI X6 e6 ((cellv x y (1 : Int32))) (fun z => mkF m 46 #[.val (.ref a), .val (.ref b1), .val (.int (0 : Int32)), .val (.int (1 : Int32))] [(.int z), (.int (0 : Int32)), (.ref b1)]) ?_ ?_
  · intro J7
    by_cases hc8 : (x &&& (1 : Int32)) = (0 : Int32)
    · refine Go.ifYes X6 hx (hb hby d4_25) rfl 32 ((if0 _ _).trans (teq hc8).1) (by decide) (by decide) ?_
      refine Go.aloadN X6 hx (hb hby d4_32) rfl rfl rfl ?_
      refine Go.getF X6 hx hZ hown (host := "") (Or.inl (wd 11 rfl)) Via.refl e6 F5 (hb hby d4_33) rfl ?_
      intro T9 X9 e9
      refine Go.iloadN X9 hx (hb hby d4_36) rfl rfl  ?_
      refine Go.iand X9 hx (hb hby d4_37) rfl ?_
      by_cases hc10 : (y &&& (1 : Int32)) = (0 : Int32)
      · refine Go.ifYes X9 hx (hb hby d4_38) rfl 45 ((if0 _ _).trans (teq hc10).1) (by decide) (by decide) ?_
        refine Go.iconst X9 hx (hb hby d4_45) rfl (0 : Int32) rfl ?_
        exact J7 _ _ (by simp [cellv, hc8, hc10]) X9 e9
      · refine Go.ifNo X9 hx (hb hby d4_38) rfl ((if0 _ _).trans (feq hc10).1) ?_
        refine Go.iconst X9 hx (hb hby d4_41) rfl (2 : Int32) rfl ?_
        refine Go.goto X9 hx (hb hby d4_42) rfl 46 (by decide) (by decide) ?_
        exact J7 _ _ (by simp [cellv, hc8, hc10]) X9 e9
    · refine Go.ifNo X6 hx (hb hby d4_25) rfl ((if0 _ _).trans (feq hc8).1) ?_
      refine Go.iconst X6 hx (hb hby d4_28) rfl (1 : Int32) rfl ?_
      refine Go.goto X6 hx (hb hby d4_29) rfl 46 (by decide) (by decide) ?_
      exact J7 _ _ (by simp [cellv, hc8]) X6 e6
  intro T11 X11 e11
  show Go p e below _ T11 (mkF m 46 #[.val (.ref a), .val (.ref b1), .val (.int (0 : Int32)), .val (.int (1 : Int32))] [(.int (cellv x y (1 : Int32))), (.int (0 : Int32)), (.ref b1)])
  refine Go.iastore X11 hx hZ V1 e11 ⟨by decide, by decide⟩ 0 (by decide) (Nat.le_of_ble_eq_true rfl)  (hb hby d4_46) rfl ?_
  intro T12 h12 X12 e12 W12 V12'
  have V12 : Arv Z h12 b1 k1 .int (9 : Int32) [(.int (cellv x y (1 : Int32))), (.int (0 : Int32)), (.int (0 : Int32)), (.int (0 : Int32)), (.int (0 : Int32)), (.int (0 : Int32)), (.int (0 : Int32)), (.int (0 : Int32)), (.int (0 : Int32))] (.int (0 : Int32)) := V12'
  have K13 := K2.wr W12 (Or.inr z1)
  have O14 := O3.wr W12 q1
  have N15 := Fr.snoc X12 (Fr.nil _) q1
  have F16 := F4.other W12 (Or.inl ne_a_b1)
  have F17 := F5.other W12 (Or.inl ne_a_b1)
  refine Go.iinc X12 hx (hb hby d4_47) rfl rfl #[.val (.ref a), .val (.ref b1), .val (.int ((0 : Int32) + (1 : Int32))), .val (.int (1 : Int32))] rfl ?_
  show Go p e below _ T12 (mkF m 50 #[.val (.ref a), .val (.ref b1), .val (.int ((0 : Int32) + (1 : Int32))), .val (.int (1 : Int32))] [])
  rw [show ((0 : Int32) + (1 : Int32)) = (1 : Int32) from by decide]
  show Go p e below _ T12 (mkF m 50 #[.val (.ref a), .val (.ref b1), .val (.int (1 : Int32)), .val (.int (1 : Int32))] [])
  refine Go.goto X12 hx (hb hby d4_50) rfl 7 (by decide) (by decide) ?_
  refine Go.iloadN X12 hx (hb hby d4_7) rfl rfl  ?_
  refine Go.bipush X12 hx (hb hby d4_8) rfl (9 : Int32) rfl ?_
  refine Go.icmpNo X12 hx (hb hby d4_10) rfl (tlt (by decide : (1 : Int32) < (9 : Int32))).2.1 ?_
  refine Go.iconst X12 hx (hb hby d4_13) rfl (1 : Int32) rfl ?_
  refine Go.iloadN X12 hx (hb hby d4_14) rfl rfl  ?_
  refine Go.ishl X12 hx (hb hby d4_15) rfl ?_
  show Go p e below _ T12 (mkF m 16 #[.val (.ref a), .val (.ref b1), .val (.int (1 : Int32)), .val (.int (1 : Int32))] [(.int (((1 : Int32) <<< ((1 : Int32) &&& 31))))])
  rw [show (((1 : Int32) <<< ((1 : Int32) &&& 31))) = (2 : Int32) from by decide]
  refine Go.istoreN X12 hx (hb hby d4_16) rfl  #[.val (.ref a), .val (.ref b1), .val (.int (1 : Int32)), .val (.int (2 : Int32))] rfl ?_
  refine Go.aloadN X12 hx (hb hby d4_17) rfl rfl rfl ?_
  refine Go.iloadN X12 hx (hb hby d4_18) rfl rfl  ?_
  refine Go.aloadN X12 hx (hb hby d4_19) rfl rfl rfl ?_
  refine Go.getF X12 hx hZ hown (host := "") (Or.inl (wd 9 rfl)) Via.refl e12 F16 (hb hby d4_20) rfl ?_
  intro T18 X18 e18
  refine Go.iloadN X18 hx (hb hby d4_23) rfl rfl  ?_
  refine Go.iand X18 hx (hb hby d4_24) rfl ?_
  refine Go.joinI X18 e18 ((cellv x y (2 : Int32))) (fun z => mkF m 46 #[.val (.ref a), .val (.ref b1), .val (.int (1 : Int32)), .val (.int (2 : Int32))] [(.int z), (.int (1 : Int32)), (.ref b1)]) ?_ ?_
  · intro J19
    by_cases hc20 : (x &&& (2 : Int32)) = (0 : Int32)
    · refine Go.ifYes X18 hx (hb hby d4_25) rfl 32 ((if0 _ _).trans (teq hc20).1) (by decide) (by decide) ?_
      refine Go.aloadN X18 hx (hb hby d4_32) rfl rfl rfl ?_
      refine Go.getF X18 hx hZ hown (host := "") (Or.inl (wd 11 rfl)) Via.refl e18 F17 (hb hby d4_33) rfl ?_
      intro T21 X21 e21
      refine Go.iloadN X21 hx (hb hby d4_36) rfl rfl  ?_
      refine Go.iand X21 hx (hb hby d4_37) rfl ?_
      by_cases hc22 : (y &&& (2 : Int32)) = (0 : Int32)
      · refine Go.ifYes X21 hx (hb hby d4_38) rfl 45 ((if0 _ _).trans (teq hc22).1) (by decide) (by decide) ?_
        refine Go.iconst X21 hx (hb hby d4_45) rfl (0 : Int32) rfl ?_
        exact J19 _ _ (by simp [cellv, hc20, hc22]) X21 e21
      · refine Go.ifNo X21 hx (hb hby d4_38) rfl ((if0 _ _).trans (feq hc22).1) ?_
        refine Go.iconst X21 hx (hb hby d4_41) rfl (2 : Int32) rfl ?_
        refine Go.goto X21 hx (hb hby d4_42) rfl 46 (by decide) (by decide) ?_
        exact J19 _ _ (by simp [cellv, hc20, hc22]) X21 e21
    · refine Go.ifNo X18 hx (hb hby d4_25) rfl ((if0 _ _).trans (feq hc20).1) ?_
      refine Go.iconst X18 hx (hb hby d4_28) rfl (1 : Int32) rfl ?_
      refine Go.goto X18 hx (hb hby d4_29) rfl 46 (by decide) (by decide) ?_
      exact J19 _ _ (by simp [cellv, hc20]) X18 e18
  intro T23 X23 e23
  show Go p e below _ T23 (mkF m 46 #[.val (.ref a), .val (.ref b1), .val (.int (1 : Int32)), .val (.int (2 : Int32))] [(.int (cellv x y (2 : Int32))), (.int (1 : Int32)), (.ref b1)])
  refine Go.iastore X23 hx hZ V12 e23 ⟨by decide, by decide⟩ 1 (by decide) (Nat.le_of_ble_eq_true rfl)  (hb hby d4_46) rfl ?_
  intro T24 h24 X24 e24 W24 V24'
  have V24 : Arv Z h24 b1 k1 .int (9 : Int32) [(.int (cellv x y (1 : Int32))), (.int (cellv x y (2 : Int32))), (.int (0 : Int32)), (.int (0 : Int32)), (.int (0 : Int32)), (.int (0 : Int32)), (.int (0 : Int32)), (.int (0 : Int32)), (.int (0 : Int32))] (.int (0 : Int32)) := V24'
  have K25 := K13.wr W24 (Or.inr z1)
  have O26 := O14.wr W24 q1
  have N27 := Fr.snoc X24 N15 q1
  have F28 := F16.other W24 (Or.inl ne_a_b1)
  have F29 := F17.other W24 (Or.inl ne_a_b1)
  refine Go.iinc X24 hx (hb hby d4_47) rfl rfl #[.val (.ref a), .val (.ref b1), .val (.int ((1 : Int32) + (1 : Int32))), .val (.int (2 : Int32))] rfl ?_
  show Go p e below _ T24 (mkF m 50 #[.val (.ref a), .val (.ref b1), .val (.int ((1 : Int32) + (1 : Int32))), .val (.int (2 : Int32))] [])
  rw [show ((1 : Int32) + (1 : Int32)) = (2 : Int32) from by decide]
  show Go p e below _ T24 (mkF m 50 #[.val (.ref a), .val (.ref b1), .val (.int (2 : Int32)), .val (.int (2 : Int32))] [])
  refine Go.goto X24 hx (hb hby d4_50) rfl 7 (by decide) (by decide) ?_
  refine Go.iloadN X24 hx (hb hby d4_7) rfl rfl  ?_
  refine Go.bipush X24 hx (hb hby d4_8) rfl (9 : Int32) rfl ?_
  refine Go.icmpNo X24 hx (hb hby d4_10) rfl (tlt (by decide : (2 : Int32) < (9 : Int32))).2.1 ?_
  refine Go.iconst X24 hx (hb hby d4_13) rfl (1 : Int32) rfl ?_
  refine Go.iloadN X24 hx (hb hby d4_14) rfl rfl  ?_
  refine Go.ishl X24 hx (hb hby d4_15) rfl ?_
  show Go p e below _ T24 (mkF m 16 #[.val (.ref a), .val (.ref b1), .val (.int (2 : Int32)), .val (.int (2 : Int32))] [(.int (((1 : Int32) <<< ((2 : Int32) &&& 31))))])
  rw [show (((1 : Int32) <<< ((2 : Int32) &&& 31))) = (4 : Int32) from by decide]
  refine Go.istoreN X24 hx (hb hby d4_16) rfl  #[.val (.ref a), .val (.ref b1), .val (.int (2 : Int32)), .val (.int (4 : Int32))] rfl ?_
  refine Go.aloadN X24 hx (hb hby d4_17) rfl rfl rfl ?_
  refine Go.iloadN X24 hx (hb hby d4_18) rfl rfl  ?_
  refine Go.aloadN X24 hx (hb hby d4_19) rfl rfl rfl ?_
  refine Go.getF X24 hx hZ hown (host := "") (Or.inl (wd 9 rfl)) Via.refl e24 F28 (hb hby d4_20) rfl ?_
  intro T30 X30 e30
  refine Go.iloadN X30 hx (hb hby d4_23) rfl rfl  ?_
  refine Go.iand X30 hx (hb hby d4_24) rfl ?_
  refine Go.joinI X30 e30 ((cellv x y (4 : Int32))) (fun z => mkF m 46 #[.val (.ref a), .val (.ref b1), .val (.int (2 : Int32)), .val (.int (4 : Int32))] [(.int z), (.int (2 : Int32)), (.ref b1)]) ?_ ?_
  · intro J31
    by_cases hc32 : (x &&& (4 : Int32)) = (0 : Int32)
    · refine Go.ifYes X30 hx (hb hby d4_25) rfl 32 ((if0 _ _).trans (teq hc32).1) (by decide) (by decide) ?_
      refine Go.aloadN X30 hx (hb hby d4_32) rfl rfl rfl ?_
      refine Go.getF X30 hx hZ hown (host := "") (Or.inl (wd 11 rfl)) Via.refl e30 F29 (hb hby d4_33) rfl ?_
      intro T33 X33 e33
      refine Go.iloadN X33 hx (hb hby d4_36) rfl rfl  ?_
      refine Go.iand X33 hx (hb hby d4_37) rfl ?_
      by_cases hc34 : (y &&& (4 : Int32)) = (0 : Int32)
      · refine Go.ifYes X33 hx (hb hby d4_38) rfl 45 ((if0 _ _).trans (teq hc34).1) (by decide) (by decide) ?_
        refine Go.iconst X33 hx (hb hby d4_45) rfl (0 : Int32) rfl ?_
        exact J31 _ _ (by simp [cellv, hc32, hc34]) X33 e33
      · refine Go.ifNo X33 hx (hb hby d4_38) rfl ((if0 _ _).trans (feq hc34).1) ?_
        refine Go.iconst X33 hx (hb hby d4_41) rfl (2 : Int32) rfl ?_
        refine Go.goto X33 hx (hb hby d4_42) rfl 46 (by decide) (by decide) ?_
        exact J31 _ _ (by simp [cellv, hc32, hc34]) X33 e33
    · refine Go.ifNo X30 hx (hb hby d4_25) rfl ((if0 _ _).trans (feq hc32).1) ?_
      refine Go.iconst X30 hx (hb hby d4_28) rfl (1 : Int32) rfl ?_
      refine Go.goto X30 hx (hb hby d4_29) rfl 46 (by decide) (by decide) ?_
      exact J31 _ _ (by simp [cellv, hc32]) X30 e30
  intro T35 X35 e35
  show Go p e below _ T35 (mkF m 46 #[.val (.ref a), .val (.ref b1), .val (.int (2 : Int32)), .val (.int (4 : Int32))] [(.int (cellv x y (4 : Int32))), (.int (2 : Int32)), (.ref b1)])
  refine Go.iastore X35 hx hZ V24 e35 ⟨by decide, by decide⟩ 2 (by decide) (Nat.le_of_ble_eq_true rfl)  (hb hby d4_46) rfl ?_
  intro T36 h36 X36 e36 W36 V36'
  have V36 : Arv Z h36 b1 k1 .int (9 : Int32) [(.int (cellv x y (1 : Int32))), (.int (cellv x y (2 : Int32))), (.int (cellv x y (4 : Int32))), (.int (0 : Int32)), (.int (0 : Int32)), (.int (0 : Int32)), (.int (0 : Int32)), (.int (0 : Int32)), (.int (0 : Int32))] (.int (0 : Int32)) := V36'
  have K37 := K25.wr W36 (Or.inr z1)
  have O38 := O26.wr W36 q1
  have N39 := Fr.snoc X36 N27 q1
  have F40 := F28.other W36 (Or.inl ne_a_b1)
  have F41 := F29.other W36 (Or.inl ne_a_b1)
  refine Go.iinc X36 hx (hb hby d4_47) rfl rfl #[.val (.ref a), .val (.ref b1), .val (.int ((2 : Int32) + (1 : Int32))), .val (.int (4 : Int32))] rfl ?_
  show Go p e below _ T36 (mkF m 50 #[.val (.ref a), .val (.ref b1), .val (.int ((2 : Int32) + (1 : Int32))), .val (.int (4 : Int32))] [])
  rw [show ((2 : Int32) + (1 : Int32)) = (3 : Int32) from by decide]
  show Go p e below _ T36 (mkF m 50 #[.val (.ref a), .val (.ref b1), .val (.int (3 : Int32)), .val (.int (4 : Int32))] [])
  refine Go.goto X36 hx (hb hby d4_50) rfl 7 (by decide) (by decide) ?_
  refine Go.iloadN X36 hx (hb hby d4_7) rfl rfl  ?_
  refine Go.bipush X36 hx (hb hby d4_8) rfl (9 : Int32) rfl ?_
  refine Go.icmpNo X36 hx (hb hby d4_10) rfl (tlt (by decide : (3 : Int32) < (9 : Int32))).2.1 ?_
  refine Go.iconst X36 hx (hb hby d4_13) rfl (1 : Int32) rfl ?_
  refine Go.iloadN X36 hx (hb hby d4_14) rfl rfl  ?_
  refine Go.ishl X36 hx (hb hby d4_15) rfl ?_
  show Go p e below _ T36 (mkF m 16 #[.val (.ref a), .val (.ref b1), .val (.int (3 : Int32)), .val (.int (4 : Int32))] [(.int (((1 : Int32) <<< ((3 : Int32) &&& 31))))])
  rw [show (((1 : Int32) <<< ((3 : Int32) &&& 31))) = (8 : Int32) from by decide]
  refine Go.istoreN X36 hx (hb hby d4_16) rfl  #[.val (.ref a), .val (.ref b1), .val (.int (3 : Int32)), .val (.int (8 : Int32))] rfl ?_
  refine Go.aloadN X36 hx (hb hby d4_17) rfl rfl rfl ?_
  refine Go.iloadN X36 hx (hb hby d4_18) rfl rfl  ?_
  refine Go.aloadN X36 hx (hb hby d4_19) rfl rfl rfl ?_
  refine Go.getF X36 hx hZ hown (host := "") (Or.inl (wd 9 rfl)) Via.refl e36 F40 (hb hby d4_20) rfl ?_
  intro T42 X42 e42
  refine Go.iloadN X42 hx (hb hby d4_23) rfl rfl  ?_
  refine Go.iand X42 hx (hb hby d4_24) rfl ?_
  refine Go.joinI X42 e42 ((cellv x y (8 : Int32))) (fun z => mkF m 46 #[.val (.ref a), .val (.ref b1), .val (.int (3 : Int32)), .val (.int (8 : Int32))] [(.int z), (.int (3 : Int32)), (.ref b1)]) ?_ ?_
  · intro J43
    by_cases hc44 : (x &&& (8 : Int32)) = (0 : Int32)
    · refine Go.ifYes X42 hx (hb hby d4_25) rfl 32 ((if0 _ _).trans (teq hc44).1) (by decide) (by decide) ?_
      refine Go.aloadN X42 hx (hb hby d4_32) rfl rfl rfl ?_
      refine Go.getF X42 hx hZ hown (host := "") (Or.inl (wd 11 rfl)) Via.refl e42 F41 (hb hby d4_33) rfl ?_
      intro T45 X45 e45
      refine Go.iloadN X45 hx (hb hby d4_36) rfl rfl  ?_
      refine Go.iand X45 hx (hb hby d4_37) rfl ?_
      by_cases hc46 : (y &&& (8 : Int32)) = (0 : Int32)
      · refine Go.ifYes X45 hx (hb hby d4_38) rfl 45 ((if0 _ _).trans (teq hc46).1) (by decide) (by decide) ?_
        refine Go.iconst X45 hx (hb hby d4_45) rfl (0 : Int32) rfl ?_
        exact J43 _ _ (by simp [cellv, hc44, hc46]) X45 e45
      · refine Go.ifNo X45 hx (hb hby d4_38) rfl ((if0 _ _).trans (feq hc46).1) ?_
        refine Go.iconst X45 hx (hb hby d4_41) rfl (2 : Int32) rfl ?_
        refine Go.goto X45 hx (hb hby d4_42) rfl 46 (by decide) (by decide) ?_
        exact J43 _ _ (by simp [cellv, hc44, hc46]) X45 e45
    · refine Go.ifNo X42 hx (hb hby d4_25) rfl ((if0 _ _).trans (feq hc44).1) ?_
      refine Go.iconst X42 hx (hb hby d4_28) rfl (1 : Int32) rfl ?_
      refine Go.goto X42 hx (hb hby d4_29) rfl 46 (by decide) (by decide) ?_
      exact J43 _ _ (by simp [cellv, hc44]) X42 e42
  intro T47 X47 e47
  show Go p e below _ T47 (mkF m 46 #[.val (.ref a), .val (.ref b1), .val (.int (3 : Int32)), .val (.int (8 : Int32))] [(.int (cellv x y (8 : Int32))), (.int (3 : Int32)), (.ref b1)])
  refine Go.iastore X47 hx hZ V36 e47 ⟨by decide, by decide⟩ 3 (by decide) (Nat.le_of_ble_eq_true rfl)  (hb hby d4_46) rfl ?_
  intro T48 h48 X48 e48 W48 V48'
  have V48 : Arv Z h48 b1 k1 .int (9 : Int32) [(.int (cellv x y (1 : Int32))), (.int (cellv x y (2 : Int32))), (.int (cellv x y (4 : Int32))), (.int (cellv x y (8 : Int32))), (.int (0 : Int32)), (.int (0 : Int32)), (.int (0 : Int32)), (.int (0 : Int32)), (.int (0 : Int32))] (.int (0 : Int32)) := V48'
  have K49 := K37.wr W48 (Or.inr z1)
  have O50 := O38.wr W48 q1
  have N51 := Fr.snoc X48 N39 q1
  have F52 := F40.other W48 (Or.inl ne_a_b1)
  have F53 := F41.other W48 (Or.inl ne_a_b1)
  refine Go.iinc X48 hx (hb hby d4_47) rfl rfl #[.val (.ref a), .val (.ref b1), .val (.int ((3 : Int32) + (1 : Int32))), .val (.int (8 : Int32))] rfl ?_
  show Go p e below _ T48 (mkF m 50 #[.val (.ref a), .val (.ref b1), .val (.int ((3 : Int32) + (1 : Int32))), .val (.int (8 : Int32))] [])
  rw [show ((3 : Int32) + (1 : Int32)) = (4 : Int32) from by decide]
  show Go p e below _ T48 (mkF m 50 #[.val (.ref a), .val (.ref b1), .val (.int (4 : Int32)), .val (.int (8 : Int32))] [])
  refine Go.goto X48 hx (hb hby d4_50) rfl 7 (by decide) (by decide) ?_
  refine Go.iloadN X48 hx (hb hby d4_7) rfl rfl  ?_
  refine Go.bipush X48 hx (hb hby d4_8) rfl (9 : Int32) rfl ?_
  refine Go.icmpNo X48 hx (hb hby d4_10) rfl (tlt (by decide : (4 : Int32) < (9 : Int32))).2.1 ?_
  refine Go.iconst X48 hx (hb hby d4_13) rfl (1 : Int32) rfl ?_
  refine Go.iloadN X48 hx (hb hby d4_14) rfl rfl  ?_
  refine Go.ishl X48 hx (hb hby d4_15) rfl ?_
  show Go p e below _ T48 (mkF m 16 #[.val (.ref a), .val (.ref b1), .val (.int (4 : Int32)), .val (.int (8 : Int32))] [(.int (((1 : Int32) <<< ((4 : Int32) &&& 31))))])
  rw [show (((1 : Int32) <<< ((4 : Int32) &&& 31))) = (16 : Int32) from by decide]
  refine Go.istoreN X48 hx (hb hby d4_16) rfl  #[.val (.ref a), .val (.ref b1), .val (.int (4 : Int32)), .val (.int (16 : Int32))] rfl ?_
  refine Go.aloadN X48 hx (hb hby d4_17) rfl rfl rfl ?_
  refine Go.iloadN X48 hx (hb hby d4_18) rfl rfl  ?_
  refine Go.aloadN X48 hx (hb hby d4_19) rfl rfl rfl ?_
  refine Go.getF X48 hx hZ hown (host := "") (Or.inl (wd 9 rfl)) Via.refl e48 F52 (hb hby d4_20) rfl ?_
  intro T54 X54 e54
  refine Go.iloadN X54 hx (hb hby d4_23) rfl rfl  ?_
  refine Go.iand X54 hx (hb hby d4_24) rfl ?_
  refine Go.joinI X54 e54 ((cellv x y (16 : Int32))) (fun z => mkF m 46 #[.val (.ref a), .val (.ref b1), .val (.int (4 : Int32)), .val (.int (16 : Int32))] [(.int z), (.int (4 : Int32)), (.ref b1)]) ?_ ?_
  · intro J55
    by_cases hc56 : (x &&& (16 : Int32)) = (0 : Int32)
    · refine Go.ifYes X54 hx (hb hby d4_25) rfl 32 ((if0 _ _).trans (teq hc56).1) (by decide) (by decide) ?_
      refine Go.aloadN X54 hx (hb hby d4_32) rfl rfl rfl ?_
      refine Go.getF X54 hx hZ hown (host := "") (Or.inl (wd 11 rfl)) Via.refl e54 F53 (hb hby d4_33) rfl ?_
      intro T57 X57 e57
      refine Go.iloadN X57 hx (hb hby d4_36) rfl rfl  ?_
      refine Go.iand X57 hx (hb hby d4_37) rfl ?_
      by_cases hc58 : (y &&& (16 : Int32)) = (0 : Int32)
      · refine Go.ifYes X57 hx (hb hby d4_38) rfl 45 ((if0 _ _).trans (teq hc58).1) (by decide) (by decide) ?_
        refine Go.iconst X57 hx (hb hby d4_45) rfl (0 : Int32) rfl ?_
        exact J55 _ _ (by simp [cellv, hc56, hc58]) X57 e57
      · refine Go.ifNo X57 hx (hb hby d4_38) rfl ((if0 _ _).trans (feq hc58).1) ?_
        refine Go.iconst X57 hx (hb hby d4_41) rfl (2 : Int32) rfl ?_
        refine Go.goto X57 hx (hb hby d4_42) rfl 46 (by decide) (by decide) ?_
        exact J55 _ _ (by simp [cellv, hc56, hc58]) X57 e57
    · refine Go.ifNo X54 hx (hb hby d4_25) rfl ((if0 _ _).trans (feq hc56).1) ?_
      refine Go.iconst X54 hx (hb hby d4_28) rfl (1 : Int32) rfl ?_
      refine Go.goto X54 hx (hb hby d4_29) rfl 46 (by decide) (by decide) ?_
      exact J55 _ _ (by simp [cellv, hc56]) X54 e54
  intro T59 X59 e59
  show Go p e below _ T59 (mkF m 46 #[.val (.ref a), .val (.ref b1), .val (.int (4 : Int32)), .val (.int (16 : Int32))] [(.int (cellv x y (16 : Int32))), (.int (4 : Int32)), (.ref b1)])
  refine Go.iastore X59 hx hZ V48 e59 ⟨by decide, by decide⟩ 4 (by decide) (Nat.le_of_ble_eq_true rfl)  (hb hby d4_46) rfl ?_
  intro T60 h60 X60 e60 W60 V60'
  have V60 : Arv Z h60 b1 k1 .int (9 : Int32) [(.int (cellv x y (1 : Int32))), (.int (cellv x y (2 : Int32))), (.int (cellv x y (4 : Int32))), (.int (cellv x y (8 : Int32))), (.int (cellv x y (16 : Int32))), (.int (0 : Int32)), (.int (0 : Int32)), (.int (0 : Int32)), (.int (0 : Int32))] (.int (0 : Int32)) := V60'
  have K61 := K49.wr W60 (Or.inr z1)
  have O62 := O50.wr W60 q1
  have N63 := Fr.snoc X60 N51 q1
  have F64 := F52.other W60 (Or.inl ne_a_b1)
  have F65 := F53.other W60 (Or.inl ne_a_b1)
  refine Go.iinc X60 hx (hb hby d4_47) rfl rfl #[.val (.ref a), .val (.ref b1), .val (.int ((4 : Int32) + (1 : Int32))), .val (.int (16 : Int32))] rfl ?_
  show Go p e below _ T60 (mkF m 50 #[.val (.ref a), .val (.ref b1), .val (.int ((4 : Int32) + (1 : Int32))), .val (.int (16 : Int32))] [])
  rw [show ((4 : Int32) + (1 : Int32)) = (5 : Int32) from by decide]
  show Go p e below _ T60 (mkF m 50 #[.val (.ref a), .val (.ref b1), .val (.int (5 : Int32)), .val (.int (16 : Int32))] [])
  refine Go.goto X60 hx (hb hby d4_50) rfl 7 (by decide) (by decide) ?_
  refine Go.iloadN X60 hx (hb hby d4_7) rfl rfl  ?_
  refine Go.bipush X60 hx (hb hby d4_8) rfl (9 : Int32) rfl ?_
  refine Go.icmpNo X60 hx (hb hby d4_10) rfl (tlt (by decide : (5 : Int32) < (9 : Int32))).2.1 ?_
  refine Go.iconst X60 hx (hb hby d4_13) rfl (1 : Int32) rfl ?_
  refine Go.iloadN X60 hx (hb hby d4_14) rfl rfl  ?_
  refine Go.ishl X60 hx (hb hby d4_15) rfl ?_
  show Go p e below _ T60 (mkF m 16 #[.val (.ref a), .val (.ref b1), .val (.int (5 : Int32)), .val (.int (16 : Int32))] [(.int (((1 : Int32) <<< ((5 : Int32) &&& 31))))])
  rw [show (((1 : Int32) <<< ((5 : Int32) &&& 31))) = (32 : Int32) from by decide]
  refine Go.istoreN X60 hx (hb hby d4_16) rfl  #[.val (.ref a), .val (.ref b1), .val (.int (5 : Int32)), .val (.int (32 : Int32))] rfl ?_
  refine Go.aloadN X60 hx (hb hby d4_17) rfl rfl rfl ?_
  refine Go.iloadN X60 hx (hb hby d4_18) rfl rfl  ?_
  refine Go.aloadN X60 hx (hb hby d4_19) rfl rfl rfl ?_
  refine Go.getF X60 hx hZ hown (host := "") (Or.inl (wd 9 rfl)) Via.refl e60 F64 (hb hby d4_20) rfl ?_
  intro T66 X66 e66
  refine Go.iloadN X66 hx (hb hby d4_23) rfl rfl  ?_
  refine Go.iand X66 hx (hb hby d4_24) rfl ?_
  refine Go.joinI X66 e66 ((cellv x y (32 : Int32))) (fun z => mkF m 46 #[.val (.ref a), .val (.ref b1), .val (.int (5 : Int32)), .val (.int (32 : Int32))] [(.int z), (.int (5 : Int32)), (.ref b1)]) ?_ ?_
  · intro J67
    by_cases hc68 : (x &&& (32 : Int32)) = (0 : Int32)
    · refine Go.ifYes X66 hx (hb hby d4_25) rfl 32 ((if0 _ _).trans (teq hc68).1) (by decide) (by decide) ?_
      refine Go.aloadN X66 hx (hb hby d4_32) rfl rfl rfl ?_
      refine Go.getF X66 hx hZ hown (host := "") (Or.inl (wd 11 rfl)) Via.refl e66 F65 (hb hby d4_33) rfl ?_
      intro T69 X69 e69
      refine Go.iloadN X69 hx (hb hby d4_36) rfl rfl  ?_
      refine Go.iand X69 hx (hb hby d4_37) rfl ?_
      by_cases hc70 : (y &&& (32 : Int32)) = (0 : Int32)
      · refine Go.ifYes X69 hx (hb hby d4_38) rfl 45 ((if0 _ _).trans (teq hc70).1) (by decide) (by decide) ?_
        refine Go.iconst X69 hx (hb hby d4_45) rfl (0 : Int32) rfl ?_
        exact J67 _ _ (by simp [cellv, hc68, hc70]) X69 e69
      · refine Go.ifNo X69 hx (hb hby d4_38) rfl ((if0 _ _).trans (feq hc70).1) ?_
        refine Go.iconst X69 hx (hb hby d4_41) rfl (2 : Int32) rfl ?_
        refine Go.goto X69 hx (hb hby d4_42) rfl 46 (by decide) (by decide) ?_
        exact J67 _ _ (by simp [cellv, hc68, hc70]) X69 e69
    · refine Go.ifNo X66 hx (hb hby d4_25) rfl ((if0 _ _).trans (feq hc68).1) ?_
      refine Go.iconst X66 hx (hb hby d4_28) rfl (1 : Int32) rfl ?_
      refine Go.goto X66 hx (hb hby d4_29) rfl 46 (by decide) (by decide) ?_
      exact J67 _ _ (by simp [cellv, hc68]) X66 e66
  intro T71 X71 e71
  show Go p e below _ T71 (mkF m 46 #[.val (.ref a), .val (.ref b1), .val (.int (5 : Int32)), .val (.int (32 : Int32))] [(.int (cellv x y (32 : Int32))), (.int (5 : Int32)), (.ref b1)])
  refine Go.iastore X71 hx hZ V60 e71 ⟨by decide, by decide⟩ 5 (by decide) (Nat.le_of_ble_eq_true rfl)  (hb hby d4_46) rfl ?_
  intro T72 h72 X72 e72 W72 V72'
  have V72 : Arv Z h72 b1 k1 .int (9 : Int32) [(.int (cellv x y (1 : Int32))), (.int (cellv x y (2 : Int32))), (.int (cellv x y (4 : Int32))), (.int (cellv x y (8 : Int32))), (.int (cellv x y (16 : Int32))), (.int (cellv x y (32 : Int32))), (.int (0 : Int32)), (.int (0 : Int32)), (.int (0 : Int32))] (.int (0 : Int32)) := V72'
  have K73 := K61.wr W72 (Or.inr z1)
  have O74 := O62.wr W72 q1
  have N75 := Fr.snoc X72 N63 q1
  have F76 := F64.other W72 (Or.inl ne_a_b1)
  have F77 := F65.other W72 (Or.inl ne_a_b1)
  refine Go.iinc X72 hx (hb hby d4_47) rfl rfl #[.val (.ref a), .val (.ref b1), .val (.int ((5 : Int32) + (1 : Int32))), .val (.int (32 : Int32))] rfl ?_
  show Go p e below _ T72 (mkF m 50 #[.val (.ref a), .val (.ref b1), .val (.int ((5 : Int32) + (1 : Int32))), .val (.int (32 : Int32))] [])
  rw [show ((5 : Int32) + (1 : Int32)) = (6 : Int32) from by decide]
  show Go p e below _ T72 (mkF m 50 #[.val (.ref a), .val (.ref b1), .val (.int (6 : Int32)), .val (.int (32 : Int32))] [])
  refine Go.goto X72 hx (hb hby d4_50) rfl 7 (by decide) (by decide) ?_
  refine Go.iloadN X72 hx (hb hby d4_7) rfl rfl  ?_
  refine Go.bipush X72 hx (hb hby d4_8) rfl (9 : Int32) rfl ?_
  refine Go.icmpNo X72 hx (hb hby d4_10) rfl (tlt (by decide : (6 : Int32) < (9 : Int32))).2.1 ?_
  refine Go.iconst X72 hx (hb hby d4_13) rfl (1 : Int32) rfl ?_
  refine Go.iloadN X72 hx (hb hby d4_14) rfl rfl  ?_
  refine Go.ishl X72 hx (hb hby d4_15) rfl ?_
  show Go p e below _ T72 (mkF m 16 #[.val (.ref a), .val (.ref b1), .val (.int (6 : Int32)), .val (.int (32 : Int32))] [(.int (((1 : Int32) <<< ((6 : Int32) &&& 31))))])
  rw [show (((1 : Int32) <<< ((6 : Int32) &&& 31))) = (64 : Int32) from by decide]
  refine Go.istoreN X72 hx (hb hby d4_16) rfl  #[.val (.ref a), .val (.ref b1), .val (.int (6 : Int32)), .val (.int (64 : Int32))] rfl ?_
  refine Go.aloadN X72 hx (hb hby d4_17) rfl rfl rfl ?_
  refine Go.iloadN X72 hx (hb hby d4_18) rfl rfl  ?_
  refine Go.aloadN X72 hx (hb hby d4_19) rfl rfl rfl ?_
  refine Go.getF X72 hx hZ hown (host := "") (Or.inl (wd 9 rfl)) Via.refl e72 F76 (hb hby d4_20) rfl ?_
  intro T78 X78 e78
  refine Go.iloadN X78 hx (hb hby d4_23) rfl rfl  ?_
  refine Go.iand X78 hx (hb hby d4_24) rfl ?_
  refine Go.joinI X78 e78 ((cellv x y (64 : Int32))) (fun z => mkF m 46 #[.val (.ref a), .val (.ref b1), .val (.int (6 : Int32)), .val (.int (64 : Int32))] [(.int z), (.int (6 : Int32)), (.ref b1)]) ?_ ?_
  · intro J79
    by_cases hc80 : (x &&& (64 : Int32)) = (0 : Int32)
    · refine Go.ifYes X78 hx (hb hby d4_25) rfl 32 ((if0 _ _).trans (teq hc80).1) (by decide) (by decide) ?_
      refine Go.aloadN X78 hx (hb hby d4_32) rfl rfl rfl ?_
      refine Go.getF X78 hx hZ hown (host := "") (Or.inl (wd 11 rfl)) Via.refl e78 F77 (hb hby d4_33) rfl ?_
      intro T81 X81 e81
      refine Go.iloadN X81 hx (hb hby d4_36) rfl rfl  ?_
      refine Go.iand X81 hx (hb hby d4_37) rfl ?_
      by_cases hc82 : (y &&& (64 : Int32)) = (0 : Int32)
      · refine Go.ifYes X81 hx (hb hby d4_38) rfl 45 ((if0 _ _).trans (teq hc82).1) (by decide) (by decide) ?_
        refine Go.iconst X81 hx (hb hby d4_45) rfl (0 : Int32) rfl ?_
        exact J79 _ _ (by simp [cellv, hc80, hc82]) X81 e81
      · refine Go.ifNo X81 hx (hb hby d4_38) rfl ((if0 _ _).trans (feq hc82).1) ?_
        refine Go.iconst X81 hx (hb hby d4_41) rfl (2 : Int32) rfl ?_
        refine Go.goto X81 hx (hb hby d4_42) rfl 46 (by decide) (by decide) ?_
        exact J79 _ _ (by simp [cellv, hc80, hc82]) X81 e81
    · refine Go.ifNo X78 hx (hb hby d4_25) rfl ((if0 _ _).trans (feq hc80).1) ?_
      refine Go.iconst X78 hx (hb hby d4_28) rfl (1 : Int32) rfl ?_
      refine Go.goto X78 hx (hb hby d4_29) rfl 46 (by decide) (by decide) ?_
      exact J79 _ _ (by simp [cellv, hc80]) X78 e78
  intro T83 X83 e83
  show Go p e below _ T83 (mkF m 46 #[.val (.ref a), .val (.ref b1), .val (.int (6 : Int32)), .val (.int (64 : Int32))] [(.int (cellv x y (64 : Int32))), (.int (6 : Int32)), (.ref b1)])
  refine Go.iastore X83 hx hZ V72 e83 ⟨by decide, by decide⟩ 6 (by decide) (Nat.le_of_ble_eq_true rfl)  (hb hby d4_46) rfl ?_
  intro T84 h84 X84 e84 W84 V84'
  have V84 : Arv Z h84 b1 k1 .int (9 : Int32) [(.int (cellv x y (1 : Int32))), (.int (cellv x y (2 : Int32))), (.int (cellv x y (4 : Int32))), (.int (cellv x y (8 : Int32))), (.int (cellv x y (16 : Int32))), (.int (cellv x y (32 : Int32))), (.int (cellv x y (64 : Int32))), (.int (0 : Int32)), (.int (0 : Int32))] (.int (0 : Int32)) := V84'
  have K85 := K73.wr W84 (Or.inr z1)
  have O86 := O74.wr W84 q1
  have N87 := Fr.snoc X84 N75 q1
  have F88 := F76.other W84 (Or.inl ne_a_b1)
  have F89 := F77.other W84 (Or.inl ne_a_b1)
  refine Go.iinc X84 hx (hb hby d4_47) rfl rfl #[.val (.ref a), .val (.ref b1), .val (.int ((6 : Int32) + (1 : Int32))), .val (.int (64 : Int32))] rfl ?_
  show Go p e below _ T84 (mkF m 50 #[.val (.ref a), .val (.ref b1), .val (.int ((6 : Int32) + (1 : Int32))), .val (.int (64 : Int32))] [])
  rw [show ((6 : Int32) + (1 : Int32)) = (7 : Int32) from by decide]
  show Go p e below _ T84 (mkF m 50 #[.val (.ref a), .val (.ref b1), .val (.int (7 : Int32)), .val (.int (64 : Int32))] [])
  refine Go.goto X84 hx (hb hby d4_50) rfl 7 (by decide) (by decide) ?_
  refine Go.iloadN X84 hx (hb hby d4_7) rfl rfl  ?_
  refine Go.bipush X84 hx (hb hby d4_8) rfl (9 : Int32) rfl ?_
  refine Go.icmpNo X84 hx (hb hby d4_10) rfl (tlt (by decide : (7 : Int32) < (9 : Int32))).2.1 ?_
  refine Go.iconst X84 hx (hb hby d4_13) rfl (1 : Int32) rfl ?_
  refine Go.iloadN X84 hx (hb hby d4_14) rfl rfl  ?_
  refine Go.ishl X84 hx (hb hby d4_15) rfl ?_
  show Go p e below _ T84 (mkF m 16 #[.val (.ref a), .val (.ref b1), .val (.int (7 : Int32)), .val (.int (64 : Int32))] [(.int (((1 : Int32) <<< ((7 : Int32) &&& 31))))])
  rw [show (((1 : Int32) <<< ((7 : Int32) &&& 31))) = (128 : Int32) from by decide]
  refine Go.istoreN X84 hx (hb hby d4_16) rfl  #[.val (.ref a), .val (.ref b1), .val (.int (7 : Int32)), .val (.int (128 : Int32))] rfl ?_
  refine Go.aloadN X84 hx (hb hby d4_17) rfl rfl rfl ?_
  refine Go.iloadN X84 hx (hb hby d4_18) rfl rfl  ?_
  refine Go.aloadN X84 hx (hb hby d4_19) rfl rfl rfl ?_
  refine Go.getF X84 hx hZ hown (host := "") (Or.inl (wd 9 rfl)) Via.refl e84 F88 (hb hby d4_20) rfl ?_
  intro T90 X90 e90
  refine Go.iloadN X90 hx (hb hby d4_23) rfl rfl  ?_
  refine Go.iand X90 hx (hb hby d4_24) rfl ?_
  refine Go.joinI X90 e90 ((cellv x y (128 : Int32))) (fun z => mkF m 46 #[.val (.ref a), .val (.ref b1), .val (.int (7 : Int32)), .val (.int (128 : Int32))] [(.int z), (.int (7 : Int32)), (.ref b1)]) ?_ ?_
  · intro J91
    by_cases hc92 : (x &&& (128 : Int32)) = (0 : Int32)
    · refine Go.ifYes X90 hx (hb hby d4_25) rfl 32 ((if0 _ _).trans (teq hc92).1) (by decide) (by decide) ?_
      refine Go.aloadN X90 hx (hb hby d4_32) rfl rfl rfl ?_
      refine Go.getF X90 hx hZ hown (host := "") (Or.inl (wd 11 rfl)) Via.refl e90 F89 (hb hby d4_33) rfl ?_
      intro T93 X93 e93
      refine Go.iloadN X93 hx (hb hby d4_36) rfl rfl  ?_
      refine Go.iand X93 hx (hb hby d4_37) rfl ?_
      by_cases hc94 : (y &&& (128 : Int32)) = (0 : Int32)
      · refine Go.ifYes X93 hx (hb hby d4_38) rfl 45 ((if0 _ _).trans (teq hc94).1) (by decide) (by decide) ?_
        refine Go.iconst X93 hx (hb hby d4_45) rfl (0 : Int32) rfl ?_
        exact J91 _ _ (by simp [cellv, hc92, hc94]) X93 e93
      · refine Go.ifNo X93 hx (hb hby d4_38) rfl ((if0 _ _).trans (feq hc94).1) ?_
        refine Go.iconst X93 hx (hb hby d4_41) rfl (2 : Int32) rfl ?_
        refine Go.goto X93 hx (hb hby d4_42) rfl 46 (by decide) (by decide) ?_
        exact J91 _ _ (by simp [cellv, hc92, hc94]) X93 e93
    · refine Go.ifNo X90 hx (hb hby d4_25) rfl ((if0 _ _).trans (feq hc92).1) ?_
      refine Go.iconst X90 hx (hb hby d4_28) rfl (1 : Int32) rfl ?_
      refine Go.goto X90 hx (hb hby d4_29) rfl 46 (by decide) (by decide) ?_
      exact J91 _ _ (by simp [cellv, hc92]) X90 e90
  intro T95 X95 e95
  show Go p e below _ T95 (mkF m 46 #[.val (.ref a), .val (.ref b1), .val (.int (7 : Int32)), .val (.int (128 : Int32))] [(.int (cellv x y (128 : Int32))), (.int (7 : Int32)), (.ref b1)])
  refine Go.iastore X95 hx hZ V84 e95 ⟨by decide, by decide⟩ 7 (by decide) (Nat.le_of_ble_eq_true rfl)  (hb hby d4_46) rfl ?_
  intro T96 h96 X96 e96 W96 V96'
  have V96 : Arv Z h96 b1 k1 .int (9 : Int32) [(.int (cellv x y (1 : Int32))), (.int (cellv x y (2 : Int32))), (.int (cellv x y (4 : Int32))), (.int (cellv x y (8 : Int32))), (.int (cellv x y (16 : Int32))), (.int (cellv x y (32 : Int32))), (.int (cellv x y (64 : Int32))), (.int (cellv x y (128 : Int32))), (.int (0 : Int32))] (.int (0 : Int32)) := V96'
  have K97 := K85.wr W96 (Or.inr z1)
  have O98 := O86.wr W96 q1
  have N99 := Fr.snoc X96 N87 q1
  have F100 := F88.other W96 (Or.inl ne_a_b1)
  have F101 := F89.other W96 (Or.inl ne_a_b1)
  refine Go.iinc X96 hx (hb hby d4_47) rfl rfl #[.val (.ref a), .val (.ref b1), .val (.int ((7 : Int32) + (1 : Int32))), .val (.int (128 : Int32))] rfl ?_
  show Go p e below _ T96 (mkF m 50 #[.val (.ref a), .val (.ref b1), .val (.int ((7 : Int32) + (1 : Int32))), .val (.int (128 : Int32))] [])
  rw [show ((7 : Int32) + (1 : Int32)) = (8 : Int32) from by decide]
  show Go p e below _ T96 (mkF m 50 #[.val (.ref a), .val (.ref b1), .val (.int (8 : Int32)), .val (.int (128 : Int32))] [])
  refine Go.goto X96 hx (hb hby d4_50) rfl 7 (by decide) (by decide) ?_
  refine Go.iloadN X96 hx (hb hby d4_7) rfl rfl  ?_
  refine Go.bipush X96 hx (hb hby d4_8) rfl (9 : Int32) rfl ?_
  refine Go.icmpNo X96 hx (hb hby d4_10) rfl (tlt (by decide : (8 : Int32) < (9 : Int32))).2.1 ?_
  refine Go.iconst X96 hx (hb hby d4_13) rfl (1 : Int32) rfl ?_
  refine Go.iloadN X96 hx (hb hby d4_14) rfl rfl  ?_
  refine Go.ishl X96 hx (hb hby d4_15) rfl ?_
  show Go p e below _ T96 (mkF m 16 #[.val (.ref a), .val (.ref b1), .val (.int (8 : Int32)), .val (.int (128 : Int32))] [(.int (((1 : Int32) <<< ((8 : Int32) &&& 31))))])
  rw [show (((1 : Int32) <<< ((8 : Int32) &&& 31))) = (256 : Int32) from by decide]
  refine Go.istoreN X96 hx (hb hby d4_16) rfl  #[.val (.ref a), .val (.ref b1), .val (.int (8 : Int32)), .val (.int (256 : Int32))] rfl ?_
  refine Go.aloadN X96 hx (hb hby d4_17) rfl rfl rfl ?_
  refine Go.iloadN X96 hx (hb hby d4_18) rfl rfl  ?_
  refine Go.aloadN X96 hx (hb hby d4_19) rfl rfl rfl ?_
  refine Go.getF X96 hx hZ hown (host := "") (Or.inl (wd 9 rfl)) Via.refl e96 F100 (hb hby d4_20) rfl ?_
  intro T102 X102 e102
  refine Go.iloadN X102 hx (hb hby d4_23) rfl rfl  ?_
  refine Go.iand X102 hx (hb hby d4_24) rfl ?_
  refine Go.joinI X102 e102 ((cellv x y (256 : Int32))) (fun z => mkF m 46 #[.val (.ref a), .val (.ref b1), .val (.int (8 : Int32)), .val (.int (256 : Int32))] [(.int z), (.int (8 : Int32)), (.ref b1)]) ?_ ?_
  · intro J103
    by_cases hc104 : (x &&& (256 : Int32)) = (0 : Int32)
    · refine Go.ifYes X102 hx (hb hby d4_25) rfl 32 ((if0 _ _).trans (teq hc104).1) (by decide) (by decide) ?_
      refine Go.aloadN X102 hx (hb hby d4_32) rfl rfl rfl ?_
      refine Go.getF X102 hx hZ hown (host := "") (Or.inl (wd 11 rfl)) Via.refl e102 F101 (hb hby d4_33) rfl ?_
      intro T105 X105 e105
      refine Go.iloadN X105 hx (hb hby d4_36) rfl rfl  ?_
      refine Go.iand X105 hx (hb hby d4_37) rfl ?_
      by_cases hc106 : (y &&& (256 : Int32)) = (0 : Int32)
      · refine Go.ifYes X105 hx (hb hby d4_38) rfl 45 ((if0 _ _).trans (teq hc106).1) (by decide) (by decide) ?_
        refine Go.iconst X105 hx (hb hby d4_45) rfl (0 : Int32) rfl ?_
        exact J103 _ _ (by simp [cellv, hc104, hc106]) X105 e105
      · refine Go.ifNo X105 hx (hb hby d4_38) rfl ((if0 _ _).trans (feq hc106).1) ?_
        refine Go.iconst X105 hx (hb hby d4_41) rfl (2 : Int32) rfl ?_
        refine Go.goto X105 hx (hb hby d4_42) rfl 46 (by decide) (by decide) ?_
        exact J103 _ _ (by simp [cellv, hc104, hc106]) X105 e105
    · refine Go.ifNo X102 hx (hb hby d4_25) rfl ((if0 _ _).trans (feq hc104).1) ?_
      refine Go.iconst X102 hx (hb hby d4_28) rfl (1 : Int32) rfl ?_
      refine Go.goto X102 hx (hb hby d4_29) rfl 46 (by decide) (by decide) ?_
      exact J103 _ _ (by simp [cellv, hc104]) X102 e102
  intro T107 X107 e107
  show Go p e below _ T107 (mkF m 46 #[.val (.ref a), .val (.ref b1), .val (.int (8 : Int32)), .val (.int (256 : Int32))] [(.int (cellv x y (256 : Int32))), (.int (8 : Int32)), (.ref b1)])
  refine Go.iastore X107 hx hZ V96 e107 ⟨by decide, by decide⟩ 8 (by decide) (Nat.le_of_ble_eq_true rfl)  (hb hby d4_46) rfl ?_
  intro T108 h108 X108 e108 W108 V108'
  have V108 : Arv Z h108 b1 k1 .int (9 : Int32) [(.int (cellv x y (1 : Int32))), (.int (cellv x y (2 : Int32))), (.int (cellv x y (4 : Int32))), (.int (cellv x y (8 : Int32))), (.int (cellv x y (16 : Int32))), (.int (cellv x y (32 : Int32))), (.int (cellv x y (64 : Int32))), (.int (cellv x y (128 : Int32))), (.int (cellv x y (256 : Int32)))] (.int (0 : Int32)) := V108'
  have K109 := K97.wr W108 (Or.inr z1)
  have O110 := O98.wr W108 q1
  have N111 := Fr.snoc X108 N99 q1
  have F112 := F100.other W108 (Or.inl ne_a_b1)
  have F113 := F101.other W108 (Or.inl ne_a_b1)
  refine Go.iinc X108 hx (hb hby d4_47) rfl rfl #[.val (.ref a), .val (.ref b1), .val (.int ((8 : Int32) + (1 : Int32))), .val (.int (256 : Int32))] rfl ?_
  show Go p e below _ T108 (mkF m 50 #[.val (.ref a), .val (.ref b1), .val (.int ((8 : Int32) + (1 : Int32))), .val (.int (256 : Int32))] [])
  rw [show ((8 : Int32) + (1 : Int32)) = (9 : Int32) from by decide]
  show Go p e below _ T108 (mkF m 50 #[.val (.ref a), .val (.ref b1), .val (.int (9 : Int32)), .val (.int (256 : Int32))] [])
  refine Go.goto X108 hx (hb hby d4_50) rfl 7 (by decide) (by decide) ?_
  refine Go.iloadN X108 hx (hb hby d4_7) rfl rfl  ?_
  refine Go.bipush X108 hx (hb hby d4_8) rfl (9 : Int32) rfl ?_
  refine Go.icmpYes X108 hx (hb hby d4_10) rfl 53 (flt (by decide : ¬ ((9 : Int32) < (9 : Int32)))).2.1 (by decide) (by decide) ?_
  refine Go.aloadN X108 hx (hb hby d4_53) rfl rfl rfl ?_
  exact Go.retA X108 hx hret hlk rfl rfl (hb hby d4_54) rfl (by rw [e108]; exact ⟨b1, k1, rfl, N111, K109, z1, V108⟩) (Nat.le_of_ble_eq_true rfl) (Nat.le_of_ble_eq_true rfl)
theorem d6_0 : decode method_2_code 0 = .ok (.aload_n 0, 1) := by decide +kernel
theorem d6_1 : decode method_2_code 1 = .ok (.iload_n 1, 1) := by decide +kernel
theorem d6_2 : decode method_2_code 2 = .ok (.iaload, 1) := by decide +kernel
theorem d6_3 : decode method_2_code 3 = .ok (.iload_n 2, 1) := by decide +kernel
theorem d6_4 : decode method_2_code 4 = .ok (.if_icmp .ne 9, 3) := by decide +kernel
theorem d6_7 : decode method_2_code 7 = .ok (.iconst 1, 1) := by decide +kernel
theorem d6_8 : decode method_2_code 8 = .ok (.iload_n 1, 1) := by decide +kernel
theorem d6_9 : decode method_2_code 9 = .ok (.ishl, 1) := by decide +kernel
theorem d6_10 : decode method_2_code 10 = .ok (.goto 4, 3) := by decide +kernel
theorem d6_13 : decode method_2_code 13 = .ok (.iconst 0, 1) := by decide +kernel
theorem d6_14 : decode method_2_code 14 = .ok (.ireturn, 1) := by decide +kernel
theorem pn_6 : plainName "com/example/afterstate/afterstate/tictactoe/TicTacToePositionCellsPinLaw" = true := by first | (simp [plainName, overriddenIn]; done) | decide +kernel
theorem ef_6 (m : MethodId) (x0 : Addr) (x1 : Int32) (x2 : Int32) : entryFrame m #[(.ref x0), (.int x1), (.int x2)] 3 = mkF m 0 #[.val (.ref x0), .val (.int x1), .val (.int x2)] [] := by first | (simp [entryFrame, mkF, argsToLocals, Value.category]; done) | rfl
set_option maxRecDepth 65536 in
set_option maxHeartbeats 40000000 in
theorem rmB0 (l : Launch) (Z : State) (a0 : Array Value) (hw : ∀ d ∈ tables_1, d.before a0 Z = true) (a : Addr) (k : ClassId) (v0 v1 v2 v3 v4 v5 v6 v7 v8 st : Int32) (h0 : Heap) (V : Arv Z h0 a k .int (9 : Int32) [(.int v0), (.int v1), (.int v2), (.int v3), (.int v4), (.int v5), (.int v6), (.int v7), (.int v8)] (.int (0 : Int32))) : Pur l Z (⟨"com/example/afterstate/afterstate/tictactoe/TicTacToePositionCellsPinLaw", "bitIf", "([III)I"⟩ : MethodName) method_2_code 3 (some .int) 0 0 #[(.ref a), (.int (0 : Int32)), (.int st)] h0 (some (.int (if v0 = st then (1 : Int32) else 0))) := by
  refine Ctr.of (plainFor_of_name pn_6) ?_
  have wd : ∀ {d : Jvm.Cond} (i : Nat), tables_1[i]? = some d → d.before a0 Z = true := fun i q => hw _ (List.mem_of_getElem? q)
  intro p e s m below meth c s₁ hx hby hml hown hnm hret hlk hZ X0 e0
  refine Go.cast (ef_6 m a (0 : Int32) st) ?_
  show Go p e below _ s₁ (mkF m 0 #[.val (.ref a), .val (.int (0 : Int32)), .val (.int st)] [])
  refine Go.aloadN X0 hx (hb hby d6_0) rfl rfl rfl ?_
  refine Go.iloadN X0 hx (hb hby d6_1) rfl rfl  ?_
  refine Go.iaload X0 hx hZ (.int v0) V e0  ⟨by decide, by decide⟩ rfl (hb hby d6_2) rfl ?_
  refine Go.iloadN X0 hx (hb hby d6_3) rfl rfl  ?_
  by_cases hc1 : v0 = st
  · refine Go.icmpNo X0 hx (hb hby d6_4) rfl (teq hc1).2 ?_
    refine Go.iconst X0 hx (hb hby d6_7) rfl (1 : Int32) rfl ?_
    refine Go.iloadN X0 hx (hb hby d6_8) rfl rfl  ?_
    refine Go.ishl X0 hx (hb hby d6_9) rfl ?_
    show Go p e below _ s₁ (mkF m 10 #[.val (.ref a), .val (.int (0 : Int32)), .val (.int st)] [(.int (((1 : Int32) <<< ((0 : Int32) &&& 31))))])
    rw [show (((1 : Int32) <<< ((0 : Int32) &&& 31))) = (1 : Int32) from by decide]
    refine Go.goto X0 hx (hb hby d6_10) rfl 14 (by decide) (by decide) ?_
    exact Go.retI X0 hx hret hlk (hb hby d6_14) rfl ⟨by first | rfl | simp [hc1], rfl, e0⟩ (Nat.le_of_ble_eq_true rfl) (Nat.le_of_ble_eq_true rfl)
  · refine Go.icmpYes X0 hx (hb hby d6_4) rfl 13 (feq hc1).2 (by decide) (by decide) ?_
    refine Go.iconst X0 hx (hb hby d6_13) rfl (0 : Int32) rfl ?_
    exact Go.retI X0 hx hret hlk (hb hby d6_14) rfl ⟨by first | rfl | simp [hc1], rfl, e0⟩ (Nat.le_of_ble_eq_true rfl) (Nat.le_of_ble_eq_true rfl)
set_option maxRecDepth 65536 in
set_option maxHeartbeats 40000000 in
theorem rmB1 (l : Launch) (Z : State) (a0 : Array Value) (hw : ∀ d ∈ tables_1, d.before a0 Z = true) (a : Addr) (k : ClassId) (v0 v1 v2 v3 v4 v5 v6 v7 v8 st : Int32) (h0 : Heap) (V : Arv Z h0 a k .int (9 : Int32) [(.int v0), (.int v1), (.int v2), (.int v3), (.int v4), (.int v5), (.int v6), (.int v7), (.int v8)] (.int (0 : Int32))) : Pur l Z (⟨"com/example/afterstate/afterstate/tictactoe/TicTacToePositionCellsPinLaw", "bitIf", "([III)I"⟩ : MethodName) method_2_code 3 (some .int) 0 0 #[(.ref a), (.int (1 : Int32)), (.int st)] h0 (some (.int (if v1 = st then (2 : Int32) else 0))) := by
  refine Ctr.of (plainFor_of_name pn_6) ?_
  have wd : ∀ {d : Jvm.Cond} (i : Nat), tables_1[i]? = some d → d.before a0 Z = true := fun i q => hw _ (List.mem_of_getElem? q)
  intro p e s m below meth c s₁ hx hby hml hown hnm hret hlk hZ X0 e0
  refine Go.cast (ef_6 m a (1 : Int32) st) ?_
  show Go p e below _ s₁ (mkF m 0 #[.val (.ref a), .val (.int (1 : Int32)), .val (.int st)] [])
  refine Go.aloadN X0 hx (hb hby d6_0) rfl rfl rfl ?_
  refine Go.iloadN X0 hx (hb hby d6_1) rfl rfl  ?_
  refine Go.iaload X0 hx hZ (.int v1) V e0  ⟨by decide, by decide⟩ rfl (hb hby d6_2) rfl ?_
  refine Go.iloadN X0 hx (hb hby d6_3) rfl rfl  ?_
  by_cases hc1 : v1 = st
  · refine Go.icmpNo X0 hx (hb hby d6_4) rfl (teq hc1).2 ?_
    refine Go.iconst X0 hx (hb hby d6_7) rfl (1 : Int32) rfl ?_
    refine Go.iloadN X0 hx (hb hby d6_8) rfl rfl  ?_
    refine Go.ishl X0 hx (hb hby d6_9) rfl ?_
    show Go p e below _ s₁ (mkF m 10 #[.val (.ref a), .val (.int (1 : Int32)), .val (.int st)] [(.int (((1 : Int32) <<< ((1 : Int32) &&& 31))))])
    rw [show (((1 : Int32) <<< ((1 : Int32) &&& 31))) = (2 : Int32) from by decide]
    refine Go.goto X0 hx (hb hby d6_10) rfl 14 (by decide) (by decide) ?_
    exact Go.retI X0 hx hret hlk (hb hby d6_14) rfl ⟨by first | rfl | simp [hc1], rfl, e0⟩ (Nat.le_of_ble_eq_true rfl) (Nat.le_of_ble_eq_true rfl)
  · refine Go.icmpYes X0 hx (hb hby d6_4) rfl 13 (feq hc1).2 (by decide) (by decide) ?_
    refine Go.iconst X0 hx (hb hby d6_13) rfl (0 : Int32) rfl ?_
    exact Go.retI X0 hx hret hlk (hb hby d6_14) rfl ⟨by first | rfl | simp [hc1], rfl, e0⟩ (Nat.le_of_ble_eq_true rfl) (Nat.le_of_ble_eq_true rfl)
set_option maxRecDepth 65536 in
set_option maxHeartbeats 40000000 in
theorem rmB2 (l : Launch) (Z : State) (a0 : Array Value) (hw : ∀ d ∈ tables_1, d.before a0 Z = true) (a : Addr) (k : ClassId) (v0 v1 v2 v3 v4 v5 v6 v7 v8 st : Int32) (h0 : Heap) (V : Arv Z h0 a k .int (9 : Int32) [(.int v0), (.int v1), (.int v2), (.int v3), (.int v4), (.int v5), (.int v6), (.int v7), (.int v8)] (.int (0 : Int32))) : Pur l Z (⟨"com/example/afterstate/afterstate/tictactoe/TicTacToePositionCellsPinLaw", "bitIf", "([III)I"⟩ : MethodName) method_2_code 3 (some .int) 0 0 #[(.ref a), (.int (2 : Int32)), (.int st)] h0 (some (.int (if v2 = st then (4 : Int32) else 0))) := by
  refine Ctr.of (plainFor_of_name pn_6) ?_
  have wd : ∀ {d : Jvm.Cond} (i : Nat), tables_1[i]? = some d → d.before a0 Z = true := fun i q => hw _ (List.mem_of_getElem? q)
  intro p e s m below meth c s₁ hx hby hml hown hnm hret hlk hZ X0 e0
  refine Go.cast (ef_6 m a (2 : Int32) st) ?_
  show Go p e below _ s₁ (mkF m 0 #[.val (.ref a), .val (.int (2 : Int32)), .val (.int st)] [])
  refine Go.aloadN X0 hx (hb hby d6_0) rfl rfl rfl ?_
  refine Go.iloadN X0 hx (hb hby d6_1) rfl rfl  ?_
  refine Go.iaload X0 hx hZ (.int v2) V e0  ⟨by decide, by decide⟩ rfl (hb hby d6_2) rfl ?_
  refine Go.iloadN X0 hx (hb hby d6_3) rfl rfl  ?_
  by_cases hc1 : v2 = st
  · refine Go.icmpNo X0 hx (hb hby d6_4) rfl (teq hc1).2 ?_
    refine Go.iconst X0 hx (hb hby d6_7) rfl (1 : Int32) rfl ?_
    refine Go.iloadN X0 hx (hb hby d6_8) rfl rfl  ?_
    refine Go.ishl X0 hx (hb hby d6_9) rfl ?_
    show Go p e below _ s₁ (mkF m 10 #[.val (.ref a), .val (.int (2 : Int32)), .val (.int st)] [(.int (((1 : Int32) <<< ((2 : Int32) &&& 31))))])
    rw [show (((1 : Int32) <<< ((2 : Int32) &&& 31))) = (4 : Int32) from by decide]
    refine Go.goto X0 hx (hb hby d6_10) rfl 14 (by decide) (by decide) ?_
    exact Go.retI X0 hx hret hlk (hb hby d6_14) rfl ⟨by first | rfl | simp [hc1], rfl, e0⟩ (Nat.le_of_ble_eq_true rfl) (Nat.le_of_ble_eq_true rfl)
  · refine Go.icmpYes X0 hx (hb hby d6_4) rfl 13 (feq hc1).2 (by decide) (by decide) ?_
    refine Go.iconst X0 hx (hb hby d6_13) rfl (0 : Int32) rfl ?_
    exact Go.retI X0 hx hret hlk (hb hby d6_14) rfl ⟨by first | rfl | simp [hc1], rfl, e0⟩ (Nat.le_of_ble_eq_true rfl) (Nat.le_of_ble_eq_true rfl)
set_option maxRecDepth 65536 in
set_option maxHeartbeats 40000000 in
theorem rmB3 (l : Launch) (Z : State) (a0 : Array Value) (hw : ∀ d ∈ tables_1, d.before a0 Z = true) (a : Addr) (k : ClassId) (v0 v1 v2 v3 v4 v5 v6 v7 v8 st : Int32) (h0 : Heap) (V : Arv Z h0 a k .int (9 : Int32) [(.int v0), (.int v1), (.int v2), (.int v3), (.int v4), (.int v5), (.int v6), (.int v7), (.int v8)] (.int (0 : Int32))) : Pur l Z (⟨"com/example/afterstate/afterstate/tictactoe/TicTacToePositionCellsPinLaw", "bitIf", "([III)I"⟩ : MethodName) method_2_code 3 (some .int) 0 0 #[(.ref a), (.int (3 : Int32)), (.int st)] h0 (some (.int (if v3 = st then (8 : Int32) else 0))) := by
  refine Ctr.of (plainFor_of_name pn_6) ?_
  have wd : ∀ {d : Jvm.Cond} (i : Nat), tables_1[i]? = some d → d.before a0 Z = true := fun i q => hw _ (List.mem_of_getElem? q)
  intro p e s m below meth c s₁ hx hby hml hown hnm hret hlk hZ X0 e0
  refine Go.cast (ef_6 m a (3 : Int32) st) ?_
  show Go p e below _ s₁ (mkF m 0 #[.val (.ref a), .val (.int (3 : Int32)), .val (.int st)] [])
  refine Go.aloadN X0 hx (hb hby d6_0) rfl rfl rfl ?_
  refine Go.iloadN X0 hx (hb hby d6_1) rfl rfl  ?_
  refine Go.iaload X0 hx hZ (.int v3) V e0  ⟨by decide, by decide⟩ rfl (hb hby d6_2) rfl ?_
  refine Go.iloadN X0 hx (hb hby d6_3) rfl rfl  ?_
  by_cases hc1 : v3 = st
  · refine Go.icmpNo X0 hx (hb hby d6_4) rfl (teq hc1).2 ?_
    refine Go.iconst X0 hx (hb hby d6_7) rfl (1 : Int32) rfl ?_
    refine Go.iloadN X0 hx (hb hby d6_8) rfl rfl  ?_
    refine Go.ishl X0 hx (hb hby d6_9) rfl ?_
    show Go p e below _ s₁ (mkF m 10 #[.val (.ref a), .val (.int (3 : Int32)), .val (.int st)] [(.int (((1 : Int32) <<< ((3 : Int32) &&& 31))))])
    rw [show (((1 : Int32) <<< ((3 : Int32) &&& 31))) = (8 : Int32) from by decide]
    refine Go.goto X0 hx (hb hby d6_10) rfl 14 (by decide) (by decide) ?_
    exact Go.retI X0 hx hret hlk (hb hby d6_14) rfl ⟨by first | rfl | simp [hc1], rfl, e0⟩ (Nat.le_of_ble_eq_true rfl) (Nat.le_of_ble_eq_true rfl)
  · refine Go.icmpYes X0 hx (hb hby d6_4) rfl 13 (feq hc1).2 (by decide) (by decide) ?_
    refine Go.iconst X0 hx (hb hby d6_13) rfl (0 : Int32) rfl ?_
    exact Go.retI X0 hx hret hlk (hb hby d6_14) rfl ⟨by first | rfl | simp [hc1], rfl, e0⟩ (Nat.le_of_ble_eq_true rfl) (Nat.le_of_ble_eq_true rfl)
set_option maxRecDepth 65536 in
set_option maxHeartbeats 40000000 in
theorem rmB4 (l : Launch) (Z : State) (a0 : Array Value) (hw : ∀ d ∈ tables_1, d.before a0 Z = true) (a : Addr) (k : ClassId) (v0 v1 v2 v3 v4 v5 v6 v7 v8 st : Int32) (h0 : Heap) (V : Arv Z h0 a k .int (9 : Int32) [(.int v0), (.int v1), (.int v2), (.int v3), (.int v4), (.int v5), (.int v6), (.int v7), (.int v8)] (.int (0 : Int32))) : Pur l Z (⟨"com/example/afterstate/afterstate/tictactoe/TicTacToePositionCellsPinLaw", "bitIf", "([III)I"⟩ : MethodName) method_2_code 3 (some .int) 0 0 #[(.ref a), (.int (4 : Int32)), (.int st)] h0 (some (.int (if v4 = st then (16 : Int32) else 0))) := by
  refine Ctr.of (plainFor_of_name pn_6) ?_
  have wd : ∀ {d : Jvm.Cond} (i : Nat), tables_1[i]? = some d → d.before a0 Z = true := fun i q => hw _ (List.mem_of_getElem? q)
  intro p e s m below meth c s₁ hx hby hml hown hnm hret hlk hZ X0 e0
  refine Go.cast (ef_6 m a (4 : Int32) st) ?_
  show Go p e below _ s₁ (mkF m 0 #[.val (.ref a), .val (.int (4 : Int32)), .val (.int st)] [])
  refine Go.aloadN X0 hx (hb hby d6_0) rfl rfl rfl ?_
  refine Go.iloadN X0 hx (hb hby d6_1) rfl rfl  ?_
  refine Go.iaload X0 hx hZ (.int v4) V e0  ⟨by decide, by decide⟩ rfl (hb hby d6_2) rfl ?_
  refine Go.iloadN X0 hx (hb hby d6_3) rfl rfl  ?_
  by_cases hc1 : v4 = st
  · refine Go.icmpNo X0 hx (hb hby d6_4) rfl (teq hc1).2 ?_
    refine Go.iconst X0 hx (hb hby d6_7) rfl (1 : Int32) rfl ?_
    refine Go.iloadN X0 hx (hb hby d6_8) rfl rfl  ?_
    refine Go.ishl X0 hx (hb hby d6_9) rfl ?_
    show Go p e below _ s₁ (mkF m 10 #[.val (.ref a), .val (.int (4 : Int32)), .val (.int st)] [(.int (((1 : Int32) <<< ((4 : Int32) &&& 31))))])
    rw [show (((1 : Int32) <<< ((4 : Int32) &&& 31))) = (16 : Int32) from by decide]
    refine Go.goto X0 hx (hb hby d6_10) rfl 14 (by decide) (by decide) ?_
    exact Go.retI X0 hx hret hlk (hb hby d6_14) rfl ⟨by first | rfl | simp [hc1], rfl, e0⟩ (Nat.le_of_ble_eq_true rfl) (Nat.le_of_ble_eq_true rfl)
  · refine Go.icmpYes X0 hx (hb hby d6_4) rfl 13 (feq hc1).2 (by decide) (by decide) ?_
    refine Go.iconst X0 hx (hb hby d6_13) rfl (0 : Int32) rfl ?_
    exact Go.retI X0 hx hret hlk (hb hby d6_14) rfl ⟨by first | rfl | simp [hc1], rfl, e0⟩ (Nat.le_of_ble_eq_true rfl) (Nat.le_of_ble_eq_true rfl)
set_option maxRecDepth 65536 in
set_option maxHeartbeats 40000000 in
theorem rmB5 (l : Launch) (Z : State) (a0 : Array Value) (hw : ∀ d ∈ tables_1, d.before a0 Z = true) (a : Addr) (k : ClassId) (v0 v1 v2 v3 v4 v5 v6 v7 v8 st : Int32) (h0 : Heap) (V : Arv Z h0 a k .int (9 : Int32) [(.int v0), (.int v1), (.int v2), (.int v3), (.int v4), (.int v5), (.int v6), (.int v7), (.int v8)] (.int (0 : Int32))) : Pur l Z (⟨"com/example/afterstate/afterstate/tictactoe/TicTacToePositionCellsPinLaw", "bitIf", "([III)I"⟩ : MethodName) method_2_code 3 (some .int) 0 0 #[(.ref a), (.int (5 : Int32)), (.int st)] h0 (some (.int (if v5 = st then (32 : Int32) else 0))) := by
  refine Ctr.of (plainFor_of_name pn_6) ?_
  have wd : ∀ {d : Jvm.Cond} (i : Nat), tables_1[i]? = some d → d.before a0 Z = true := fun i q => hw _ (List.mem_of_getElem? q)
  intro p e s m below meth c s₁ hx hby hml hown hnm hret hlk hZ X0 e0
  refine Go.cast (ef_6 m a (5 : Int32) st) ?_
  show Go p e below _ s₁ (mkF m 0 #[.val (.ref a), .val (.int (5 : Int32)), .val (.int st)] [])
  refine Go.aloadN X0 hx (hb hby d6_0) rfl rfl rfl ?_
  refine Go.iloadN X0 hx (hb hby d6_1) rfl rfl  ?_
  refine Go.iaload X0 hx hZ (.int v5) V e0  ⟨by decide, by decide⟩ rfl (hb hby d6_2) rfl ?_
  refine Go.iloadN X0 hx (hb hby d6_3) rfl rfl  ?_
  by_cases hc1 : v5 = st
  · refine Go.icmpNo X0 hx (hb hby d6_4) rfl (teq hc1).2 ?_
    refine Go.iconst X0 hx (hb hby d6_7) rfl (1 : Int32) rfl ?_
    refine Go.iloadN X0 hx (hb hby d6_8) rfl rfl  ?_
    refine Go.ishl X0 hx (hb hby d6_9) rfl ?_
    show Go p e below _ s₁ (mkF m 10 #[.val (.ref a), .val (.int (5 : Int32)), .val (.int st)] [(.int (((1 : Int32) <<< ((5 : Int32) &&& 31))))])
    rw [show (((1 : Int32) <<< ((5 : Int32) &&& 31))) = (32 : Int32) from by decide]
    refine Go.goto X0 hx (hb hby d6_10) rfl 14 (by decide) (by decide) ?_
    exact Go.retI X0 hx hret hlk (hb hby d6_14) rfl ⟨by first | rfl | simp [hc1], rfl, e0⟩ (Nat.le_of_ble_eq_true rfl) (Nat.le_of_ble_eq_true rfl)
  · refine Go.icmpYes X0 hx (hb hby d6_4) rfl 13 (feq hc1).2 (by decide) (by decide) ?_
    refine Go.iconst X0 hx (hb hby d6_13) rfl (0 : Int32) rfl ?_
    exact Go.retI X0 hx hret hlk (hb hby d6_14) rfl ⟨by first | rfl | simp [hc1], rfl, e0⟩ (Nat.le_of_ble_eq_true rfl) (Nat.le_of_ble_eq_true rfl)
set_option maxRecDepth 65536 in
set_option maxHeartbeats 40000000 in
theorem rmB6 (l : Launch) (Z : State) (a0 : Array Value) (hw : ∀ d ∈ tables_1, d.before a0 Z = true) (a : Addr) (k : ClassId) (v0 v1 v2 v3 v4 v5 v6 v7 v8 st : Int32) (h0 : Heap) (V : Arv Z h0 a k .int (9 : Int32) [(.int v0), (.int v1), (.int v2), (.int v3), (.int v4), (.int v5), (.int v6), (.int v7), (.int v8)] (.int (0 : Int32))) : Pur l Z (⟨"com/example/afterstate/afterstate/tictactoe/TicTacToePositionCellsPinLaw", "bitIf", "([III)I"⟩ : MethodName) method_2_code 3 (some .int) 0 0 #[(.ref a), (.int (6 : Int32)), (.int st)] h0 (some (.int (if v6 = st then (64 : Int32) else 0))) := by
  refine Ctr.of (plainFor_of_name pn_6) ?_
  have wd : ∀ {d : Jvm.Cond} (i : Nat), tables_1[i]? = some d → d.before a0 Z = true := fun i q => hw _ (List.mem_of_getElem? q)
  intro p e s m below meth c s₁ hx hby hml hown hnm hret hlk hZ X0 e0
  refine Go.cast (ef_6 m a (6 : Int32) st) ?_
  show Go p e below _ s₁ (mkF m 0 #[.val (.ref a), .val (.int (6 : Int32)), .val (.int st)] [])
  refine Go.aloadN X0 hx (hb hby d6_0) rfl rfl rfl ?_
  refine Go.iloadN X0 hx (hb hby d6_1) rfl rfl  ?_
  refine Go.iaload X0 hx hZ (.int v6) V e0  ⟨by decide, by decide⟩ rfl (hb hby d6_2) rfl ?_
  refine Go.iloadN X0 hx (hb hby d6_3) rfl rfl  ?_
  by_cases hc1 : v6 = st
  · refine Go.icmpNo X0 hx (hb hby d6_4) rfl (teq hc1).2 ?_
    refine Go.iconst X0 hx (hb hby d6_7) rfl (1 : Int32) rfl ?_
    refine Go.iloadN X0 hx (hb hby d6_8) rfl rfl  ?_
    refine Go.ishl X0 hx (hb hby d6_9) rfl ?_
    show Go p e below _ s₁ (mkF m 10 #[.val (.ref a), .val (.int (6 : Int32)), .val (.int st)] [(.int (((1 : Int32) <<< ((6 : Int32) &&& 31))))])
    rw [show (((1 : Int32) <<< ((6 : Int32) &&& 31))) = (64 : Int32) from by decide]
    refine Go.goto X0 hx (hb hby d6_10) rfl 14 (by decide) (by decide) ?_
    exact Go.retI X0 hx hret hlk (hb hby d6_14) rfl ⟨by first | rfl | simp [hc1], rfl, e0⟩ (Nat.le_of_ble_eq_true rfl) (Nat.le_of_ble_eq_true rfl)
  · refine Go.icmpYes X0 hx (hb hby d6_4) rfl 13 (feq hc1).2 (by decide) (by decide) ?_
    refine Go.iconst X0 hx (hb hby d6_13) rfl (0 : Int32) rfl ?_
    exact Go.retI X0 hx hret hlk (hb hby d6_14) rfl ⟨by first | rfl | simp [hc1], rfl, e0⟩ (Nat.le_of_ble_eq_true rfl) (Nat.le_of_ble_eq_true rfl)
set_option maxRecDepth 65536 in
set_option maxHeartbeats 40000000 in
theorem rmB7 (l : Launch) (Z : State) (a0 : Array Value) (hw : ∀ d ∈ tables_1, d.before a0 Z = true) (a : Addr) (k : ClassId) (v0 v1 v2 v3 v4 v5 v6 v7 v8 st : Int32) (h0 : Heap) (V : Arv Z h0 a k .int (9 : Int32) [(.int v0), (.int v1), (.int v2), (.int v3), (.int v4), (.int v5), (.int v6), (.int v7), (.int v8)] (.int (0 : Int32))) : Pur l Z (⟨"com/example/afterstate/afterstate/tictactoe/TicTacToePositionCellsPinLaw", "bitIf", "([III)I"⟩ : MethodName) method_2_code 3 (some .int) 0 0 #[(.ref a), (.int (7 : Int32)), (.int st)] h0 (some (.int (if v7 = st then (128 : Int32) else 0))) := by
  refine Ctr.of (plainFor_of_name pn_6) ?_
  have wd : ∀ {d : Jvm.Cond} (i : Nat), tables_1[i]? = some d → d.before a0 Z = true := fun i q => hw _ (List.mem_of_getElem? q)
  intro p e s m below meth c s₁ hx hby hml hown hnm hret hlk hZ X0 e0
  refine Go.cast (ef_6 m a (7 : Int32) st) ?_
  show Go p e below _ s₁ (mkF m 0 #[.val (.ref a), .val (.int (7 : Int32)), .val (.int st)] [])
  refine Go.aloadN X0 hx (hb hby d6_0) rfl rfl rfl ?_
  refine Go.iloadN X0 hx (hb hby d6_1) rfl rfl  ?_
  refine Go.iaload X0 hx hZ (.int v7) V e0  ⟨by decide, by decide⟩ rfl (hb hby d6_2) rfl ?_
  refine Go.iloadN X0 hx (hb hby d6_3) rfl rfl  ?_
  by_cases hc1 : v7 = st
  · refine Go.icmpNo X0 hx (hb hby d6_4) rfl (teq hc1).2 ?_
    refine Go.iconst X0 hx (hb hby d6_7) rfl (1 : Int32) rfl ?_
    refine Go.iloadN X0 hx (hb hby d6_8) rfl rfl  ?_
    refine Go.ishl X0 hx (hb hby d6_9) rfl ?_
    show Go p e below _ s₁ (mkF m 10 #[.val (.ref a), .val (.int (7 : Int32)), .val (.int st)] [(.int (((1 : Int32) <<< ((7 : Int32) &&& 31))))])
    rw [show (((1 : Int32) <<< ((7 : Int32) &&& 31))) = (128 : Int32) from by decide]
    refine Go.goto X0 hx (hb hby d6_10) rfl 14 (by decide) (by decide) ?_
    exact Go.retI X0 hx hret hlk (hb hby d6_14) rfl ⟨by first | rfl | simp [hc1], rfl, e0⟩ (Nat.le_of_ble_eq_true rfl) (Nat.le_of_ble_eq_true rfl)
  · refine Go.icmpYes X0 hx (hb hby d6_4) rfl 13 (feq hc1).2 (by decide) (by decide) ?_
    refine Go.iconst X0 hx (hb hby d6_13) rfl (0 : Int32) rfl ?_
    exact Go.retI X0 hx hret hlk (hb hby d6_14) rfl ⟨by first | rfl | simp [hc1], rfl, e0⟩ (Nat.le_of_ble_eq_true rfl) (Nat.le_of_ble_eq_true rfl)
set_option maxRecDepth 65536 in
set_option maxHeartbeats 40000000 in
theorem rmB8 (l : Launch) (Z : State) (a0 : Array Value) (hw : ∀ d ∈ tables_1, d.before a0 Z = true) (a : Addr) (k : ClassId) (v0 v1 v2 v3 v4 v5 v6 v7 v8 st : Int32) (h0 : Heap) (V : Arv Z h0 a k .int (9 : Int32) [(.int v0), (.int v1), (.int v2), (.int v3), (.int v4), (.int v5), (.int v6), (.int v7), (.int v8)] (.int (0 : Int32))) : Pur l Z (⟨"com/example/afterstate/afterstate/tictactoe/TicTacToePositionCellsPinLaw", "bitIf", "([III)I"⟩ : MethodName) method_2_code 3 (some .int) 0 0 #[(.ref a), (.int (8 : Int32)), (.int st)] h0 (some (.int (if v8 = st then (256 : Int32) else 0))) := by
  refine Ctr.of (plainFor_of_name pn_6) ?_
  have wd : ∀ {d : Jvm.Cond} (i : Nat), tables_1[i]? = some d → d.before a0 Z = true := fun i q => hw _ (List.mem_of_getElem? q)
  intro p e s m below meth c s₁ hx hby hml hown hnm hret hlk hZ X0 e0
  refine Go.cast (ef_6 m a (8 : Int32) st) ?_
  show Go p e below _ s₁ (mkF m 0 #[.val (.ref a), .val (.int (8 : Int32)), .val (.int st)] [])
  refine Go.aloadN X0 hx (hb hby d6_0) rfl rfl rfl ?_
  refine Go.iloadN X0 hx (hb hby d6_1) rfl rfl  ?_
  refine Go.iaload X0 hx hZ (.int v8) V e0  ⟨by decide, by decide⟩ rfl (hb hby d6_2) rfl ?_
  refine Go.iloadN X0 hx (hb hby d6_3) rfl rfl  ?_
  by_cases hc1 : v8 = st
  · refine Go.icmpNo X0 hx (hb hby d6_4) rfl (teq hc1).2 ?_
    refine Go.iconst X0 hx (hb hby d6_7) rfl (1 : Int32) rfl ?_
    refine Go.iloadN X0 hx (hb hby d6_8) rfl rfl  ?_
    refine Go.ishl X0 hx (hb hby d6_9) rfl ?_
    show Go p e below _ s₁ (mkF m 10 #[.val (.ref a), .val (.int (8 : Int32)), .val (.int st)] [(.int (((1 : Int32) <<< ((8 : Int32) &&& 31))))])
    rw [show (((1 : Int32) <<< ((8 : Int32) &&& 31))) = (256 : Int32) from by decide]
    refine Go.goto X0 hx (hb hby d6_10) rfl 14 (by decide) (by decide) ?_
    exact Go.retI X0 hx hret hlk (hb hby d6_14) rfl ⟨by first | rfl | simp [hc1], rfl, e0⟩ (Nat.le_of_ble_eq_true rfl) (Nat.le_of_ble_eq_true rfl)
  · refine Go.icmpYes X0 hx (hb hby d6_4) rfl 13 (feq hc1).2 (by decide) (by decide) ?_
    refine Go.iconst X0 hx (hb hby d6_13) rfl (0 : Int32) rfl ?_
    exact Go.retI X0 hx hret hlk (hb hby d6_14) rfl ⟨by first | rfl | simp [hc1], rfl, e0⟩ (Nat.le_of_ble_eq_true rfl) (Nat.le_of_ble_eq_true rfl)
theorem d5_0 : decode method_3_code 0 = .ok (.aload_n 0, 1) := by decide +kernel
theorem d5_1 : decode method_3_code 1 = .ok (.iconst 0, 1) := by decide +kernel
theorem d5_2 : decode method_3_code 2 = .ok (.iload_n 1, 1) := by decide +kernel
theorem d5_3 : decode method_3_code 3 = .ok (.invokestatic 7, 3) := by decide +kernel
theorem d5_6 : decode method_3_code 6 = .ok (.aload_n 0, 1) := by decide +kernel
theorem d5_7 : decode method_3_code 7 = .ok (.iconst 1, 1) := by decide +kernel
theorem d5_8 : decode method_3_code 8 = .ok (.iload_n 1, 1) := by decide +kernel
theorem d5_9 : decode method_3_code 9 = .ok (.invokestatic 7, 3) := by decide +kernel
theorem d5_12 : decode method_3_code 12 = .ok (.ior, 1) := by decide +kernel
theorem d5_13 : decode method_3_code 13 = .ok (.aload_n 0, 1) := by decide +kernel
theorem d5_14 : decode method_3_code 14 = .ok (.iconst 2, 1) := by decide +kernel
theorem d5_15 : decode method_3_code 15 = .ok (.iload_n 1, 1) := by decide +kernel
theorem d5_16 : decode method_3_code 16 = .ok (.invokestatic 7, 3) := by decide +kernel
theorem d5_19 : decode method_3_code 19 = .ok (.ior, 1) := by decide +kernel
theorem d5_20 : decode method_3_code 20 = .ok (.aload_n 0, 1) := by decide +kernel
theorem d5_21 : decode method_3_code 21 = .ok (.iconst 3, 1) := by decide +kernel
theorem d5_22 : decode method_3_code 22 = .ok (.iload_n 1, 1) := by decide +kernel
theorem d5_23 : decode method_3_code 23 = .ok (.invokestatic 7, 3) := by decide +kernel
theorem d5_26 : decode method_3_code 26 = .ok (.ior, 1) := by decide +kernel
theorem d5_27 : decode method_3_code 27 = .ok (.aload_n 0, 1) := by decide +kernel
theorem d5_28 : decode method_3_code 28 = .ok (.iconst 4, 1) := by decide +kernel
theorem d5_29 : decode method_3_code 29 = .ok (.iload_n 1, 1) := by decide +kernel
theorem d5_30 : decode method_3_code 30 = .ok (.invokestatic 7, 3) := by decide +kernel
theorem d5_33 : decode method_3_code 33 = .ok (.ior, 1) := by decide +kernel
theorem d5_34 : decode method_3_code 34 = .ok (.aload_n 0, 1) := by decide +kernel
theorem d5_35 : decode method_3_code 35 = .ok (.iconst 5, 1) := by decide +kernel
theorem d5_36 : decode method_3_code 36 = .ok (.iload_n 1, 1) := by decide +kernel
theorem d5_37 : decode method_3_code 37 = .ok (.invokestatic 7, 3) := by decide +kernel
theorem d5_40 : decode method_3_code 40 = .ok (.ior, 1) := by decide +kernel
theorem d5_41 : decode method_3_code 41 = .ok (.aload_n 0, 1) := by decide +kernel
theorem d5_42 : decode method_3_code 42 = .ok (.bipush 6, 2) := by decide +kernel
theorem d5_44 : decode method_3_code 44 = .ok (.iload_n 1, 1) := by decide +kernel
theorem d5_45 : decode method_3_code 45 = .ok (.invokestatic 7, 3) := by decide +kernel
theorem d5_48 : decode method_3_code 48 = .ok (.ior, 1) := by decide +kernel
theorem d5_49 : decode method_3_code 49 = .ok (.aload_n 0, 1) := by decide +kernel
theorem d5_50 : decode method_3_code 50 = .ok (.bipush 7, 2) := by decide +kernel
theorem d5_52 : decode method_3_code 52 = .ok (.iload_n 1, 1) := by decide +kernel
theorem d5_53 : decode method_3_code 53 = .ok (.invokestatic 7, 3) := by decide +kernel
theorem d5_56 : decode method_3_code 56 = .ok (.ior, 1) := by decide +kernel
theorem d5_57 : decode method_3_code 57 = .ok (.aload_n 0, 1) := by decide +kernel
theorem d5_58 : decode method_3_code 58 = .ok (.bipush 8, 2) := by decide +kernel
theorem d5_60 : decode method_3_code 60 = .ok (.iload_n 1, 1) := by decide +kernel
theorem d5_61 : decode method_3_code 61 = .ok (.invokestatic 7, 3) := by decide +kernel
theorem d5_64 : decode method_3_code 64 = .ok (.ior, 1) := by decide +kernel
theorem d5_65 : decode method_3_code 65 = .ok (.ireturn, 1) := by decide +kernel
theorem ef_5 (m : MethodId) (x0 : Addr) (x1 : Int32) : entryFrame m #[(.ref x0), (.int x1)] 2 = mkF m 0 #[.val (.ref x0), .val (.int x1)] [] := by first | (simp [entryFrame, mkF, argsToLocals, Value.category]; done) | rfl
set_option maxRecDepth 65536 in
set_option maxHeartbeats 40000000 in
theorem rmM (l : Launch) (Z : State) (a0 : Array Value) (hw : ∀ d ∈ tables_1, d.before a0 Z = true) (a : Addr) (k : ClassId) (v0 v1 v2 v3 v4 v5 v6 v7 v8 st : Int32) (h0 : Heap) (V : Arv Z h0 a k .int (9 : Int32) [(.int v0), (.int v1), (.int v2), (.int v3), (.int v4), (.int v5), (.int v6), (.int v7), (.int v8)] (.int (0 : Int32))) : Pur l Z (⟨"com/example/afterstate/afterstate/tictactoe/TicTacToePositionCellsPinLaw", "maskOf", "([II)I"⟩ : MethodName) method_3_code 2 (some .int) 1 15 #[(.ref a), (.int st)] h0 (some (.int (((((((((if v0 = st then (1 : Int32) else 0) ||| (if v1 = st then (2 : Int32) else 0)) ||| (if v2 = st then (4 : Int32) else 0)) ||| (if v3 = st then (8 : Int32) else 0)) ||| (if v4 = st then (16 : Int32) else 0)) ||| (if v5 = st then (32 : Int32) else 0)) ||| (if v6 = st then (64 : Int32) else 0)) ||| (if v7 = st then (128 : Int32) else 0)) ||| (if v8 = st then (256 : Int32) else 0)))) := by
  refine Ctr.of (plainFor_of_name pn_6) ?_
  have wd : ∀ {d : Jvm.Cond} (i : Nat), tables_1[i]? = some d → d.before a0 Z = true := fun i q => hw _ (List.mem_of_getElem? q)
  intro p e s m below meth c s₁ hx hby hml hown hnm hret hlk hZ X0 e0
  refine Go.cast (ef_5 m a st) ?_
  show Go p e below _ s₁ (mkF m 0 #[.val (.ref a), .val (.int st)] [])
  refine Go.aloadN X0 hx (hb hby d5_0) rfl rfl rfl ?_
  refine Go.iconst X0 hx (hb hby d5_1) rfl (0 : Int32) rfl ?_
  refine Go.iloadN X0 hx (hb hby d5_2) rfl rfl  ?_
  refine Go.pureS X0 hx hZ hown (wd 30 rfl) (wd 31 rfl) (wd 28 rfl) (wd 32 rfl) (by decide) [(.ref a), (.int (0 : Int32)), (.int st)] [] (rmB0 l Z a0 hw a k v0 v1 v2 v3 v4 v5 v6 v7 v8 st h0 V) e0 rfl (by rw [hml]; rfl) pd_1 rfl (hb hby d5_3) (Nat.le_of_ble_eq_true rfl) (Nat.le_of_ble_eq_true rfl) (Nat.le_of_ble_eq_true rfl) (Nat.le_of_ble_eq_true rfl) ?_
  intro T1 X1 e1
  refine Go.aloadN X1 hx (hb hby d5_6) rfl rfl rfl ?_
  refine Go.iconst X1 hx (hb hby d5_7) rfl (1 : Int32) rfl ?_
  refine Go.iloadN X1 hx (hb hby d5_8) rfl rfl  ?_
  refine Go.pureS X1 hx hZ hown (wd 30 rfl) (wd 31 rfl) (wd 28 rfl) (wd 32 rfl) (by decide) [(.ref a), (.int (1 : Int32)), (.int st)] [(.int (if v0 = st then (1 : Int32) else 0))] (rmB1 l Z a0 hw a k v0 v1 v2 v3 v4 v5 v6 v7 v8 st h0 V) e1 rfl (by rw [hml]; rfl) pd_1 rfl (hb hby d5_9) (Nat.le_of_ble_eq_true rfl) (Nat.le_of_ble_eq_true rfl) (Nat.le_of_ble_eq_true rfl) (Nat.le_of_ble_eq_true rfl) ?_
  intro T2 X2 e2
  refine Go.ior X2 hx (hb hby d5_12) rfl ?_
  refine Go.aloadN X2 hx (hb hby d5_13) rfl rfl rfl ?_
  refine Go.iconst X2 hx (hb hby d5_14) rfl (2 : Int32) rfl ?_
  refine Go.iloadN X2 hx (hb hby d5_15) rfl rfl  ?_
  refine Go.pureS X2 hx hZ hown (wd 30 rfl) (wd 31 rfl) (wd 28 rfl) (wd 32 rfl) (by decide) [(.ref a), (.int (2 : Int32)), (.int st)] [(.int ((if v0 = st then (1 : Int32) else 0) ||| (if v1 = st then (2 : Int32) else 0)))] (rmB2 l Z a0 hw a k v0 v1 v2 v3 v4 v5 v6 v7 v8 st h0 V) e2 rfl (by rw [hml]; rfl) pd_1 rfl (hb hby d5_16) (Nat.le_of_ble_eq_true rfl) (Nat.le_of_ble_eq_true rfl) (Nat.le_of_ble_eq_true rfl) (Nat.le_of_ble_eq_true rfl) ?_
  intro T3 X3 e3
  refine Go.ior X3 hx (hb hby d5_19) rfl ?_
  refine Go.aloadN X3 hx (hb hby d5_20) rfl rfl rfl ?_
  refine Go.iconst X3 hx (hb hby d5_21) rfl (3 : Int32) rfl ?_
  refine Go.iloadN X3 hx (hb hby d5_22) rfl rfl  ?_
  refine Go.pureS X3 hx hZ hown (wd 30 rfl) (wd 31 rfl) (wd 28 rfl) (wd 32 rfl) (by decide) [(.ref a), (.int (3 : Int32)), (.int st)] [(.int (((if v0 = st then (1 : Int32) else 0) ||| (if v1 = st then (2 : Int32) else 0)) ||| (if v2 = st then (4 : Int32) else 0)))] (rmB3 l Z a0 hw a k v0 v1 v2 v3 v4 v5 v6 v7 v8 st h0 V) e3 rfl (by rw [hml]; rfl) pd_1 rfl (hb hby d5_23) (Nat.le_of_ble_eq_true rfl) (Nat.le_of_ble_eq_true rfl) (Nat.le_of_ble_eq_true rfl) (Nat.le_of_ble_eq_true rfl) ?_
  intro T4 X4 e4
  refine Go.ior X4 hx (hb hby d5_26) rfl ?_
  refine Go.aloadN X4 hx (hb hby d5_27) rfl rfl rfl ?_
  refine Go.iconst X4 hx (hb hby d5_28) rfl (4 : Int32) rfl ?_
  refine Go.iloadN X4 hx (hb hby d5_29) rfl rfl  ?_
  refine Go.pureS X4 hx hZ hown (wd 30 rfl) (wd 31 rfl) (wd 28 rfl) (wd 32 rfl) (by decide) [(.ref a), (.int (4 : Int32)), (.int st)] [(.int ((((if v0 = st then (1 : Int32) else 0) ||| (if v1 = st then (2 : Int32) else 0)) ||| (if v2 = st then (4 : Int32) else 0)) ||| (if v3 = st then (8 : Int32) else 0)))] (rmB4 l Z a0 hw a k v0 v1 v2 v3 v4 v5 v6 v7 v8 st h0 V) e4 rfl (by rw [hml]; rfl) pd_1 rfl (hb hby d5_30) (Nat.le_of_ble_eq_true rfl) (Nat.le_of_ble_eq_true rfl) (Nat.le_of_ble_eq_true rfl) (Nat.le_of_ble_eq_true rfl) ?_
  intro T5 X5 e5
  refine Go.ior X5 hx (hb hby d5_33) rfl ?_
  refine Go.aloadN X5 hx (hb hby d5_34) rfl rfl rfl ?_
  refine Go.iconst X5 hx (hb hby d5_35) rfl (5 : Int32) rfl ?_
  refine Go.iloadN X5 hx (hb hby d5_36) rfl rfl  ?_
  refine Go.pureS X5 hx hZ hown (wd 30 rfl) (wd 31 rfl) (wd 28 rfl) (wd 32 rfl) (by decide) [(.ref a), (.int (5 : Int32)), (.int st)] [(.int (((((if v0 = st then (1 : Int32) else 0) ||| (if v1 = st then (2 : Int32) else 0)) ||| (if v2 = st then (4 : Int32) else 0)) ||| (if v3 = st then (8 : Int32) else 0)) ||| (if v4 = st then (16 : Int32) else 0)))] (rmB5 l Z a0 hw a k v0 v1 v2 v3 v4 v5 v6 v7 v8 st h0 V) e5 rfl (by rw [hml]; rfl) pd_1 rfl (hb hby d5_37) (Nat.le_of_ble_eq_true rfl) (Nat.le_of_ble_eq_true rfl) (Nat.le_of_ble_eq_true rfl) (Nat.le_of_ble_eq_true rfl) ?_
  intro T6 X6 e6
  refine Go.ior X6 hx (hb hby d5_40) rfl ?_
  refine Go.aloadN X6 hx (hb hby d5_41) rfl rfl rfl ?_
  refine Go.bipush X6 hx (hb hby d5_42) rfl (6 : Int32) rfl ?_
  refine Go.iloadN X6 hx (hb hby d5_44) rfl rfl  ?_
  refine Go.pureS X6 hx hZ hown (wd 30 rfl) (wd 31 rfl) (wd 28 rfl) (wd 32 rfl) (by decide) [(.ref a), (.int (6 : Int32)), (.int st)] [(.int ((((((if v0 = st then (1 : Int32) else 0) ||| (if v1 = st then (2 : Int32) else 0)) ||| (if v2 = st then (4 : Int32) else 0)) ||| (if v3 = st then (8 : Int32) else 0)) ||| (if v4 = st then (16 : Int32) else 0)) ||| (if v5 = st then (32 : Int32) else 0)))] (rmB6 l Z a0 hw a k v0 v1 v2 v3 v4 v5 v6 v7 v8 st h0 V) e6 rfl (by rw [hml]; rfl) pd_1 rfl (hb hby d5_45) (Nat.le_of_ble_eq_true rfl) (Nat.le_of_ble_eq_true rfl) (Nat.le_of_ble_eq_true rfl) (Nat.le_of_ble_eq_true rfl) ?_
  intro T7 X7 e7
  refine Go.ior X7 hx (hb hby d5_48) rfl ?_
  refine Go.aloadN X7 hx (hb hby d5_49) rfl rfl rfl ?_
  refine Go.bipush X7 hx (hb hby d5_50) rfl (7 : Int32) rfl ?_
  refine Go.iloadN X7 hx (hb hby d5_52) rfl rfl  ?_
  refine Go.pureS X7 hx hZ hown (wd 30 rfl) (wd 31 rfl) (wd 28 rfl) (wd 32 rfl) (by decide) [(.ref a), (.int (7 : Int32)), (.int st)] [(.int (((((((if v0 = st then (1 : Int32) else 0) ||| (if v1 = st then (2 : Int32) else 0)) ||| (if v2 = st then (4 : Int32) else 0)) ||| (if v3 = st then (8 : Int32) else 0)) ||| (if v4 = st then (16 : Int32) else 0)) ||| (if v5 = st then (32 : Int32) else 0)) ||| (if v6 = st then (64 : Int32) else 0)))] (rmB7 l Z a0 hw a k v0 v1 v2 v3 v4 v5 v6 v7 v8 st h0 V) e7 rfl (by rw [hml]; rfl) pd_1 rfl (hb hby d5_53) (Nat.le_of_ble_eq_true rfl) (Nat.le_of_ble_eq_true rfl) (Nat.le_of_ble_eq_true rfl) (Nat.le_of_ble_eq_true rfl) ?_
  intro T8 X8 e8
  refine Go.ior X8 hx (hb hby d5_56) rfl ?_
  refine Go.aloadN X8 hx (hb hby d5_57) rfl rfl rfl ?_
  refine Go.bipush X8 hx (hb hby d5_58) rfl (8 : Int32) rfl ?_
  refine Go.iloadN X8 hx (hb hby d5_60) rfl rfl  ?_
  refine Go.pureS X8 hx hZ hown (wd 30 rfl) (wd 31 rfl) (wd 28 rfl) (wd 32 rfl) (by decide) [(.ref a), (.int (8 : Int32)), (.int st)] [(.int ((((((((if v0 = st then (1 : Int32) else 0) ||| (if v1 = st then (2 : Int32) else 0)) ||| (if v2 = st then (4 : Int32) else 0)) ||| (if v3 = st then (8 : Int32) else 0)) ||| (if v4 = st then (16 : Int32) else 0)) ||| (if v5 = st then (32 : Int32) else 0)) ||| (if v6 = st then (64 : Int32) else 0)) ||| (if v7 = st then (128 : Int32) else 0)))] (rmB8 l Z a0 hw a k v0 v1 v2 v3 v4 v5 v6 v7 v8 st h0 V) e8 rfl (by rw [hml]; rfl) pd_1 rfl (hb hby d5_61) (Nat.le_of_ble_eq_true rfl) (Nat.le_of_ble_eq_true rfl) (Nat.le_of_ble_eq_true rfl) (Nat.le_of_ble_eq_true rfl) ?_
  intro T9 X9 e9
  refine Go.ior X9 hx (hb hby d5_64) rfl ?_
  exact Go.retI X9 hx hret hlk (hb hby d5_65) rfl ⟨by first | rfl | simp [], rfl, e9⟩ (Nat.le_of_ble_eq_true rfl) (Nat.le_of_ble_eq_true rfl)
theorem ef_0 (m : MethodId) (x0 : Int32) (x1 : Int32) : entryFrame m #[(.int x0), (.int x1)] maxLocals = mkF m 0 #[.val (.int x0), .val (.int x1), .unset, .unset, .unset, .unset, .unset, .unset, .unset, .unset] [] := by first | (simp [entryFrame, mkF, argsToLocals, Value.category, maxLocals]; done) | rfl
set_option maxRecDepth 65536 in
set_option maxHeartbeats 40000000 in
theorem rm0 (l : Launch) (Z : State) (a0 : Array Value) (hw : ∀ d ∈ tables_1, d.before a0 Z = true) (x0 : Int32) (x1 : Int32) (a_LINES : Addr) (k_LINES : ClassId) (FF : Facts Z a_LINES k_LINES) : Ctr l Z x code maxLocals ret room_1 #[(.int x0), (.int x1)] Z.heap (fun v h L => v = some (.int 1) ∧ Fr Z.heap.size L) := by
  refine Ctr.of (plainFor_of_name pn_6) ?_
  have wd : ∀ {d : Jvm.Cond} (i : Nat), tables_1[i]? = some d → d.before a0 Z = true := fun i q => hw _ (List.mem_of_getElem? q)
  intro p e s m below meth c s₁ hx hby hml hown hnm hret hlk hZ X0 e0
  have FF' := FF
  obtain ⟨S_LINES, V_LINES⟩ := FF'
  have hown : s.vm.findClass "com/example/afterstate/afterstate/tictactoe/TicTacToePositionCellsPinLaw" = some m.cls := hown
  have O0 := Old.start Z
  refine Go.cast (ef_0 m x0 x1) ?_
  show Go p e below _ s₁ (mkF m 0 #[.val (.int x0), .val (.int x1), .unset, .unset, .unset, .unset, .unset, .unset, .unset, .unset] [])
  refine Go.iloadN X0 hx (hb hby at_0) rfl rfl  ?_
  refine Go.sipush X0 hx (hb hby at_1) rfl (511 : Int32) rfl ?_
  refine Go.iand X0 hx (hb hby at_4) rfl ?_
  refine Go.istoreN X0 hx (hb hby at_5) rfl  #[.val (.int x0), .val (.int x1), .val (.int (x0 &&& (511 : Int32))), .unset, .unset, .unset, .unset, .unset, .unset, .unset] rfl ?_
  refine Go.iloadN X0 hx (hb hby at_6) rfl rfl  ?_
  refine Go.sipush X0 hx (hb hby at_7) rfl (511 : Int32) rfl ?_
  refine Go.iand X0 hx (hb hby at_10) rfl ?_
  refine Go.iloadN X0 hx (hb hby at_11) rfl rfl  ?_
  refine Go.iconst X0 hx (hb hby at_12) rfl (-1 : Int32) rfl ?_
  refine Go.ixor X0 hx (hb hby at_13) rfl ?_
  refine Go.iand X0 hx (hb hby at_14) rfl ?_
  refine Go.istoreN X0 hx (hb hby at_15) rfl  #[.val (.int x0), .val (.int x1), .val (.int (x0 &&& (511 : Int32))), .val (.int ((x1 &&& (511 : Int32)) &&& ((x0 &&& (511 : Int32)) ^^^ (-1 : Int32)))), .unset, .unset, .unset, .unset, .unset, .unset] rfl ?_
  refine Go.newO X0 hx hZ hown (wd 0 rfl) (wd 1 rfl) (wd 2 rfl) e0 (hb hby at_16) rfl (Nat.le_of_ble_eq_true rfl) (Nat.le_of_ble_eq_true rfl) ?_
  intro T1 h1 b1 g1 X1 e1 E1 A1 D1
  have F2 : Fld Z h1 b1 "com/example/afterstate/afterstate/tictactoe/TicTacToePosition" "crosses" "I" (.int (0 : Int32)) := D1 (Or.inr (wd 10 rfl)) (ty := .int) (by decide)
  have F3 : Fld Z h1 b1 "com/example/afterstate/afterstate/tictactoe/TicTacToePosition" "noughts" "I" (.int (0 : Int32)) := D1 (Or.inr (wd 12 rfl)) (ty := .int) (by decide)
  have F4 : Fld Z h1 b1 "com/example/afterstate/afterstate/tictactoe/TicTacToePosition" "winner" "I" (.int (0 : Int32)) := D1 (Or.inr (wd 19 rfl)) (ty := .int) (by decide)
  have q1 : Z.heap.size ≤ b1 := Nat.le_trans O0.2.1 (Nat.le_of_eq g1.symm)
  have O5 := O0.ext E1
  refine Go.dup X1 hx (hb hby at_19) rfl rfl ?_
  refine Go.iloadN X1 hx (hb hby at_20) rfl rfl  ?_
  refine Go.iloadN X1 hx (hb hby at_21) rfl rfl  ?_
  refine Go.callI X1 hx hZ rfl hown (wd 3 rfl) (wd 4 rfl) (wd 2 rfl) (wd 5 rfl) (by decide) [(.int (x0 &&& (511 : Int32))), (.int ((x1 &&& (511 : Int32)) &&& ((x0 &&& (511 : Int32)) ^^^ (-1 : Int32))))] [(.ref b1)] (rmI l Z a0 hw b1 (x0 &&& (511 : Int32)) ((x1 &&& (511 : Int32)) &&& ((x0 &&& (511 : Int32)) ^^^ (-1 : Int32))) a_LINES k_LINES h1 O5 FF A1 q1 F2 F3 F4) e1 rfl (by rw [hml]; rfl) pd_2 rfl (hb hby at_22) (Nat.le_of_ble_eq_true rfl) (Nat.le_of_ble_eq_true rfl) (Nat.le_of_ble_eq_true rfl) (Nat.le_of_ble_eq_true rfl) ?_
  rintro vv6 T6 L6 X6 Q6
  obtain ⟨rfl, N6, K6, E6, Fc6, Fn6⟩ := Q6
  have M7 := Fr.app (Fr.nil _) N6
  have O8 := O5.keep K6 (allS q1 (all0))
  have E9 := A1.keep K6
  refine Go.astore X6 hx (hb hby at_25) rfl rfl #[.val (.int x0), .val (.int x1), .val (.int (x0 &&& (511 : Int32))), .val (.int ((x1 &&& (511 : Int32)) &&& ((x0 &&& (511 : Int32)) ^^^ (-1 : Int32)))), .val (.ref b1), .unset, .unset, .unset, .unset, .unset] rfl ?_
  refine Go.aload X6 hx (hb hby at_27) rfl rfl rfl ?_
  refine Go.callV X6 hx hZ hown (wd 20 rfl) (wd 21 rfl) (notFace_of_selects (args := #[]) (mvT hZ (wd 23 rfl))) (wd 23 rfl) (wd 22 rfl) (wd 2 rfl) (wd 24 rfl) (by decide) [] [] E6 (rmC l Z a0 hw b1 (x0 &&& (511 : Int32)) ((x1 &&& (511 : Int32)) &&& ((x0 &&& (511 : Int32)) ^^^ (-1 : Int32))) T6.heap O8 Fc6 Fn6) rfl rfl (by rw [hml]; rfl) pd_3 rfl (hb hby at_29) (Nat.le_of_ble_eq_true rfl) (Nat.le_of_ble_eq_true rfl) (Nat.le_of_ble_eq_true rfl) (Nat.le_of_ble_eq_true rfl) ?_
  rintro vv10 T10 L10 X10 Q10
  obtain ⟨b10, k10, rfl, N10, K10, sz10, V10⟩ := Q10
  have M11 := Fr.app M7 N10
  have q10 : Z.heap.size ≤ b10 := Nat.le_trans O8.2.1 sz10
  have ne_b1_b10 : b1 ≠ b10 := Nat.ne_of_lt (Nat.lt_of_lt_of_le E6.lt sz10)
  have O12 := O8.keep K10 (all0)
  have E13 := E6.keep K10
  have F14 := Fc6.keep K10 (nin0)
  have F15 := Fn6.keep K10 (nin0)
  refine Go.astore X10 hx (hb hby at_32) rfl rfl #[.val (.int x0), .val (.int x1), .val (.int (x0 &&& (511 : Int32))), .val (.int ((x1 &&& (511 : Int32)) &&& ((x0 &&& (511 : Int32)) ^^^ (-1 : Int32)))), .val (.ref b1), .val (.ref b10), .unset, .unset, .unset, .unset] rfl ?_
  refine Go.aload X10 hx (hb hby at_34) rfl rfl rfl ?_
  refine Go.callV X10 hx hZ hown (wd 20 rfl) (wd 21 rfl) (notFace_of_selects (args := #[]) (mvT hZ (wd 23 rfl))) (wd 23 rfl) (wd 22 rfl) (wd 2 rfl) (wd 24 rfl) (by decide) [] [] E13 (rmC l Z a0 hw b1 (x0 &&& (511 : Int32)) ((x1 &&& (511 : Int32)) &&& ((x0 &&& (511 : Int32)) ^^^ (-1 : Int32))) T10.heap O12 F14 F15) rfl rfl (by rw [hml]; rfl) pd_3 rfl (hb hby at_36) (Nat.le_of_ble_eq_true rfl) (Nat.le_of_ble_eq_true rfl) (Nat.le_of_ble_eq_true rfl) (Nat.le_of_ble_eq_true rfl) ?_
  rintro vv16 T16 L16 X16 Q16
  obtain ⟨b16, k16, rfl, N16, K16, sz16, V16⟩ := Q16
  have M17 := Fr.app M11 N16
  have q16 : Z.heap.size ≤ b16 := Nat.le_trans O12.2.1 sz16
  have ne_b1_b16 : b1 ≠ b16 := Nat.ne_of_lt (Nat.lt_of_lt_of_le E13.lt sz16)
  have ne_b10_b16 : b10 ≠ b16 := Nat.ne_of_lt (Nat.lt_of_lt_of_le V10.lt sz16)
  have O18 := O12.keep K16 (all0)
  have E19 := E13.keep K16
  have F20 := F14.keep K16 (nin0)
  have F21 := F15.keep K16 (nin0)
  have V22 := V10.keep K16 (nin0)
  refine Go.astore X16 hx (hb hby at_39) rfl rfl #[.val (.int x0), .val (.int x1), .val (.int (x0 &&& (511 : Int32))), .val (.int ((x1 &&& (511 : Int32)) &&& ((x0 &&& (511 : Int32)) ^^^ (-1 : Int32)))), .val (.ref b1), .val (.ref b10), .val (.ref b16), .unset, .unset, .unset] rfl ?_
  refine Go.aload X16 hx (hb hby at_41) rfl rfl rfl ?_
  refine Go.ifnullNo X16 hx (hb hby at_43) rfl ?_
  refine Go.aload X16 hx (hb hby at_46) rfl rfl rfl ?_
  refine Go.ifnullNo X16 hx (hb hby at_48) rfl ?_
  refine Go.aload X16 hx (hb hby at_51) rfl rfl rfl ?_
  refine Go.alen X16 hx hZ V22 rfl (hb hby at_53) rfl ?_
  refine Go.bipush X16 hx (hb hby at_54) rfl (9 : Int32) rfl ?_
  refine Go.icmpNo X16 hx (hb hby at_56) rfl (teq (by decide : (9 : Int32) = (9 : Int32))).2 ?_
  refine Go.aload X16 hx (hb hby at_59) rfl rfl rfl ?_
  refine Go.aload X16 hx (hb hby at_61) rfl rfl rfl ?_
  refine Go.acmp X16 hx (hb hby at_63) rfl rfl rfl false (decide_eq_false fun q => ne_b10_b16 (Value.ref.inj q)) 68 (by decide) (by decide) ?_
  refine Go.aload X16 hx (hb hby at_68) rfl rfl rfl ?_
  refine Go.iconst X16 hx (hb hby at_70) rfl (1 : Int32) rfl ?_
  refine Go.pureS X16 hx hZ hown (wd 26 rfl) (wd 27 rfl) (wd 28 rfl) (wd 29 rfl) (by decide) [(.ref b10), (.int (1 : Int32))] [] (rmM l Z a0 hw b10 k10 (cellv (x0 &&& (511 : Int32)) ((x1 &&& (511 : Int32)) &&& ((x0 &&& (511 : Int32)) ^^^ (-1 : Int32))) (1 : Int32)) (cellv (x0 &&& (511 : Int32)) ((x1 &&& (511 : Int32)) &&& ((x0 &&& (511 : Int32)) ^^^ (-1 : Int32))) (2 : Int32)) (cellv (x0 &&& (511 : Int32)) ((x1 &&& (511 : Int32)) &&& ((x0 &&& (511 : Int32)) ^^^ (-1 : Int32))) (4 : Int32)) (cellv (x0 &&& (511 : Int32)) ((x1 &&& (511 : Int32)) &&& ((x0 &&& (511 : Int32)) ^^^ (-1 : Int32))) (8 : Int32)) (cellv (x0 &&& (511 : Int32)) ((x1 &&& (511 : Int32)) &&& ((x0 &&& (511 : Int32)) ^^^ (-1 : Int32))) (16 : Int32)) (cellv (x0 &&& (511 : Int32)) ((x1 &&& (511 : Int32)) &&& ((x0 &&& (511 : Int32)) ^^^ (-1 : Int32))) (32 : Int32)) (cellv (x0 &&& (511 : Int32)) ((x1 &&& (511 : Int32)) &&& ((x0 &&& (511 : Int32)) ^^^ (-1 : Int32))) (64 : Int32)) (cellv (x0 &&& (511 : Int32)) ((x1 &&& (511 : Int32)) &&& ((x0 &&& (511 : Int32)) ^^^ (-1 : Int32))) (128 : Int32)) (cellv (x0 &&& (511 : Int32)) ((x1 &&& (511 : Int32)) &&& ((x0 &&& (511 : Int32)) ^^^ (-1 : Int32))) (256 : Int32)) (1 : Int32) T16.heap V22) rfl rfl (by rw [hml]; rfl) pd_4 rfl (hb hby at_71) (Nat.le_of_ble_eq_true rfl) (Nat.le_of_ble_eq_true rfl) (Nat.le_of_ble_eq_true rfl) (Nat.le_of_ble_eq_true rfl) ?_
  intro T23 X23 e23
  refine Go.istore X23 hx (hb hby at_74) rfl  #[.val (.int x0), .val (.int x1), .val (.int (x0 &&& (511 : Int32))), .val (.int ((x1 &&& (511 : Int32)) &&& ((x0 &&& (511 : Int32)) ^^^ (-1 : Int32)))), .val (.ref b1), .val (.ref b10), .val (.ref b16), .val (.int (((((((((if (cellv (x0 &&& (511 : Int32)) ((x1 &&& (511 : Int32)) &&& ((x0 &&& (511 : Int32)) ^^^ (-1 : Int32))) (1 : Int32)) = (1 : Int32) then (1 : Int32) else 0) ||| (if (cellv (x0 &&& (511 : Int32)) ((x1 &&& (511 : Int32)) &&& ((x0 &&& (511 : Int32)) ^^^ (-1 : Int32))) (2 : Int32)) = (1 : Int32) then (2 : Int32) else 0)) ||| (if (cellv (x0 &&& (511 : Int32)) ((x1 &&& (511 : Int32)) &&& ((x0 &&& (511 : Int32)) ^^^ (-1 : Int32))) (4 : Int32)) = (1 : Int32) then (4 : Int32) else 0)) ||| (if (cellv (x0 &&& (511 : Int32)) ((x1 &&& (511 : Int32)) &&& ((x0 &&& (511 : Int32)) ^^^ (-1 : Int32))) (8 : Int32)) = (1 : Int32) then (8 : Int32) else 0)) ||| (if (cellv (x0 &&& (511 : Int32)) ((x1 &&& (511 : Int32)) &&& ((x0 &&& (511 : Int32)) ^^^ (-1 : Int32))) (16 : Int32)) = (1 : Int32) then (16 : Int32) else 0)) ||| (if (cellv (x0 &&& (511 : Int32)) ((x1 &&& (511 : Int32)) &&& ((x0 &&& (511 : Int32)) ^^^ (-1 : Int32))) (32 : Int32)) = (1 : Int32) then (32 : Int32) else 0)) ||| (if (cellv (x0 &&& (511 : Int32)) ((x1 &&& (511 : Int32)) &&& ((x0 &&& (511 : Int32)) ^^^ (-1 : Int32))) (64 : Int32)) = (1 : Int32) then (64 : Int32) else 0)) ||| (if (cellv (x0 &&& (511 : Int32)) ((x1 &&& (511 : Int32)) &&& ((x0 &&& (511 : Int32)) ^^^ (-1 : Int32))) (128 : Int32)) = (1 : Int32) then (128 : Int32) else 0)) ||| (if (cellv (x0 &&& (511 : Int32)) ((x1 &&& (511 : Int32)) &&& ((x0 &&& (511 : Int32)) ^^^ (-1 : Int32))) (256 : Int32)) = (1 : Int32) then (256 : Int32) else 0))), .unset, .unset] rfl ?_
  refine Go.aload X23 hx (hb hby at_76) rfl rfl rfl ?_
  refine Go.iconst X23 hx (hb hby at_78) rfl (2 : Int32) rfl ?_
  refine Go.pureS X23 hx hZ hown (wd 26 rfl) (wd 27 rfl) (wd 28 rfl) (wd 29 rfl) (by decide) [(.ref b10), (.int (2 : Int32))] [] (rmM l Z a0 hw b10 k10 (cellv (x0 &&& (511 : Int32)) ((x1 &&& (511 : Int32)) &&& ((x0 &&& (511 : Int32)) ^^^ (-1 : Int32))) (1 : Int32)) (cellv (x0 &&& (511 : Int32)) ((x1 &&& (511 : Int32)) &&& ((x0 &&& (511 : Int32)) ^^^ (-1 : Int32))) (2 : Int32)) (cellv (x0 &&& (511 : Int32)) ((x1 &&& (511 : Int32)) &&& ((x0 &&& (511 : Int32)) ^^^ (-1 : Int32))) (4 : Int32)) (cellv (x0 &&& (511 : Int32)) ((x1 &&& (511 : Int32)) &&& ((x0 &&& (511 : Int32)) ^^^ (-1 : Int32))) (8 : Int32)) (cellv (x0 &&& (511 : Int32)) ((x1 &&& (511 : Int32)) &&& ((x0 &&& (511 : Int32)) ^^^ (-1 : Int32))) (16 : Int32)) (cellv (x0 &&& (511 : Int32)) ((x1 &&& (511 : Int32)) &&& ((x0 &&& (511 : Int32)) ^^^ (-1 : Int32))) (32 : Int32)) (cellv (x0 &&& (511 : Int32)) ((x1 &&& (511 : Int32)) &&& ((x0 &&& (511 : Int32)) ^^^ (-1 : Int32))) (64 : Int32)) (cellv (x0 &&& (511 : Int32)) ((x1 &&& (511 : Int32)) &&& ((x0 &&& (511 : Int32)) ^^^ (-1 : Int32))) (128 : Int32)) (cellv (x0 &&& (511 : Int32)) ((x1 &&& (511 : Int32)) &&& ((x0 &&& (511 : Int32)) ^^^ (-1 : Int32))) (256 : Int32)) (2 : Int32) T16.heap V22) e23 rfl (by rw [hml]; rfl) pd_4 rfl (hb hby at_79) (Nat.le_of_ble_eq_true rfl) (Nat.le_of_ble_eq_true rfl) (Nat.le_of_ble_eq_true rfl) (Nat.le_of_ble_eq_true rfl) ?_
  intro T24 X24 e24
  refine Go.istore X24 hx (hb hby at_82) rfl  #[.val (.int x0), .val (.int x1), .val (.int (x0 &&& (511 : Int32))), .val (.int ((x1 &&& (511 : Int32)) &&& ((x0 &&& (511 : Int32)) ^^^ (-1 : Int32)))), .val (.ref b1), .val (.ref b10), .val (.ref b16), .val (.int (((((((((if (cellv (x0 &&& (511 : Int32)) ((x1 &&& (511 : Int32)) &&& ((x0 &&& (511 : Int32)) ^^^ (-1 : Int32))) (1 : Int32)) = (1 : Int32) then (1 : Int32) else 0) ||| (if (cellv (x0 &&& (511 : Int32)) ((x1 &&& (511 : Int32)) &&& ((x0 &&& (511 : Int32)) ^^^ (-1 : Int32))) (2 : Int32)) = (1 : Int32) then (2 : Int32) else 0)) ||| (if (cellv (x0 &&& (511 : Int32)) ((x1 &&& (511 : Int32)) &&& ((x0 &&& (511 : Int32)) ^^^ (-1 : Int32))) (4 : Int32)) = (1 : Int32) then (4 : Int32) else 0)) ||| (if (cellv (x0 &&& (511 : Int32)) ((x1 &&& (511 : Int32)) &&& ((x0 &&& (511 : Int32)) ^^^ (-1 : Int32))) (8 : Int32)) = (1 : Int32) then (8 : Int32) else 0)) ||| (if (cellv (x0 &&& (511 : Int32)) ((x1 &&& (511 : Int32)) &&& ((x0 &&& (511 : Int32)) ^^^ (-1 : Int32))) (16 : Int32)) = (1 : Int32) then (16 : Int32) else 0)) ||| (if (cellv (x0 &&& (511 : Int32)) ((x1 &&& (511 : Int32)) &&& ((x0 &&& (511 : Int32)) ^^^ (-1 : Int32))) (32 : Int32)) = (1 : Int32) then (32 : Int32) else 0)) ||| (if (cellv (x0 &&& (511 : Int32)) ((x1 &&& (511 : Int32)) &&& ((x0 &&& (511 : Int32)) ^^^ (-1 : Int32))) (64 : Int32)) = (1 : Int32) then (64 : Int32) else 0)) ||| (if (cellv (x0 &&& (511 : Int32)) ((x1 &&& (511 : Int32)) &&& ((x0 &&& (511 : Int32)) ^^^ (-1 : Int32))) (128 : Int32)) = (1 : Int32) then (128 : Int32) else 0)) ||| (if (cellv (x0 &&& (511 : Int32)) ((x1 &&& (511 : Int32)) &&& ((x0 &&& (511 : Int32)) ^^^ (-1 : Int32))) (256 : Int32)) = (1 : Int32) then (256 : Int32) else 0))), .val (.int (((((((((if (cellv (x0 &&& (511 : Int32)) ((x1 &&& (511 : Int32)) &&& ((x0 &&& (511 : Int32)) ^^^ (-1 : Int32))) (1 : Int32)) = (2 : Int32) then (1 : Int32) else 0) ||| (if (cellv (x0 &&& (511 : Int32)) ((x1 &&& (511 : Int32)) &&& ((x0 &&& (511 : Int32)) ^^^ (-1 : Int32))) (2 : Int32)) = (2 : Int32) then (2 : Int32) else 0)) ||| (if (cellv (x0 &&& (511 : Int32)) ((x1 &&& (511 : Int32)) &&& ((x0 &&& (511 : Int32)) ^^^ (-1 : Int32))) (4 : Int32)) = (2 : Int32) then (4 : Int32) else 0)) ||| (if (cellv (x0 &&& (511 : Int32)) ((x1 &&& (511 : Int32)) &&& ((x0 &&& (511 : Int32)) ^^^ (-1 : Int32))) (8 : Int32)) = (2 : Int32) then (8 : Int32) else 0)) ||| (if (cellv (x0 &&& (511 : Int32)) ((x1 &&& (511 : Int32)) &&& ((x0 &&& (511 : Int32)) ^^^ (-1 : Int32))) (16 : Int32)) = (2 : Int32) then (16 : Int32) else 0)) ||| (if (cellv (x0 &&& (511 : Int32)) ((x1 &&& (511 : Int32)) &&& ((x0 &&& (511 : Int32)) ^^^ (-1 : Int32))) (32 : Int32)) = (2 : Int32) then (32 : Int32) else 0)) ||| (if (cellv (x0 &&& (511 : Int32)) ((x1 &&& (511 : Int32)) &&& ((x0 &&& (511 : Int32)) ^^^ (-1 : Int32))) (64 : Int32)) = (2 : Int32) then (64 : Int32) else 0)) ||| (if (cellv (x0 &&& (511 : Int32)) ((x1 &&& (511 : Int32)) &&& ((x0 &&& (511 : Int32)) ^^^ (-1 : Int32))) (128 : Int32)) = (2 : Int32) then (128 : Int32) else 0)) ||| (if (cellv (x0 &&& (511 : Int32)) ((x1 &&& (511 : Int32)) &&& ((x0 &&& (511 : Int32)) ^^^ (-1 : Int32))) (256 : Int32)) = (2 : Int32) then (256 : Int32) else 0))), .unset] rfl ?_
  refine Go.aload X24 hx (hb hby at_84) rfl rfl rfl ?_
  refine Go.iconst X24 hx (hb hby at_86) rfl (0 : Int32) rfl ?_
  refine Go.pureS X24 hx hZ hown (wd 26 rfl) (wd 27 rfl) (wd 28 rfl) (wd 29 rfl) (by decide) [(.ref b10), (.int (0 : Int32))] [] (rmM l Z a0 hw b10 k10 (cellv (x0 &&& (511 : Int32)) ((x1 &&& (511 : Int32)) &&& ((x0 &&& (511 : Int32)) ^^^ (-1 : Int32))) (1 : Int32)) (cellv (x0 &&& (511 : Int32)) ((x1 &&& (511 : Int32)) &&& ((x0 &&& (511 : Int32)) ^^^ (-1 : Int32))) (2 : Int32)) (cellv (x0 &&& (511 : Int32)) ((x1 &&& (511 : Int32)) &&& ((x0 &&& (511 : Int32)) ^^^ (-1 : Int32))) (4 : Int32)) (cellv (x0 &&& (511 : Int32)) ((x1 &&& (511 : Int32)) &&& ((x0 &&& (511 : Int32)) ^^^ (-1 : Int32))) (8 : Int32)) (cellv (x0 &&& (511 : Int32)) ((x1 &&& (511 : Int32)) &&& ((x0 &&& (511 : Int32)) ^^^ (-1 : Int32))) (16 : Int32)) (cellv (x0 &&& (511 : Int32)) ((x1 &&& (511 : Int32)) &&& ((x0 &&& (511 : Int32)) ^^^ (-1 : Int32))) (32 : Int32)) (cellv (x0 &&& (511 : Int32)) ((x1 &&& (511 : Int32)) &&& ((x0 &&& (511 : Int32)) ^^^ (-1 : Int32))) (64 : Int32)) (cellv (x0 &&& (511 : Int32)) ((x1 &&& (511 : Int32)) &&& ((x0 &&& (511 : Int32)) ^^^ (-1 : Int32))) (128 : Int32)) (cellv (x0 &&& (511 : Int32)) ((x1 &&& (511 : Int32)) &&& ((x0 &&& (511 : Int32)) ^^^ (-1 : Int32))) (256 : Int32)) (0 : Int32) T16.heap V22) e24 rfl (by rw [hml]; rfl) pd_4 rfl (hb hby at_87) (Nat.le_of_ble_eq_true rfl) (Nat.le_of_ble_eq_true rfl) (Nat.le_of_ble_eq_true rfl) (Nat.le_of_ble_eq_true rfl) ?_
  intro T25 X25 e25
  refine Go.istore X25 hx (hb hby at_90) rfl  #[.val (.int x0), .val (.int x1), .val (.int (x0 &&& (511 : Int32))), .val (.int ((x1 &&& (511 : Int32)) &&& ((x0 &&& (511 : Int32)) ^^^ (-1 : Int32)))), .val (.ref b1), .val (.ref b10), .val (.ref b16), .val (.int (((((((((if (cellv (x0 &&& (511 : Int32)) ((x1 &&& (511 : Int32)) &&& ((x0 &&& (511 : Int32)) ^^^ (-1 : Int32))) (1 : Int32)) = (1 : Int32) then (1 : Int32) else 0) ||| (if (cellv (x0 &&& (511 : Int32)) ((x1 &&& (511 : Int32)) &&& ((x0 &&& (511 : Int32)) ^^^ (-1 : Int32))) (2 : Int32)) = (1 : Int32) then (2 : Int32) else 0)) ||| (if (cellv (x0 &&& (511 : Int32)) ((x1 &&& (511 : Int32)) &&& ((x0 &&& (511 : Int32)) ^^^ (-1 : Int32))) (4 : Int32)) = (1 : Int32) then (4 : Int32) else 0)) ||| (if (cellv (x0 &&& (511 : Int32)) ((x1 &&& (511 : Int32)) &&& ((x0 &&& (511 : Int32)) ^^^ (-1 : Int32))) (8 : Int32)) = (1 : Int32) then (8 : Int32) else 0)) ||| (if (cellv (x0 &&& (511 : Int32)) ((x1 &&& (511 : Int32)) &&& ((x0 &&& (511 : Int32)) ^^^ (-1 : Int32))) (16 : Int32)) = (1 : Int32) then (16 : Int32) else 0)) ||| (if (cellv (x0 &&& (511 : Int32)) ((x1 &&& (511 : Int32)) &&& ((x0 &&& (511 : Int32)) ^^^ (-1 : Int32))) (32 : Int32)) = (1 : Int32) then (32 : Int32) else 0)) ||| (if (cellv (x0 &&& (511 : Int32)) ((x1 &&& (511 : Int32)) &&& ((x0 &&& (511 : Int32)) ^^^ (-1 : Int32))) (64 : Int32)) = (1 : Int32) then (64 : Int32) else 0)) ||| (if (cellv (x0 &&& (511 : Int32)) ((x1 &&& (511 : Int32)) &&& ((x0 &&& (511 : Int32)) ^^^ (-1 : Int32))) (128 : Int32)) = (1 : Int32) then (128 : Int32) else 0)) ||| (if (cellv (x0 &&& (511 : Int32)) ((x1 &&& (511 : Int32)) &&& ((x0 &&& (511 : Int32)) ^^^ (-1 : Int32))) (256 : Int32)) = (1 : Int32) then (256 : Int32) else 0))), .val (.int (((((((((if (cellv (x0 &&& (511 : Int32)) ((x1 &&& (511 : Int32)) &&& ((x0 &&& (511 : Int32)) ^^^ (-1 : Int32))) (1 : Int32)) = (2 : Int32) then (1 : Int32) else 0) ||| (if (cellv (x0 &&& (511 : Int32)) ((x1 &&& (511 : Int32)) &&& ((x0 &&& (511 : Int32)) ^^^ (-1 : Int32))) (2 : Int32)) = (2 : Int32) then (2 : Int32) else 0)) ||| (if (cellv (x0 &&& (511 : Int32)) ((x1 &&& (511 : Int32)) &&& ((x0 &&& (511 : Int32)) ^^^ (-1 : Int32))) (4 : Int32)) = (2 : Int32) then (4 : Int32) else 0)) ||| (if (cellv (x0 &&& (511 : Int32)) ((x1 &&& (511 : Int32)) &&& ((x0 &&& (511 : Int32)) ^^^ (-1 : Int32))) (8 : Int32)) = (2 : Int32) then (8 : Int32) else 0)) ||| (if (cellv (x0 &&& (511 : Int32)) ((x1 &&& (511 : Int32)) &&& ((x0 &&& (511 : Int32)) ^^^ (-1 : Int32))) (16 : Int32)) = (2 : Int32) then (16 : Int32) else 0)) ||| (if (cellv (x0 &&& (511 : Int32)) ((x1 &&& (511 : Int32)) &&& ((x0 &&& (511 : Int32)) ^^^ (-1 : Int32))) (32 : Int32)) = (2 : Int32) then (32 : Int32) else 0)) ||| (if (cellv (x0 &&& (511 : Int32)) ((x1 &&& (511 : Int32)) &&& ((x0 &&& (511 : Int32)) ^^^ (-1 : Int32))) (64 : Int32)) = (2 : Int32) then (64 : Int32) else 0)) ||| (if (cellv (x0 &&& (511 : Int32)) ((x1 &&& (511 : Int32)) &&& ((x0 &&& (511 : Int32)) ^^^ (-1 : Int32))) (128 : Int32)) = (2 : Int32) then (128 : Int32) else 0)) ||| (if (cellv (x0 &&& (511 : Int32)) ((x1 &&& (511 : Int32)) &&& ((x0 &&& (511 : Int32)) ^^^ (-1 : Int32))) (256 : Int32)) = (2 : Int32) then (256 : Int32) else 0))), .val (.int (((((((((if (cellv (x0 &&& (511 : Int32)) ((x1 &&& (511 : Int32)) &&& ((x0 &&& (511 : Int32)) ^^^ (-1 : Int32))) (1 : Int32)) = (0 : Int32) then (1 : Int32) else 0) ||| (if (cellv (x0 &&& (511 : Int32)) ((x1 &&& (511 : Int32)) &&& ((x0 &&& (511 : Int32)) ^^^ (-1 : Int32))) (2 : Int32)) = (0 : Int32) then (2 : Int32) else 0)) ||| (if (cellv (x0 &&& (511 : Int32)) ((x1 &&& (511 : Int32)) &&& ((x0 &&& (511 : Int32)) ^^^ (-1 : Int32))) (4 : Int32)) = (0 : Int32) then (4 : Int32) else 0)) ||| (if (cellv (x0 &&& (511 : Int32)) ((x1 &&& (511 : Int32)) &&& ((x0 &&& (511 : Int32)) ^^^ (-1 : Int32))) (8 : Int32)) = (0 : Int32) then (8 : Int32) else 0)) ||| (if (cellv (x0 &&& (511 : Int32)) ((x1 &&& (511 : Int32)) &&& ((x0 &&& (511 : Int32)) ^^^ (-1 : Int32))) (16 : Int32)) = (0 : Int32) then (16 : Int32) else 0)) ||| (if (cellv (x0 &&& (511 : Int32)) ((x1 &&& (511 : Int32)) &&& ((x0 &&& (511 : Int32)) ^^^ (-1 : Int32))) (32 : Int32)) = (0 : Int32) then (32 : Int32) else 0)) ||| (if (cellv (x0 &&& (511 : Int32)) ((x1 &&& (511 : Int32)) &&& ((x0 &&& (511 : Int32)) ^^^ (-1 : Int32))) (64 : Int32)) = (0 : Int32) then (64 : Int32) else 0)) ||| (if (cellv (x0 &&& (511 : Int32)) ((x1 &&& (511 : Int32)) &&& ((x0 &&& (511 : Int32)) ^^^ (-1 : Int32))) (128 : Int32)) = (0 : Int32) then (128 : Int32) else 0)) ||| (if (cellv (x0 &&& (511 : Int32)) ((x1 &&& (511 : Int32)) &&& ((x0 &&& (511 : Int32)) ^^^ (-1 : Int32))) (256 : Int32)) = (0 : Int32) then (256 : Int32) else 0)))] rfl ?_
  refine Go.iload X25 hx (hb hby at_92) rfl rfl  ?_
  refine Go.iloadN X25 hx (hb hby at_94) rfl rfl  ?_
  refine Go.icmpNo X25 hx (hb hby at_95) rfl (teq (own_m1 x0 x1)).2 ?_
  refine Go.iload X25 hx (hb hby at_98) rfl rfl  ?_
  refine Go.iloadN X25 hx (hb hby at_100) rfl rfl  ?_
  refine Go.icmpNo X25 hx (hb hby at_101) rfl (teq (own_m2 x0 x1)).2 ?_
  refine Go.iload X25 hx (hb hby at_104) rfl rfl  ?_
  refine Go.iload X25 hx (hb hby at_106) rfl rfl  ?_
  refine Go.ior X25 hx (hb hby at_108) rfl ?_
  refine Go.iload X25 hx (hb hby at_109) rfl rfl  ?_
  refine Go.ior X25 hx (hb hby at_111) rfl ?_
  refine Go.sipush X25 hx (hb hby at_112) rfl (511 : Int32) rfl ?_
  refine Go.icmpNo X25 hx (hb hby at_115) rfl (teq (own_m0 x0 x1)).2 ?_
  refine Go.iconst X25 hx (hb hby at_118) rfl (1 : Int32) rfl ?_
  refine Go.goto X25 hx (hb hby at_119) rfl 123 (by decide) (by decide) ?_
  exact Go.retZ X25 hx (z' := (1 : Int32)) hret hlk (hb hby at_123) rfl (by decide) ⟨by first | rfl | simp [], M17⟩ (Nat.le_of_ble_eq_true rfl) (Nat.le_of_ble_eq_true rfl)
set_option maxRecDepth 65536 in
set_option maxHeartbeats 40000000 in
theorem comes_1 {Post : Tables → Env → Array Value → State → Outcome → State → Prop} (hpost : ∀ tb e args s v u, (limb_1_1.after args s (.returned v) u = true ∧ limb_1_2.after args s (.returned v) u = true ∧ True) → FrameEnd s (.returned v) u (Jvm.fieldLocs frame_1_writes args s ++ Jvm.arrayLocs frame_1_arrays args s ++ Jvm.staticLocs frame_1_statics s) 16 128 → Post tb e args s (.returned v) u) :
    ArmFor flags0 classFile x code maxLocals ret World_1 tables_1 room_1 Calls_1 rest_1 Pre_1 Post := by
  intro l hfl _ _ p e ha hc hk s m args below hf hA hF happ hP
  obtain ⟨hcalls, hrest, hpre⟩ := hP
  obtain ⟨-, -, -, hnamed, -, -, -, hat⟩ := (Spec.applies_iff hf).mp happ
  obtain ⟨hg, hn⟩ := and_e (Cond.before_iff.mp (show (Jvm.Cond.and given_1 narrow_1).before args s = true from hpre))
  obtain ⟨gi0, gi1⟩ := and_e hg
  obtain ⟨gi2, gi3⟩ := and_e gi1
  obtain ⟨w0, w1, rfl⟩ : ∃ w0 w1 : Value, args = #[w0, w1] := by
    have hs : args.size = 2 := by simpa [Cond.value, given_1] using gi0
    obtain ⟨L⟩ := args
    match L, hs with
    | [w0, w1], _ => exact ⟨w0, w1, rfl⟩
  have hw := fun d (hd : d ∈ tables_1) => atoms_spec (ws := Jvm.Cond.code x code maxLocals ret :: tables_1) hat d (List.mem_cons_of_mem _ hd)
  have wd : ∀ {d : Jvm.Cond} (i : Nat), tables_1[i]? = some d → d.before _ s = true := fun i q => hw _ (List.mem_of_getElem? q)
  have hfit : Fit s := fun {y c} hc i hi => by
    obtain ⟨ha, rfl⟩ := Array.getElem?_eq_some_iff.mp hc
    have q := List.all_eq_true.mp ((Array.all_eq_true_iff_forall_mem.mp hF) _ (Array.getElem_mem ha)) i (List.mem_range.mpr hi)
    simpa [Array.getElem?_eq_getElem hi] using q
  obtain ⟨i0, ei0⟩ := is_v gi2
  obtain rfl : w0 = (.int i0) := Option.some.inj ei0
  obtain ⟨i1, ei1⟩ := is_v gi3
  obtain rfl : w1 = (.int i1) := Option.some.inj ei1
  obtain ⟨g1, g2⟩ := and_e hn
  obtain ⟨a_LINES, ev_LINES⟩ := arr_v g1
  have S_LINES : Sta s s.heap "com/example/afterstate/afterstate/tictactoe/TicTacToePosition" "LINES" "[I" (.ref a_LINES) := Sta.start ev_LINES (Or.inr ⟨(wd 2 rfl), (wd 17 rfl)⟩)
  obtain ⟨cl_LINES, Ar_LINES⟩ := Arr.start ev_LINES g1
  obtain ⟨g3, g4⟩ := and_e g2
  have L_LINES := own_eqv g3 (v := (.int (8 : Int32))) rfl
  obtain ⟨g5, g6⟩ := and_e g4
  have el_LINES_0 : cl_LINES.slots[0]? = some (.int (7 : Int32)) := own_elem Ar_LINES ev_LINES (j := (0 : Int32)) (by decide) (own_eqv g5 (v := (.int (7 : Int32))) rfl)
  obtain ⟨g7, g8⟩ := and_e g6
  have el_LINES_1 : cl_LINES.slots[1]? = some (.int (56 : Int32)) := own_elem Ar_LINES ev_LINES (j := (1 : Int32)) (by decide) (own_eqv g7 (v := (.int (56 : Int32))) rfl)
  obtain ⟨g9, g10⟩ := and_e g8
  have el_LINES_2 : cl_LINES.slots[2]? = some (.int (448 : Int32)) := own_elem Ar_LINES ev_LINES (j := (2 : Int32)) (by decide) (own_eqv g9 (v := (.int (448 : Int32))) rfl)
  obtain ⟨g11, g12⟩ := and_e g10
  have el_LINES_3 : cl_LINES.slots[3]? = some (.int (73 : Int32)) := own_elem Ar_LINES ev_LINES (j := (3 : Int32)) (by decide) (own_eqv g11 (v := (.int (73 : Int32))) rfl)
  obtain ⟨g13, g14⟩ := and_e g12
  have el_LINES_4 : cl_LINES.slots[4]? = some (.int (146 : Int32)) := own_elem Ar_LINES ev_LINES (j := (4 : Int32)) (by decide) (own_eqv g13 (v := (.int (146 : Int32))) rfl)
  obtain ⟨g15, g16⟩ := and_e g14
  have el_LINES_5 : cl_LINES.slots[5]? = some (.int (292 : Int32)) := own_elem Ar_LINES ev_LINES (j := (5 : Int32)) (by decide) (own_eqv g15 (v := (.int (292 : Int32))) rfl)
  obtain ⟨g17, g18⟩ := and_e g16
  have el_LINES_6 : cl_LINES.slots[6]? = some (.int (273 : Int32)) := own_elem Ar_LINES ev_LINES (j := (6 : Int32)) (by decide) (own_eqv g17 (v := (.int (273 : Int32))) rfl)
  have el_LINES_7 : cl_LINES.slots[7]? = some (.int (84 : Int32)) := own_elem Ar_LINES ev_LINES (j := (7 : Int32)) (by decide) (own_eqv g18 (v := (.int (84 : Int32))) rfl)
  have V_LINES : Arv s s.heap a_LINES cl_LINES.cls .int (8 : Int32) [(.int (7 : Int32)), (.int (56 : Int32)), (.int (448 : Int32)), (.int (73 : Int32)), (.int (146 : Int32)), (.int (292 : Int32)), (.int (273 : Int32)), (.int (84 : Int32))] (.int (0 : Int32)) := Arv.start hfit Ar_LINES (own_len Ar_LINES ev_LINES L_LINES).1 (own_len Ar_LINES ev_LINES L_LINES).2 (by decide) rfl ⟨el_LINES_0, el_LINES_1, el_LINES_2, el_LINES_3, el_LINES_4, el_LINES_5, el_LINES_6, el_LINES_7, trivial⟩
  obtain ⟨n, o, h1, h2, h3, _, L, rfl, ⟨rfl, N⟩, hq⟩ := rm0 l s _ hw i0 i1 a_LINES cl_LINES.cls ⟨S_LINES, V_LINES⟩ tables_1 p e ha hc hk s m _ below hf ((Spec.applies_iff_loose hf).mp happ).1 ⟨rfl, State.Warmed39.refl s, rfl⟩ trivial
  refine ⟨n, _, h1, h2, h3, hpost _ _ _ _ _ _ ⟨Cond.after_iff.mpr rfl, Cond.after_iff.mpr (eq_i res_at (Term.int_eval (1)) rfl), trivial⟩ ⟨hq.1, hq.2.1, (hq.2.2.sift fun y hy => Or.inr (N y hy)).mono (by decide) (by decide)⟩⟩
theorem main_1_1 : Claimed_1_1 := comes_1 fun _ _ _ _ _ _ h hF => ⟨h.1, hF⟩
theorem main_1_2 : Claimed_1_2 := comes_1 fun _ _ _ _ _ _ h hF => ⟨h.2.1, hF⟩
end Jvm.Pilot.@@N@@
namespace Jvm.Pilot.@@N@@
open Jvm Jvm.ClassFile Sem Op Lib Jvm.Free Jvm.Stand Jvm.Pilot.@@N@@.Jvm.D
/-! MADE BY PROGRAM (witnessworld.py) out of the Statement's table words and the real class files: 10 classes; the members and pool entries that the words name. The judged class is class 1, her method 3. -/
namespace start1
open Jvm.ClassFile
def u (s : String) : CpInfo := .utf8 (stringToUtf16 s)
/-- a pool by its gaps: so many unusable entries, then the entry; so many at the end -/
def gap : Nat → List CpInfo → List CpInfo
  | 0, r => r
  | n + 1, r => .unusable :: gap n r
def poolList (es : List (Nat × CpInfo)) (last : Nat) : List CpInfo := es.foldr (fun e r => gap e.1 (e.2 :: r)) (gap last [])
def pool (es : List (Nat × CpInfo)) (last : Nat) : Array CpInfo := ⟨poolList es last⟩
def fileOf (pool : Array CpInfo) (this : Nat) (attrs : Array Attribute := #[]) (ms : Array MethodInfo := #[]) (fl : Nat := 33) (sup : Nat := 0) (ifs : Array Nat := #[]) (fds : Array FieldInfo := #[]) : ClassFile where
  minorVersion := 0
  majorVersion := 65
  constantPool := pool
  accessFlags := fl
  thisClass := this
  superClass := sup
  interfaces := ifs
  fields := fds
  methods := ms
  attributes := attrs
def plain (name : String) (sup : Option ClassId) : Class where
  name := name
  kind := .ordinary
  loader := none
  accessFlags := 33
  super := sup
  interfaces := #[]
  cf := none
  fields := #[]
  methods := #[]
  instanceTypes := #[]
  staticTypes := #[]
  resolved := #[]
  callSites := []
  init := .initialized
  statics := none
  mirror := none

def pool0 : Array CpInfo := pool [(5, u "<init>"), (0, u "()V"), (1, .class_ 10), (1, u "java/lang/Object")] 113

def k0c0 : Code := { maxStack := 0, maxLocals := 1, code := object_method_1_code, exceptionTable := #[], attributes := #[] }
def k0m0 : Method := { name := "<init>", desc := "()V", sig := { parameters := [], returnType := none }, accessFlags := 1, code := some k0c0 }
/-- java/lang/Object -/
def k0 : Class := { plain "java/lang/Object" none with
  accessFlags := 33
  interfaces := #[]
  cf := some (fileOf pool0 8 #[] #[{ accessFlags := 1, nameIndex := 5, descriptorIndex := 6, attributes := #[] }] 33 0 #[] #[])
  fields := #[]
  methods := #[k0m0]
  instanceTypes := #[]
  staticTypes := #[]
  resolved := Array.replicate 124 none
  statics := none }

def pool1 : Array CpInfo := pool [(2, .class_ 4), (1, u "java/lang/Object"), (0, u "<init>"), (0, u "()V"), (0, .methodref 8 9), (0, .class_ 10), (0, .nameAndType 11 12), (0, u "com/example/afterstate/afterstate/tictactoe/TicTacToePositionCellsPinLaw"), (0, u "bitIf"), (0, u "([III)I"), (0, .class_ 14), (0, u "com/example/afterstate/afterstate/tictactoe/TicTacToePosition"), (0, .methodref 13 16), (0, .nameAndType 5 17), (0, u "(II)V"), (0, .methodref 13 19), (0, .nameAndType 20 21), (0, u "cells"), (0, u "()[I"), (0, .methodref 8 23), (0, .nameAndType 24 25), (0, u "maskOf"), (0, u "([II)I"), (3, u "law"), (0, u "(II)Z")] 4

def k1m0 : Method := { name := "<init>", desc := "()V", sig := { parameters := [], returnType := none }, accessFlags := 1, code := none }
def k1c1 : Code := { maxStack := 2, maxLocals := 3, code := method_2_code, exceptionTable := #[], attributes := #[] }
def k1m1 : Method := { name := "bitIf", desc := "([III)I", sig := { parameters := [(.array .int), .int, .int], returnType := some .int }, accessFlags := 10, code := some k1c1 }
def k1c2 : Code := { maxStack := 4, maxLocals := 2, code := method_3_code, exceptionTable := #[], attributes := #[] }
def k1m2 : Method := { name := "maskOf", desc := "([II)I", sig := { parameters := [(.array .int), .int], returnType := some .int }, accessFlags := 10, code := some k1c2 }
def k1c3 : Code := { maxStack := 4, maxLocals := 10, code := code, exceptionTable := #[], attributes := #[] }
def k1m3 : Method := { name := "law", desc := "(II)Z", sig := { parameters := [.int, .int], returnType := some .boolean }, accessFlags := 9, code := some k1c3 }
/-- com/example/afterstate/afterstate/tictactoe/TicTacToePositionCellsPinLaw -/
def k1 : Class := { plain "com/example/afterstate/afterstate/tictactoe/TicTacToePositionCellsPinLaw" (some 0) with
  accessFlags := 49
  interfaces := #[]
  cf := some (fileOf pool1 8 #[] #[{ accessFlags := 1, nameIndex := 5, descriptorIndex := 6, attributes := #[] }, { accessFlags := 10, nameIndex := 11, descriptorIndex := 12, attributes := #[] }, { accessFlags := 10, nameIndex := 24, descriptorIndex := 25, attributes := #[] }, { accessFlags := 9, nameIndex := 29, descriptorIndex := 30, attributes := #[] }] 49 2 #[] #[])
  fields := #[]
  methods := #[k1m0, k1m1, k1m2, k1m3]
  instanceTypes := #[]
  staticTypes := #[]
  resolved := Array.replicate 35 none
  statics := none }

def pool2 : Array CpInfo := pool [(1, .class_ 2), (0, u "com/example/afterstate/afterstate/game/Position"), (0, .class_ 4), (0, u "java/lang/Object")] 13

/-- com/example/afterstate/afterstate/game/Position -/
def k2 : Class := { plain "com/example/afterstate/afterstate/game/Position" (some 0) with
  accessFlags := 1537
  interfaces := #[]
  cf := some (fileOf pool2 1 #[] #[] 1537 3 #[] #[])
  fields := #[]
  methods := #[]
  instanceTypes := #[]
  staticTypes := #[]
  resolved := Array.replicate 18 none
  statics := none }

def pool3 : Array CpInfo := pool [(1, .class_ 2), (0, u "com/example/afterstate/afterstate/tictactoe/TicTacToePosition"), (0, .methodref 4 5), (0, .class_ 6), (0, .nameAndType 7 8), (0, u "java/lang/Object"), (0, u "<init>"), (0, u "()V"), (0, .fieldref 1 10), (0, .nameAndType 11 12), (0, u "crosses"), (0, u "I"), (0, .fieldref 1 14), (0, .nameAndType 15 12), (0, u "noughts"), (0, .methodref 1 17), (0, .nameAndType 18 19), (0, u "completesLine"), (0, u "(I)Z"), (0, .fieldref 1 21), (0, .nameAndType 22 12), (0, u "winner"), (48, u "(II)V"), (8, .fieldref 1 81), (0, .nameAndType 82 83), (0, u "LINES"), (0, u "[I"), (0, .class_ 85), (0, u "com/example/afterstate/afterstate/game/Position"), (0, u "CELLS"), (2, u "FULL_BOARD"), (5, u "()[I"), (4, u "cells")] 6

def k3c0 : Code := { maxStack := 2, maxLocals := 3, code := prog_67_method_1_code, exceptionTable := #[], attributes := #[] }
def k3m0 : Method := { name := "<init>", desc := "(II)V", sig := { parameters := [.int, .int], returnType := none }, accessFlags := 0, code := some k3c0 }
def k3c1 : Code := { maxStack := 4, maxLocals := 4, code := prog_67_method_7_code, exceptionTable := #[], attributes := #[] }
def k3m1 : Method := { name := "cells", desc := "()[I", sig := { parameters := [], returnType := some (.array .int) }, accessFlags := 1, code := some k3c1 }
def k3c2 : Code := { maxStack := 2, maxLocals := 5, code := prog_67_method_10_code, exceptionTable := #[], attributes := #[] }
def k3m2 : Method := { name := "completesLine", desc := "(I)Z", sig := { parameters := [.int], returnType := some .boolean }, accessFlags := 10, code := some k3c2 }
/-- com/example/afterstate/afterstate/tictactoe/TicTacToePosition -/
def k3 : Class := { plain "com/example/afterstate/afterstate/tictactoe/TicTacToePosition" (some 0) with
  accessFlags := 32
  interfaces := #[2]
  cf := some (fileOf pool3 1 #[] #[{ accessFlags := 0, nameIndex := 7, descriptorIndex := 71, attributes := #[] }, { accessFlags := 1, nameIndex := 100, descriptorIndex := 95, attributes := #[] }, { accessFlags := 10, nameIndex := 18, descriptorIndex := 19, attributes := #[] }] 32 4 #[84] #[{ accessFlags := 26, nameIndex := 86, descriptorIndex := 12, attributes := #[] }, { accessFlags := 26, nameIndex := 89, descriptorIndex := 12, attributes := #[] }, { accessFlags := 26, nameIndex := 82, descriptorIndex := 83, attributes := #[] }, { accessFlags := 18, nameIndex := 11, descriptorIndex := 12, attributes := #[] }, { accessFlags := 18, nameIndex := 15, descriptorIndex := 12, attributes := #[] }, { accessFlags := 18, nameIndex := 22, descriptorIndex := 12, attributes := #[] }])
  fields := #[{ name := "CELLS", type := .int, accessFlags := 26, slot := 0, constantValue := 0 }, { name := "FULL_BOARD", type := .int, accessFlags := 26, slot := 1, constantValue := 0 }, { name := "LINES", type := (.array .int), accessFlags := 26, slot := 2, constantValue := 0 }, { name := "crosses", type := .int, accessFlags := 18, slot := 0, constantValue := 0 }, { name := "noughts", type := .int, accessFlags := 18, slot := 1, constantValue := 0 }, { name := "winner", type := .int, accessFlags := 18, slot := 2, constantValue := 0 }]
  methods := #[k3m0, k3m1, k3m2]
  instanceTypes := #[.int, .int, .int]
  staticTypes := #[.int, .int, (.array .int)]
  resolved := Array.replicate 107 none
  statics := some 0 }

def pool4 : Array CpInfo := pool [(1, u "java/lang/Cloneable"), (0, .class_ 1), (0, u "java/lang/Object"), (0, .class_ 3)] 3

/-- java/lang/Cloneable -/
def k4 : Class := { plain "java/lang/Cloneable" (some 0) with
  accessFlags := 1537
  interfaces := #[]
  cf := some (fileOf pool4 2 #[] #[] 1537 4 #[] #[])
  fields := #[]
  methods := #[]
  instanceTypes := #[]
  staticTypes := #[]
  resolved := Array.replicate 8 none
  statics := none }

def pool5 : Array CpInfo := pool [(1, u "java/io/Serializable"), (0, .class_ 1), (0, u "java/lang/Object"), (0, .class_ 3)] 3

/-- java/io/Serializable -/
def k5 : Class := { plain "java/io/Serializable" (some 0) with
  accessFlags := 1537
  interfaces := #[]
  cf := some (fileOf pool5 2 #[] #[] 1537 4 #[] #[])
  fields := #[]
  methods := #[]
  instanceTypes := #[]
  staticTypes := #[]
  resolved := Array.replicate 8 none
  statics := none }

/-- the primitive byte -/
def k6 : Class := { plain "byte" none with kind := .primitive 'B', accessFlags := 0x411 }
/-- [B -/
def k7 : Class := { plain "[B" (some 0) with kind := .array 6 .byte, interfaces := #[4, 5], accessFlags := 1041 }

/-- the primitive int -/
def k8 : Class := { plain "int" none with kind := .primitive 'I', accessFlags := 0x411 }
/-- [I -/
def k9 : Class := { plain "[I" (some 0) with kind := .array 8 .int, interfaces := #[4, 5], accessFlags := 1041 }

def heap : Heap := #[{ cls := 3, slots := #[.int 0, .int 0, .ref 1], vm := .statics 3 },
  { cls := 9, slots := #[.int 7, .int 56, .int 448, .int 73, .int 146, .int 292, .int 273, .int 84], vm := .none }]
def classes : Array Class := #[k0, k1, k2, k3, k4, k5, k6, k7, k8, k9]
def interned : List (Array UInt16 × Addr) := []
def slotsUsed : Nat := 11
def theMethod : MethodId := ⟨1, 3⟩
def args0 : Array Value := #[.int 21, .int 42]
def aboutOver (below : List Frame) : State where
  vm := { classes := classes, interned := interned.toArray }
  heap := heap
  slotsUsed := slotsUsed
  threads := #[{ frames := .invoking theMethod args0 :: below }]
def below0 : List Frame := [.native { method := ⟨0, 0⟩, args := #[] }]
def about1 : State := aboutOver below0
def p0 : Program := .bare "" "" ""
def e0 : Env := launch0.env 0 0 0
theorem w_frames : about1.frames = Frame.invoking theMethod args0 :: below0 := rfl
set_option maxRecDepth 65536 in
theorem w_args : argsFit about1.vm theMethod args0 = true := by decide +kernel
set_option maxRecDepth 65536 in
theorem w_heap : heapFits about1 = true := by decide +kernel
set_option maxRecDepth 65536 in
theorem w_runnable : about1.curStatus? = some .runnable := by decide +kernel
set_option maxRecDepth 65536 in
theorem w_alone : about1.alone = true := by decide +kernel
set_option maxRecDepth 65536 in
theorem w_named : about1.methodNamed? x = some theMethod := by decide +kernel
set_option maxRecDepth 65536 in
theorem w_hears : about1.hears theMethod below0 = true := by decide +kernel
set_option maxRecDepth 65536 in
theorem w_ripe : about1.ripe theMethod args0 below0 = true := by decide +kernel
theorem w_running : about1.status = .running := rfl
set_option maxRecDepth 65536 in
theorem w_room : about1.hasRoom e0.platform room_1 = true :=
  launch0.hasRoom_least _ room_1 (by decide +kernel) (by decide +kernel) (by decide +kernel) (by decide +kernel) (by decide +kernel) (by decide +kernel)
theorem allAtoms_all (ts : List Jvm.Cond) (a : Array Jvm.Value) (st : Jvm.State) : (allAtoms ts).before a st = ts.all (fun c => c.before a st) := by
  induction ts with
  | nil => rfl
  | cons c t ih =>
    show (Jvm.Cond.and c (allAtoms t)).before a st = _
    rw [Jvm.Cond.before_and, ih, List.all_cons]
def words1 : List Jvm.Cond := Jvm.Cond.code x code maxLocals ret :: tables_1
/-- a 'code' word, met by the world's own term for the bytes: nothing is compared byte by byte -/
theorem code_word {y : MethodName} {bytes : ByteArray} {mx : Nat} {rt : Option FieldType} {a : Array Value} {s : State} {m : MethodId} {meth : Method} {c : Code} (h1 : s.methodNamed? y = some m) (h2 : s.vm.method? m = some meth) (h3 : meth.code = some c) (h4 : c.code = bytes)
    (h5 : (c.maxLocals == mx && c.exceptionTable.isEmpty && decide (c.maxStack ≤ mostOperands) && decide (meth.sig.returnType = rt) && !meth.locks && decide (parseMethodDescriptor y.desc = some meth.sig)) = true) : (Jvm.Cond.code y bytes mx rt).before a s = true := by
  simp only [Bool.and_eq_true, beq_iff_eq, Bool.not_eq_true', decide_eq_true_eq] at h5
  obtain ⟨⟨⟨⟨⟨g1, g2⟩, g3⟩, g4⟩, g5⟩, g6⟩ := h5
  simp [Cond.before, Cond.holds, Cond.value, h1, h2, h3, h4, g1, g2, g3, g4, g5, g6]
def isCode : Jvm.Cond → Bool
  | .code _ _ _ _ => true
  | _ => false
theorem all_split {L : List Jvm.Cond} {P : Jvm.Cond → Bool} (h1 : L.all (fun c => isCode c || P c) = true) (h2 : ∀ c ∈ L.filter isCode, P c = true) : L.all P = true := by
  refine List.all_eq_true.mpr fun c hc => ?_
  have h := List.all_eq_true.mp h1 c hc
  rcases Bool.eq_false_or_eq_true (isCode c) with hi | hi
  · exact h2 c (List.mem_filter.mpr ⟨hc, hi⟩)
  · simpa [hi] using h
set_option maxRecDepth 65536 in
theorem w_c0 : (Jvm.Cond.code x code maxLocals ret).before args0 about1 = true := code_word (m := ⟨1, 3⟩) (meth := k1m3) (c := k1c3) (by decide +kernel) rfl rfl rfl (by decide +kernel)
set_option maxRecDepth 65536 in
theorem w_c1 : (Jvm.Cond.code ({ cls := "com/example/afterstate/afterstate/tictactoe/TicTacToePosition", name := "<init>", desc := "(II)V" } : Jvm.MethodName) prog_67_method_1_code (3 : Nat) (Option.none : Option Jvm.ClassFile.FieldType)).before args0 about1 = true := code_word (m := ⟨3, 0⟩) (meth := k3m0) (c := k3c0) (by decide +kernel) rfl rfl rfl (by decide +kernel)
set_option maxRecDepth 65536 in
theorem w_c2 : (Jvm.Cond.code ({ cls := "java/lang/Object", name := "<init>", desc := "()V" } : Jvm.MethodName) object_method_1_code (1 : Nat) (Option.none : Option Jvm.ClassFile.FieldType)).before args0 about1 = true := code_word (m := ⟨0, 0⟩) (meth := k0m0) (c := k0c0) (by decide +kernel) rfl rfl rfl (by decide +kernel)
set_option maxRecDepth 65536 in
theorem w_c3 : (Jvm.Cond.code ({ cls := "com/example/afterstate/afterstate/tictactoe/TicTacToePosition", name := "completesLine", desc := "(I)Z" } : Jvm.MethodName) prog_67_method_10_code (5 : Nat) (Option.some Jvm.ClassFile.FieldType.boolean)).before args0 about1 = true := code_word (m := ⟨3, 2⟩) (meth := k3m2) (c := k3c2) (by decide +kernel) rfl rfl rfl (by decide +kernel)
set_option maxRecDepth 65536 in
theorem w_c4 : (Jvm.Cond.code ({ cls := "com/example/afterstate/afterstate/tictactoe/TicTacToePosition", name := "cells", desc := "()[I" } : Jvm.MethodName) prog_67_method_7_code (4 : Nat) (Option.some (Jvm.ClassFile.FieldType.array Jvm.ClassFile.FieldType.int))).before args0 about1 = true := code_word (m := ⟨3, 1⟩) (meth := k3m1) (c := k3c1) (by decide +kernel) rfl rfl rfl (by decide +kernel)
set_option maxRecDepth 65536 in
theorem w_c5 : (Jvm.Cond.code ({ cls := "com/example/afterstate/afterstate/tictactoe/TicTacToePositionCellsPinLaw", name := "maskOf", desc := "([II)I" } : Jvm.MethodName) method_3_code (2 : Nat) (Option.some Jvm.ClassFile.FieldType.int)).before args0 about1 = true := code_word (m := ⟨1, 2⟩) (meth := k1m2) (c := k1c2) (by decide +kernel) rfl rfl rfl (by decide +kernel)
set_option maxRecDepth 65536 in
theorem w_c6 : (Jvm.Cond.code ({ cls := "com/example/afterstate/afterstate/tictactoe/TicTacToePositionCellsPinLaw", name := "bitIf", desc := "([III)I" } : Jvm.MethodName) method_2_code (3 : Nat) (Option.some Jvm.ClassFile.FieldType.int)).before args0 about1 = true := code_word (m := ⟨1, 1⟩) (meth := k1m1) (c := k1c1) (by decide +kernel) rfl rfl rfl (by decide +kernel)
def codes1 : List Jvm.Cond := [Jvm.Cond.code x code maxLocals ret, Jvm.Cond.code ({ cls := "com/example/afterstate/afterstate/tictactoe/TicTacToePosition", name := "<init>", desc := "(II)V" } : Jvm.MethodName) prog_67_method_1_code (3 : Nat) (Option.none : Option Jvm.ClassFile.FieldType), Jvm.Cond.code ({ cls := "java/lang/Object", name := "<init>", desc := "()V" } : Jvm.MethodName) object_method_1_code (1 : Nat) (Option.none : Option Jvm.ClassFile.FieldType), Jvm.Cond.code ({ cls := "com/example/afterstate/afterstate/tictactoe/TicTacToePosition", name := "completesLine", desc := "(I)Z" } : Jvm.MethodName) prog_67_method_10_code (5 : Nat) (Option.some Jvm.ClassFile.FieldType.boolean), Jvm.Cond.code ({ cls := "com/example/afterstate/afterstate/tictactoe/TicTacToePosition", name := "cells", desc := "()[I" } : Jvm.MethodName) prog_67_method_7_code (4 : Nat) (Option.some (Jvm.ClassFile.FieldType.array Jvm.ClassFile.FieldType.int)), Jvm.Cond.code ({ cls := "com/example/afterstate/afterstate/tictactoe/TicTacToePositionCellsPinLaw", name := "maskOf", desc := "([II)I" } : Jvm.MethodName) method_3_code (2 : Nat) (Option.some Jvm.ClassFile.FieldType.int), Jvm.Cond.code ({ cls := "com/example/afterstate/afterstate/tictactoe/TicTacToePositionCellsPinLaw", name := "bitIf", desc := "([III)I" } : Jvm.MethodName) method_2_code (3 : Nat) (Option.some Jvm.ClassFile.FieldType.int)]
set_option maxRecDepth 65536 in
theorem codes_eq : words1.filter isCode = codes1 := rfl
theorem w_codes : ∀ c ∈ words1.filter isCode, c.before args0 about1 = true := by
  rw [codes_eq]
  intro c hc
  simp only [codes1, List.mem_cons, List.not_mem_nil, or_false] at hc
  rcases hc with rfl | rfl | rfl | rfl | rfl | rfl | rfl
  · exact w_c0
  · exact w_c1
  · exact w_c2
  · exact w_c3
  · exact w_c4
  · exact w_c5
  · exact w_c6
set_option maxRecDepth 65536 in
theorem w_t1 : (words1.take 24).all (fun c => isCode c || c.before args0 about1) = true := by decide +kernel
set_option maxRecDepth 65536 in
theorem w_t2 : (words1.drop 24).all (fun c => isCode c || c.before args0 about1) = true := by decide +kernel
theorem w_tables : (allAtoms (Jvm.Cond.code x code maxLocals ret :: tables_1)).before args0 about1 = true := by
  rw [allAtoms_all]
  show words1.all (fun c => c.before args0 about1) = true
  refine all_split ?_ w_codes
  rw [← List.take_append_drop 24 words1, List.all_append, w_t1, w_t2]
  rfl
set_option maxRecDepth 65536 in
theorem w_case : (Jvm.Cond.and given_1 narrow_1).before args0 about1 = true := by decide +kernel
theorem w_applies : (headSpec (Jvm.Cond.code x code maxLocals ret :: tables_1) room_1).applies x e0.platform about1 = true :=
  (Spec.applies_iff w_frames).mpr ⟨w_running, w_runnable, w_alone, w_named, w_hears, w_ripe, w_room, w_tables⟩
theorem atStart : AtStart classFile x code maxLocals ret World_1 tables_1 room_1 Calls_1 rest_1 Pre_1 launch0 p0 e0 about1 theMethod args0 below0 :=
  ⟨lists_1, trivial, launch0.admits_env _ _ _, launch0.least_env, fairChoices_fair.cas, fairChoices_fair.clock, w_frames, w_args, w_heap, w_applies, trivial, trivial, w_case⟩
end start1
theorem witness_1 : WitnessClaimed_1 := ⟨start1.p0, start1.e0, start1.about1, start1.theMethod, start1.args0, start1.below0, start1.atStart⟩
end Jvm.Pilot.@@N@@
