import JvmDerived
import JvmDerived.Pilot.@@N@@Statement
import JvmDerived.Pilot.@@N@@Code
set_option linter.unusedVariables false
set_option linter.unusedSimpArgs false
namespace Jvm.RoadKit
open Sem ClassFile Op Lib Jvm.Stand Jvm.Free Jvm.LawKit
section Own
variable {p : Program} {l : Launch} {e : Env} {R : Room} {s : State} {m : MethodId} {args : Array Value} {below : List Frame} {meth : Method} {c : Code} {T : State} {locs : List Loc} {cells slots : Nat} {Z : State} {h : Heap} {a : Addr} {k : ClassId} {n j : Int32} {vs : List Value} {dv : Value} {ty : FieldType}
theorem own_retI (X : Stand p l e R s m args below meth c T locs cells slots) (hx : p.tables.exec = Jvm.exec) {pc : Nat} {Ls : Array Slot} {z : Int32} {rest : List Value} (hret : meth.sig.returnType = some .int) (hd : decode c.code pc = .ok (.ireturn, 1)) {fs : List Frame}
    (hl : ∀ (f : JFrame) (acts : List Action), f.method = m → f.locked = none → f.entered = [] → (doReturn e (T.setTop f) acts (some (.int z))).1 = T.setFrames fs) : Steps p.tables e below (T.setTop (mkF m pc Ls (.int z :: rest))) (T.setFrames fs) :=
  retOut X hx hret rfl (Or.inl ⟨rfl, Or.inl rfl, _, rfl⟩) hd hl
/-- the run from st ends as the contract says -/
def own_Ends (p : Program) (e : Env) (below : List Frame) (s : State) (C S : Nat) (Q : Option Value → Heap → List Loc → Prop) (st : State) : Prop :=
  ∃ s₂ o, Steps p.tables e below st s₂ ∧ s₂.status = .running ∧ Ended s₂ below o ∧ ∃ v L, o = .returned v ∧ Q v s₂.heap L ∧ FrameEnd s o s₂ L C S
theorem own_step {C S : Nat} {Q : Option Value → Heap → List Loc → Prop} {st st' : State} (f : ∀ t, Steps p.tables e below st' t → Steps p.tables e below st t) (h : own_Ends p e below s C S Q st') : own_Ends p e below s C S Q st := by
  obtain ⟨s2, o, h1, h2⟩ := h
  exact ⟨s2, o, f _ h1, h2⟩
theorem own_sstep {st st' t : State} (f : ∀ t, Steps p.tables e below st' t → Steps p.tables e below st t) (h : Steps p.tables e below st' t) : Steps p.tables e below st t := f _ h
theorem own_ret (X : Stand p l e R s m args below meth c T locs cells slots) (hlocks : meth.locks = false) {C S : Nat} {Q : Option Value → Heap → List Loc → Prop} {g : JFrame} (v : Option Value) (hv : meth.sig.returnType = none → v = none)
    (st : ∀ fs, (∀ (f : JFrame) (acts : List Action), f.method = m → f.locked = none → f.entered = [] → (doReturn e (T.setTop f) acts v).1 = T.setFrames fs) → Steps p.tables e below (T.setTop g) (T.setFrames fs))
    (hQ : Q v T.heap locs) (hc : cells ≤ C) (hs : slots ≤ S) : own_Ends p e below s C S Q (T.setTop g) := by
  obtain ⟨fs, hr, hrun, hended, hW, hsame⟩ := X.leave (v := v) hv
  exact ⟨_, _, st fs hr, hrun, hended, _, _, rfl, hQ, ⟨_, rfl⟩, hW, hsame.mono hc hs⟩
theorem own_b1 {P : Prop} [Decidable P] (hp : P) : ¬ ((if P then (1 : Int32) else (0 : Int32)) = 0) := by rw [if_pos hp]; decide
theorem own_b1n {P : Prop} [Decidable P] (hp : ¬ P) : ¬ ((if P then (0 : Int32) else (1 : Int32)) = 0) := by rw [if_neg hp]; decide
theorem own_lrem {tb : Tables} [Ours tb] {target : State} {g : JFrame} (ha : At T m c below) (hx : tb.exec = Jvm.exec) (hg : g.method = m) {x y : Int64} {rest : List Value} (hd : decode c.code g.pc = .ok (.lrem, 1)) (hs : g.stack = .long y :: .long x :: rest) (hy : y ≠ 0) (hr : Steps tb e below (T.setTop { g with pc := g.pc + 1, stack := .long (x % y) :: rest }) target) : Steps tb e below (T.setTop g) target :=
  XS.lrem ha hx hg hd hs hy (by rw [lrem_mod]; exact hr)
theorem own_len (X : Stand p l e R s m args below meth c T locs cells slots) (hx : p.tables.exec = Jvm.exec) (hZ : Z.Warmed39 s.vm) (eT : T.heap = h) (A : Arv Z h a k ty n vs dv) {g : JFrame} (hg : g.method = m) {rest : List Value} (hs : g.stack = .ref a :: rest) (hd : decode c.code g.pc = .ok (.arraylength, 1)) :
    ∀ target, Steps p.tables e below (T.setTop { g with pc := g.pc + 1, stack := .int n :: rest }) target → Steps p.tables e below (T.setTop g) target := by
  obtain ⟨cl, Ar, -, S, N, -, -⟩ := A
  intro t k
  refine X.arraylength hx (by rw [eT]; exact Ar.1) (State.isArrayOf_alike hZ.alike Ar.2.1) hg hs hd t ?_
  rw [len_of S N]; exact k
theorem own_ldI (X : Stand p l e R s m args below meth c T locs cells slots) (hx : p.tables.exec = Jvm.exec) (hZ : Z.Warmed39 s.vm) (eT : T.heap = h) (A : Arv Z h a k .int n vs dv) {j : Int32} {v : Value} (hj : ¬ j < 0 ∧ j < n) (hv : vs.getD j.toNatClampNeg dv = v) {g : JFrame} (hg : g.method = m) {rest : List Value} (hs : g.stack = .int j :: .ref a :: rest) (hd : decode c.code g.pc = .ok (.iaload, 1)) :
    ∀ target, Steps p.tables e below (T.setTop { g with pc := g.pc + 1, stack := v :: rest }) target → Steps p.tables e below (T.setTop g) target := by
  obtain ⟨cl, Ar, -, S, N, H, -⟩ := A
  intro t k
  exact X.iaload hx (by rw [eT]; exact Ar.1) (State.isArrayOf_alike hZ.alike Ar.2.1) Ar.2.2 (inb_of S hj) (H.at (inb_of S hj) hv) hg hs hd t k
theorem own_ldJ (X : Stand p l e R s m args below meth c T locs cells slots) (hx : p.tables.exec = Jvm.exec) (hZ : Z.Warmed39 s.vm) (eT : T.heap = h) (A : Arv Z h a k .long n vs dv) {j : Int32} {v : Value} (hj : ¬ j < 0 ∧ j < n) (hv : vs.getD j.toNatClampNeg dv = v) {g : JFrame} (hg : g.method = m) {rest : List Value} (hs : g.stack = .int j :: .ref a :: rest) (hd : decode c.code g.pc = .ok (.laload, 1)) :
    ∀ target, Steps p.tables e below (T.setTop { g with pc := g.pc + 1, stack := v :: rest }) target → Steps p.tables e below (T.setTop g) target := by
  obtain ⟨cl, Ar, -, S, N, H, -⟩ := A
  intro t k
  exact X.laload hx (by rw [eT]; exact Ar.1) (State.isArrayOf_alike hZ.alike Ar.2.1) Ar.2.2 (inb_of S hj) (H.at (inb_of S hj) hv) hg hs hd t k
theorem own_ldC (X : Stand p l e R s m args below meth c T locs cells slots) (hx : p.tables.exec = Jvm.exec) (hZ : Z.Warmed39 s.vm) (eT : T.heap = h) (A : Arv Z h a k .char n vs dv) {j : Int32} {v : Value} (hj : ¬ j < 0 ∧ j < n) (hv : vs.getD j.toNatClampNeg dv = v) {g : JFrame} (hg : g.method = m) {rest : List Value} (hs : g.stack = .int j :: .ref a :: rest) (hd : decode c.code g.pc = .ok (.caload, 1)) :
    ∀ target, Steps p.tables e below (T.setTop { g with pc := g.pc + 1, stack := v :: rest }) target → Steps p.tables e below (T.setTop g) target := by
  obtain ⟨cl, Ar, -, S, N, H, -⟩ := A
  intro t k
  exact X.caload hx (by rw [eT]; exact Ar.1) (State.isArrayOf_alike hZ.alike Ar.2.1) Ar.2.2 (inb_of S hj) (H.at (inb_of S hj) hv) hg hs hd t k
theorem own_ldB (X : Stand p l e R s m args below meth c T locs cells slots) (hx : p.tables.exec = Jvm.exec) (hZ : Z.Warmed39 s.vm) (eT : T.heap = h) (A : Arv Z h a k .byte n vs dv) {j : Int32} {v : Value} (hj : ¬ j < 0 ∧ j < n) (hv : vs.getD j.toNatClampNeg dv = v) {g : JFrame} (hg : g.method = m) {rest : List Value} (hs : g.stack = .int j :: .ref a :: rest) (hd : decode c.code g.pc = .ok (.baload, 1)) :
    ∀ target, Steps p.tables e below (T.setTop { g with pc := g.pc + 1, stack := v :: rest }) target → Steps p.tables e below (T.setTop g) target := by
  obtain ⟨cl, Ar, -, S, N, H, -⟩ := A
  intro t k
  exact X.baloadBytes hx (by rw [eT]; exact Ar.1) (State.isArrayOf_alike hZ.alike Ar.2.1) Ar.2.2 (inb_of S hj) (H.at (inb_of S hj) hv) hg hs hd t k
theorem own_stI (X : Stand p l e R s m args below meth c T locs cells slots) (hx : p.tables.exec = Jvm.exec) (hZ : Z.Warmed39 s.vm) (eT : T.heap = h) (A : Arv Z h a k .int n vs dv) {j x : Int32} {i : Nat} (hj : ¬ j < 0 ∧ j < n) (hi : j.toNatClampNeg = i) (hl : i < vs.length) {g : JFrame} (hg : g.method = m) {rest : List Value} (hs : g.stack = .int x :: .int j :: .ref a :: rest) (hd : decode c.code g.pc = .ok (.iastore, 1)) :
    ∃ T' h', Stand p l e R s m args below meth c T' (locs ++ [⟨a, j.toNatClampNeg⟩]) cells slots ∧ T'.heap = h' ∧ Wr h h' a j.toNatClampNeg (.int x) ∧ Arv Z h' a k .int n (vs.set i (.int x)) dv ∧ ∀ target, Steps p.tables e below (T'.setTop { g with pc := g.pc + 1, stack := rest }) target → Steps p.tables e below (T.setTop g) target := by
  obtain ⟨cl, Ar, q, S, N, H, G⟩ := A
  obtain ⟨T', h', X', e', W, st⟩ := stI X hx hZ eT Ar (inb_of S hj) hg hs hd
  exact ⟨T', h', X', e', W, Arv.set Ar q S N H G rfl W i hi hl, st⟩
theorem own_stJ (X : Stand p l e R s m args below meth c T locs cells slots) (hx : p.tables.exec = Jvm.exec) (hZ : Z.Warmed39 s.vm) (eT : T.heap = h) (A : Arv Z h a k .long n vs dv) {j : Int32} {x : Int64} {i : Nat} (hj : ¬ j < 0 ∧ j < n) (hi : j.toNatClampNeg = i) (hl : i < vs.length) {g : JFrame} (hg : g.method = m) {rest : List Value} (hs : g.stack = .long x :: .int j :: .ref a :: rest) (hd : decode c.code g.pc = .ok (.lastore, 1)) :
    ∃ T' h', Stand p l e R s m args below meth c T' (locs ++ [⟨a, j.toNatClampNeg⟩]) cells slots ∧ T'.heap = h' ∧ Wr h h' a j.toNatClampNeg (.long x) ∧ Arv Z h' a k .long n (vs.set i (.long x)) dv ∧ ∀ target, Steps p.tables e below (T'.setTop { g with pc := g.pc + 1, stack := rest }) target → Steps p.tables e below (T.setTop g) target := by
  obtain ⟨cl, Ar, q, S, N, H, G⟩ := A
  obtain ⟨T', h', X', e', W, st⟩ := stJ X hx hZ eT Ar (inb_of S hj) hg hs hd
  exact ⟨T', h', X', e', W, Arv.set Ar q S N H G rfl W i hi hl, st⟩
theorem own_stB (X : Stand p l e R s m args below meth c T locs cells slots) (hx : p.tables.exec = Jvm.exec) (hZ : Z.Warmed39 s.vm) (eT : T.heap = h) (A : Arv Z h a k .byte n vs dv) {j x : Int32} {i : Nat} (hj : ¬ j < 0 ∧ j < n) (hi : j.toNatClampNeg = i) (hl : i < vs.length) {g : JFrame} (hg : g.method = m) {rest : List Value} (hs : g.stack = .int x :: .int j :: .ref a :: rest) (hd : decode c.code g.pc = .ok (.bastore, 1)) :
    ∃ T' h', Stand p l e R s m args below meth c T' (locs ++ [⟨a, j.toNatClampNeg⟩]) cells slots ∧ T'.heap = h' ∧ Wr h h' a j.toNatClampNeg (.int x.toInt8.toInt32) ∧ Arv Z h' a k .byte n (vs.set i (.int x.toInt8.toInt32)) dv ∧ ∀ target, Steps p.tables e below (T'.setTop { g with pc := g.pc + 1, stack := rest }) target → Steps p.tables e below (T.setTop g) target := by
  obtain ⟨cl, Ar, q, S, N, H, G⟩ := A
  obtain ⟨T', h', X', e', W, st⟩ := stB X hx hZ eT Ar (inb_of S hj) hg hs hd
  exact ⟨T', h', X', e', W, Arv.set Ar q S N H G (fits_nar_byte x) W i hi hl, st⟩
theorem own_stC (X : Stand p l e R s m args below meth c T locs cells slots) (hx : p.tables.exec = Jvm.exec) (hZ : Z.Warmed39 s.vm) (eT : T.heap = h) (A : Arv Z h a k .char n vs dv) {j x : Int32} {i : Nat} (hj : ¬ j < 0 ∧ j < n) (hi : j.toNatClampNeg = i) (hl : i < vs.length) {g : JFrame} (hg : g.method = m) {rest : List Value} (hs : g.stack = .int x :: .int j :: .ref a :: rest) (hd : decode c.code g.pc = .ok (.castore, 1)) :
    ∃ T' h', Stand p l e R s m args below meth c T' (locs ++ [⟨a, j.toNatClampNeg⟩]) cells slots ∧ T'.heap = h' ∧ Wr h h' a j.toNatClampNeg (.int x.toUInt32.toUInt16.toUInt32.toInt32) ∧ Arv Z h' a k .char n (vs.set i (.int x.toUInt32.toUInt16.toUInt32.toInt32)) dv ∧ ∀ target, Steps p.tables e below (T'.setTop { g with pc := g.pc + 1, stack := rest }) target → Steps p.tables e below (T.setTop g) target := by
  obtain ⟨cl, Ar, q, S, N, H, G⟩ := A
  obtain ⟨T', h', X', e', W, st⟩ := stC X hx hZ eT Ar (inb_of S hj) hg hs hd
  exact ⟨T', h', X', e', W, Arv.set Ar q S N H G (fits_nar_char x) W i hi hl, st⟩
theorem own_eqI {t : Term} {q : Int32} (hq : (Jvm.Cond.eq t (.int q)).value args s none s [] = some true) : t.eval args s none [] s = some (.int q) := by
  obtain ⟨x, y, ha, hb, k1, k2⟩ := cmp_v (Or.inl hq)
  rw [Term.int_eval] at hb
  cases hb
  obtain ⟨z, rfl⟩ := k2
  simp [Cond.value, ha, Term.eval] at hq
  rw [ha, hq]
theorem own_eqR {t u : Term} {b : Addr} (hq : (Jvm.Cond.eq t u).value args s none s [] = some true) (hu : u.eval args s none [] s = some (.ref b)) : t.eval args s none [] s = some (.ref b) := by
  obtain ⟨x, y, ha, hb, k1, k2⟩ := cmp_v (Or.inl hq)
  cases hu.symm.trans hb
  have q := gotT (eq_R ha hb k2.2 rfl) hq
  rw [ha, q]
theorem own_lenA {t : Term} {cl : Cell} {q : Int32} (ht : t.eval args s none [] s = some (.ref a)) (A : Arr s s.heap a cl ty) (hq : (Term.length t).eval args s none [] s = some (.int q)) : cl.slots.size < 2 ^ 31 ∧ cl.slots.size.toInt32 = q := by
  have ha := Arr.fin (U := s) (Vm.Alike.refl _) A
  by_cases hl : cl.slots.size < 2 ^ 31
  · rw [len_f ht ha hl] at hq
    exact ⟨hl, Value.int.inj (Option.some.inj hq)⟩
  · simp [Term.eval, ht, ha, hl] at hq
theorem own_ldR (X : Stand p l e R s m args below meth c T locs cells slots) (hx : p.tables.exec = Jvm.exec) (hZ : Z.Warmed39 s.vm) (eT : T.heap = h) (A : Arv Z h a k ty n vs dv) (hr : ty.isReference = true) {j : Int32} {v : Value} (hj : ¬ j < 0 ∧ j < n) (hv : vs.getD j.toNatClampNeg dv = v) {g : JFrame} (hg : g.method = m) {rest : List Value} (hs : g.stack = .int j :: .ref a :: rest) (hd : decode c.code g.pc = .ok (.aaload, 1)) :
    ∀ target, Steps p.tables e below (T.setTop { g with pc := g.pc + 1, stack := v :: rest }) target → Steps p.tables e below (T.setTop g) target := by
  obtain ⟨cl, Ar, -, S, N, H, -⟩ := A
  intro t k
  exact X.aaload hx (by rw [eT]; exact Ar.1) (State.isArrayOf_alike hZ.alike Ar.2.1) hr Ar.2.2 (inb_of S hj) (H.at (inb_of S hj) hv) hg hs hd t k
theorem own_nf {y y' : MethodName} (hc : y'.cls = y.cls) (w : (Jvm.Cond.instanceMethod y).before args s = true) (hn : NotFace s y) : NotFace s y' := fun r0 h0 => by
  obtain ⟨mk, methM, hnamed, -⟩ := Cond.instanceMethod_spec w
  obtain ⟨kr, h1, h2⟩ := hn mk hnamed
  have q1 := findClass_of_methodNamed hnamed
  have q2 := findClass_of_methodNamed h0
  rw [hc] at q2
  have q3 : mk.cls = r0.cls := Option.some.inj (q1.symm.trans q2)
  exact ⟨kr, q3 ▸ h1, h2⟩
theorem own_selp {y : MethodName} (w : (Jvm.Cond.instanceMethod y).before args s = true) (hn : NotFace s y) (hp : s.PrivateAt y) (hy : y.cls ≠ "java/lang/invoke/MethodHandle" ∧ y.cls ≠ "java/lang/invoke/VarHandle") : (Jvm.Cond.selects y.cls y y).before args s = true := by
  obtain ⟨mk, methM, hnamed, -⟩ := Cond.instanceMethod_spec w
  obtain ⟨kr, h1, h2⟩ := hn mk hnamed
  exact selects_self_of_private (findClass_of_methodNamed hnamed) h1 h2 hp w hy
theorem own_same {y : MethodName} (w : (Jvm.Cond.instanceMethod y).before args s = true) (hn : NotFace s y) (hy : y.cls ≠ "java/lang/invoke/MethodHandle" ∧ y.cls ≠ "java/lang/invoke/VarHandle") : (Jvm.Cond.sameMethod y.cls y.cls y.name y.desc).before args s = true := by
  obtain ⟨mk, methM, hnamed, -⟩ := Cond.instanceMethod_spec w
  obtain ⟨kr, h1, h2⟩ := hn mk hnamed
  have q1 := findClass_of_methodNamed hnamed
  have q2 := State.methodFound?_of_named hnamed hy
  have q3 : s.methodNamed? ⟨y.cls, y.name, y.desc⟩ = some mk := hnamed
  simp [Cond.before, Cond.holds, Cond.value, q1, q2, q3, h1, h2]
theorem own_stR (X : Stand p l e R s m args below meth c T locs cells slots) (hx : p.tables.exec = Jvm.exec) (hZ : Z.Warmed39 s.vm) (eT : T.heap = h) (A : Arv Z h a k ty n vs dv) (hr : ty.isReference = true) {j : Int32} {v : Value} {i : Nat} (F : Sto Z h a v) (hf : fits ty v = true) (hj : ¬ j < 0 ∧ j < n) (hi : j.toNatClampNeg = i) (hl : i < vs.length) {g : JFrame} (hg : g.method = m) {rest : List Value} (hs : g.stack = v :: .int j :: .ref a :: rest) (hd : decode c.code g.pc = .ok (.aastore, 1)) :
    ∃ T' h', Stand p l e R s m args below meth c T' (locs ++ [⟨a, j.toNatClampNeg⟩]) cells slots ∧ T'.heap = h' ∧ Wr h h' a j.toNatClampNeg v ∧ Arv Z h' a k ty n (vs.set i v) dv ∧ ∀ target, Steps p.tables e below (T'.setTop { g with pc := g.pc + 1, stack := rest }) target → Steps p.tables e below (T.setTop g) target := by
  obtain ⟨cl, Ar, q, S, N, H, G⟩ := A
  obtain ⟨T', h', X', e', W, st⟩ := stR X hx hZ eT Ar (inb_of S hj) hr F hg hs hd
  exact ⟨T', h', X', e', W, Arv.set Ar q S N H G hf W i hi hl, st⟩
theorem own_stoA {y : Addr} {C : String} {t0 : FieldType} (A : Arv Z h a k t0 n vs dv) (O : OvrA Z k ty C) (I : Ins Z h y C true) : Sto Z h a (.ref y) := by
  obtain ⟨cl, Ar, q, -⟩ := A
  exact Sto.ofVA Ar q O I
theorem own_stoV {y : Addr} {C : String} {t0 : FieldType} (A : Arv Z h a k t0 n vs dv) (O : Ovr Z k C) (I : Ins Z h y C true) : Sto Z h a (.ref y) := by
  obtain ⟨cl, Ar, q, -⟩ := A
  exact Sto.ofV Ar q O I
theorem own_getD_cp (vs vd : List Value) (dv dd : Value) (sp dp nn i : Nat) : ((vd ++ List.replicate (dp + nn) dd).take dp ++ ((List.range nn).map fun i => vs.getD (sp + i) dv) ++ (vd ++ List.replicate (dp + nn) dd).drop (dp + nn)).getD i dd = if dp ≤ i ∧ i < dp + nn then vs.getD (sp + (i - dp)) dv else vd.getD i dd := by
  have hlen : dp ≤ (vd ++ List.replicate (dp + nn) dd).length := by simp; omega
  have hpad := pad_rep vd dd (dp + nn) i
  by_cases h1 : i < dp
  · rw [if_neg (by omega), ← hpad]
    have e1 : ((vd ++ List.replicate (dp + nn) dd).take dp).length = dp := by rw [List.length_take]; omega
    rw [List.getD_eq_getElem?_getD, List.append_assoc, List.getElem?_append_left (by rw [e1]; exact h1), List.getElem?_take, if_pos h1, List.getD_eq_getElem?_getD]
  · by_cases h2 : i < dp + nn
    · rw [if_pos ⟨by omega, h2⟩]
      have e1 : ((vd ++ List.replicate (dp + nn) dd).take dp).length = dp := by rw [List.length_take]; omega
      rw [List.getD_eq_getElem?_getD, List.append_assoc, List.getElem?_append_right (by rw [e1]; omega), e1, List.getElem?_append_left (by simp; omega)]
      simp [show i - dp < nn by omega]
    · rw [if_neg (by omega), ← hpad]
      have e1 : ((vd ++ List.replicate (dp + nn) dd).take dp).length = dp := by rw [List.length_take]; omega
      rw [List.getD_eq_getElem?_getD, List.getElem?_append_right (by rw [List.length_append, e1]; simp; omega), List.getElem?_drop, List.getD_eq_getElem?_getD]
      congr 2
      rw [List.length_append, e1]; simp; omega
theorem own_cp {b : Addr} {a0 : Array Value} (X : Stand p l e R s m args below meth c T locs cells slots) (hx : p.tables.exec = Jvm.exec) (hZ : Z.Warmed39 s.vm) {own : String} {index : Nat} (hown : s.vm.findClass own = some m.cls)
    (w1 : (Cond.methodLink own index Jvm.Stand.acN).before a0 Z = true) (w2 : (Cond.native Jvm.Stand.acN).before a0 Z = true) (w3 : (Cond.static Jvm.Stand.acN).before a0 Z = true) (w4 : (Cond.initialized "java/lang/System").before a0 Z = true) (eT : T.heap = h)
    {k' : ClassId} {z z' sp dp nn : Int32} {vd : List Value} {dd : Value} (A : Arv Z h a k ty z vs dv) (B : Arv Z h b k' ty z' vd dd) (hty : refKind ty = false)
    (h1 : 0 ≤ sp.toInt) (h2 : 0 ≤ dp.toInt) (h3 : 0 ≤ nn.toInt) (h4 : sp.toInt + nn.toInt ≤ z.toInt) (h5 : dp.toInt + nn.toInt ≤ z'.toInt) {n0 : Nat} (N : Fr n0 locs) (ge : n0 ≤ b)
    {g : JFrame} (hg : g.method = m) (hsize : g.locals.size = c.maxLocals) {rest : List Value} (hs : g.stack = .int nn :: .int dp :: .ref b :: .int sp :: .ref a :: rest) (hd : decode c.code g.pc = .ok (.invokestatic index, 3))
    (hf : 1 ≤ R.frames) {W : Nat} (hW : 2 * g.monitorRoom + (rest.map fun v => v.category).sum ≤ W) (hlo : W + 18 ≤ R.locals) :
    ∃ T' h' L vd', Stand p l e R s m args below meth c T' L cells slots ∧ T'.heap = h' ∧ Fr n0 L ∧ Keep h h' [b] ∧ Arv Z h' b k' ty z' vd' dd ∧ (∀ i : Nat, vd'.getD i dd = if dp.toNatClampNeg ≤ i ∧ i < dp.toNatClampNeg + nn.toNatClampNeg then vs.getD (sp.toNatClampNeg + (i - dp.toNatClampNeg)) dv else vd.getD i dd) ∧
      ∀ target, Steps p.tables e below (T'.setTop { g with pc := g.pc + 3, stack := rest }) target → Steps p.tables e below (T.setTop g) target := by
  have e0 : (0 : Int32).toInt = 0 := by decide
  have lt : ∀ {x : Int32}, 0 ≤ x.toInt → ¬ x < 0 := fun q => by rw [Int32.lt_iff_toInt_lt]; omega
  have nz : ¬ z < 0 := lt (by omega)
  have nz' : ¬ z' < 0 := lt (by omega)
  have c1 := nat_of (lt h1); have c2 := nat_of (lt h2); have c3 := nat_of (lt h3); have c4 := nat_of nz; have c5 := nat_of nz'
  obtain ⟨T', h', L, X', e', N', K', V', st⟩ := cpA X hx hZ hown w1 w2 w3 w4 eT A (B.pad (pad_rep vd dd (dp.toNatClampNeg + nn.toNatClampNeg))) (us := _) (Or.inl ⟨rfl, hty⟩) (lt h1) (lt h2) (lt h3) (by omega) (by omega) rfl (by simp) N ge hg hsize hs hd hf hW (by exact hlo)
  exact ⟨T', h', L, _, X', e', N', K', V', fun i => own_getD_cp vs vd dv dd _ _ _ i, st⟩
end Own
end Jvm.RoadKit

namespace Jvm.Pilot.@@N@@
open Jvm Jvm.ClassFile Sem Op Lib Jvm.Free Jvm.Stand Jvm.LawKit Jvm.RoadKit Bundle Jvm.Pilot.@@N@@.Jvm.D
theorem pd_0 : parseMethodDescriptor "(II)I" = some ⟨[.int, .int], some .int⟩ := by decide +kernel
theorem pd_1 : parseMethodDescriptor "()V" = some ⟨[], none⟩ := by decide +kernel
theorem pd_2 : parseMethodDescriptor "()I" = some ⟨[], some .int⟩ := by decide +kernel
theorem pd_3 : parseMethodDescriptor "(I)V" = some ⟨[.int], none⟩ := by decide +kernel
theorem d1_0 : decode method_2_code 0 = .ok (.iload_n 1, 1) := by decide +kernel
theorem d1_1 : decode method_2_code 1 = .ok (.iconst 3, 1) := by decide +kernel
theorem d1_2 : decode method_2_code 2 = .ok (.iand, 1) := by decide +kernel
theorem d1_3 : decode method_2_code 3 = .ok (.istore_n 2, 1) := by decide +kernel
theorem d1_4 : decode method_2_code 4 = .ok (.iload_n 2, 1) := by decide +kernel
theorem d1_5 : decode method_2_code 5 = .ok (.ifCond .ne 6, 3) := by decide +kernel
theorem d1_8 : decode method_2_code 8 = .ok (.bipush 10, 2) := by decide +kernel
theorem d1_10 : decode method_2_code 10 = .ok (.ireturn, 1) := by decide +kernel
theorem d1_11 : decode method_2_code 11 = .ok (.iload_n 2, 1) := by decide +kernel
theorem d1_12 : decode method_2_code 12 = .ok (.iconst 1, 1) := by decide +kernel
theorem d1_13 : decode method_2_code 13 = .ok (.if_icmp .ne 8, 3) := by decide +kernel
theorem d1_16 : decode method_2_code 16 = .ok (.iload_n 0, 1) := by decide +kernel
theorem d1_17 : decode method_2_code 17 = .ok (.bipush 15, 2) := by decide +kernel
theorem d1_19 : decode method_2_code 19 = .ok (.iand, 1) := by decide +kernel
theorem d1_20 : decode method_2_code 20 = .ok (.ireturn, 1) := by decide +kernel
theorem d1_21 : decode method_2_code 21 = .ok (.iload_n 0, 1) := by decide +kernel
theorem d1_22 : decode method_2_code 22 = .ok (.ireturn, 1) := by decide +kernel
theorem pn_1 : plainName "com/example/lookahead/lookahead/core/TextPositionPassPinLaw" = true := by first | (simp [plainName, overriddenIn]; done) | decide +kernel
theorem ef_1_II (m : MethodId) (x0 : Int32) (x1 : Int32) : entryFrame m #[(.int x0), (.int x1)] 3 = mkF m 0 #[.val (.int x0), .val (.int x1), .unset] [] := by first | (simp [entryFrame, mkF, argsToLocals, Value.category]; done) | rfl
def Q_rm1 (Z : State) (x0 : Int32) (x1 : Int32) (h0 : Heap) (n0 : Nat) (v : Option Value) (h : Heap) (L : List Loc) : Prop := ∃ z : Int32, v = some (.int z) ∧ Fr n0 L ∧ h = h0
set_option maxRecDepth 65536 in
set_option maxHeartbeats 40000000 in
theorem rm1 (l : Launch) (Z : State) (a0 : Array Value) (hw : ∀ d ∈ tables_1, d.before a0 Z = true) (ws : List Jvm.Cond) (x0 : Int32) (x1 : Int32) (h0 : Heap) (n0 : Nat) (Z0 : n0 ≤ h0.size) :
    MetFree l (⟨"com/example/lookahead/lookahead/core/TextPositionPassPinLaw", "pick", "(II)I"⟩ : MethodName) (head1 (Jvm.Cond.code (⟨"com/example/lookahead/lookahead/core/TextPositionPassPinLaw", "pick", "(II)I"⟩ : MethodName) method_2_code 3 (some .int) :: ws) ({ frames := 0, cells := 0, slots := 0, locals := 0 } : Room)) (fun a U => a = #[(.int x0), (.int x1)] ∧ Z.Warmed39 U.vm ∧ U.heap = h0) (fun _ _ _ _ _ => True) (fun _ U o U' => ∃ v L, o = .returned v ∧ Q_rm1 Z x0 x1 h0 n0 v U'.heap L ∧ FrameEnd U o U' L ({ frames := 0, cells := 0, slots := 0, locals := 0 } : Room).cells ({ frames := 0, cells := 0, slots := 0, locals := 0 } : Room).slots) := by
  refine MetFree.of_bodySF (plainFor_of_name pn_1) hisR ?_
  intro p e s m args below meth c s₁ Bd hml0 hP hK
  obtain ⟨rfl, hZ, hh⟩ := hP
  have hx := Bd.exec
  have hby := Bd.bytes
  have hml : c.maxLocals = 3 := hml0
  have hown : s.vm.findClass "com/example/lookahead/lookahead/core/TextPositionPassPinLaw" = some m.cls := findClass_of_methodNamed Bd.named
  have hnm := (name_of_methodNamed Bd.named Bd.method).1
  have X0 : Stand p l e ({ frames := 0, cells := 0, slots := 0, locals := 0 } : Room) s m #[(.int x0), (.int x1)] below meth c s₁ [] 0 0 := Stand.of_body Bd
  have e0 : s₁.heap = h0 := by rw [← hh, Bd.state]; rfl
  have N0 := Fr.nil n0
  show own_Ends p e below s ({ frames := 0, cells := 0, slots := 0, locals := 0 } : Room).cells ({ frames := 0, cells := 0, slots := 0, locals := 0 } : Room).slots (Q_rm1 Z x0 x1 h0 n0) (s₁.setTop (entryFrame m #[(.int x0), (.int x1)] 3))
  rw [ef_1_II]
  refine own_step (st' := s₁.setTop (mkF m 1 #[.val (.int x0), .val (.int x1), .unset] [(.int x1)])) (fun t k => XS.iloadN X0.here hx rfl (hb hby d1_0) rfl k) ?_
  refine own_step (st' := s₁.setTop (mkF m 2 #[.val (.int x0), .val (.int x1), .unset] [(.int (3 : Int32)), (.int x1)])) (fun t k => XS.iconst X0.here hx rfl (hb hby d1_1) k) ?_
  refine own_step (st' := s₁.setTop (mkF m 3 #[.val (.int x0), .val (.int x1), .unset] [(.int (x1 &&& (3 : Int32)))])) (fun t k => XS.iand X0.here hx rfl (hb hby d1_2) rfl k) ?_
  refine own_step (st' := s₁.setTop (mkF m 4 #[.val (.int x0), .val (.int x1), .val (.int (x1 &&& (3 : Int32)))] [])) (fun t k => XS.istoreN X0.here hx rfl (hb hby d1_3) rfl (l' := #[.val (.int x0), .val (.int x1), .val (.int (x1 &&& (3 : Int32)))]) rfl k) ?_
  refine own_step (st' := s₁.setTop (mkF m 5 #[.val (.int x0), .val (.int x1), .val (.int (x1 &&& (3 : Int32)))] [(.int (x1 &&& (3 : Int32)))])) (fun t k => XS.iloadN X0.here hx rfl (hb hby d1_4) rfl k) ?_
  by_cases hc1 : (x1 &&& (3 : Int32)) = (0 : Int32)
  · refine own_step (st' := s₁.setTop (mkF m 8 #[.val (.int x0), .val (.int x1), .val (.int (x1 &&& (3 : Int32)))] [])) (fun t k => XS.ifNo X0.here hx rfl (hb hby d1_5) rfl ((if0 _ _).trans (teq hc1).2) k) ?_
    refine own_step (st' := s₁.setTop (mkF m 10 #[.val (.int x0), .val (.int x1), .val (.int (x1 &&& (3 : Int32)))] [(.int (10 : Int32))])) (fun t k => XS.bipush X0.here hx rfl (hb hby d1_8) k) ?_
    refine own_ret X0 Bd.notSynchronized (some (.int (10 : Int32))) (fun h => by rw [Bd.returns] at h; cases h) (fun fs hr => own_retI X0 hx Bd.returns (hb hby d1_10) hr) ?_ (by decide) (by decide)
    rw [e0]
    exact ⟨(10 : Int32), rfl, N0, rfl⟩
  · refine own_step (st' := s₁.setTop (mkF m 11 #[.val (.int x0), .val (.int x1), .val (.int (x1 &&& (3 : Int32)))] [])) (fun t k => XS.ifYes X0.here hx rfl (pc0 := 5) (pc' := 11) rfl (hb hby d1_5) rfl ((if0 _ _).trans (feq hc1).2) (by decide) (by decide) k) ?_
    refine own_step (st' := s₁.setTop (mkF m 12 #[.val (.int x0), .val (.int x1), .val (.int (x1 &&& (3 : Int32)))] [(.int (x1 &&& (3 : Int32)))])) (fun t k => XS.iloadN X0.here hx rfl (hb hby d1_11) rfl k) ?_
    refine own_step (st' := s₁.setTop (mkF m 13 #[.val (.int x0), .val (.int x1), .val (.int (x1 &&& (3 : Int32)))] [(.int (1 : Int32)), (.int (x1 &&& (3 : Int32)))])) (fun t k => XS.iconst X0.here hx rfl (hb hby d1_12) k) ?_
    by_cases hc2 : (x1 &&& (3 : Int32)) = (1 : Int32)
    · refine own_step (st' := s₁.setTop (mkF m 16 #[.val (.int x0), .val (.int x1), .val (.int (x1 &&& (3 : Int32)))] [])) (fun t k => XS.icmpNo X0.here hx rfl (hb hby d1_13) rfl (teq hc2).2 k) ?_
      refine own_step (st' := s₁.setTop (mkF m 17 #[.val (.int x0), .val (.int x1), .val (.int (x1 &&& (3 : Int32)))] [(.int x0)])) (fun t k => XS.iloadN X0.here hx rfl (hb hby d1_16) rfl k) ?_
      refine own_step (st' := s₁.setTop (mkF m 19 #[.val (.int x0), .val (.int x1), .val (.int (x1 &&& (3 : Int32)))] [(.int (15 : Int32)), (.int x0)])) (fun t k => XS.bipush X0.here hx rfl (hb hby d1_17) k) ?_
      refine own_step (st' := s₁.setTop (mkF m 20 #[.val (.int x0), .val (.int x1), .val (.int (x1 &&& (3 : Int32)))] [(.int (x0 &&& (15 : Int32)))])) (fun t k => XS.iand X0.here hx rfl (hb hby d1_19) rfl k) ?_
      refine own_ret X0 Bd.notSynchronized (some (.int (x0 &&& (15 : Int32)))) (fun h => by rw [Bd.returns] at h; cases h) (fun fs hr => own_retI X0 hx Bd.returns (hb hby d1_20) hr) ?_ (by decide) (by decide)
      rw [e0]
      exact ⟨(x0 &&& (15 : Int32)), rfl, N0, rfl⟩
    · refine own_step (st' := s₁.setTop (mkF m 21 #[.val (.int x0), .val (.int x1), .val (.int (x1 &&& (3 : Int32)))] [])) (fun t k => XS.icmpYes X0.here hx rfl (pc0 := 13) (pc' := 21) rfl (hb hby d1_13) rfl (feq hc2).2 (by decide) (by decide) k) ?_
      refine own_step (st' := s₁.setTop (mkF m 22 #[.val (.int x0), .val (.int x1), .val (.int (x1 &&& (3 : Int32)))] [(.int x0)])) (fun t k => XS.iloadN X0.here hx rfl (hb hby d1_21) rfl k) ?_
      refine own_ret X0 Bd.notSynchronized (some (.int x0)) (fun h => by rw [Bd.returns] at h; cases h) (fun fs hr => own_retI X0 hx Bd.returns (hb hby d1_22) hr) ?_ (by decide) (by decide)
      rw [e0]
      exact ⟨x0, rfl, N0, rfl⟩
theorem d2_0 : decode prog_49_method_1_code 0 = .ok (.aload_n 0, 1) := by decide +kernel
theorem d2_1 : decode prog_49_method_1_code 1 = .ok (.invokespecial 1, 3) := by decide +kernel
theorem d2_4 : decode prog_49_method_1_code 4 = .ok (.aload_n 0, 1) := by decide +kernel
theorem d2_5 : decode prog_49_method_1_code 5 = .ok (.iconst 1, 1) := by decide +kernel
theorem d2_6 : decode prog_49_method_1_code 6 = .ok (.putfield 7, 3) := by decide +kernel
theorem d2_9 : decode prog_49_method_1_code 9 = .ok (.aload_n 0, 1) := by decide +kernel
theorem d2_10 : decode prog_49_method_1_code 10 = .ok (.iconst 1, 1) := by decide +kernel
theorem d2_11 : decode prog_49_method_1_code 11 = .ok (.putfield 13, 3) := by decide +kernel
theorem d2_14 : decode prog_49_method_1_code 14 = .ok (.return_, 1) := by decide +kernel
theorem pn_0 : plainName "com/example/lookahead/lookahead/core/TextPosition" = true := by first | (simp [plainName, overriddenIn]; done) | decide +kernel
theorem ef_2_R (m : MethodId) (x0 : Addr) : entryFrame m #[(.ref x0)] 1 = mkF m 0 #[.val (.ref x0)] [] := by first | (simp [entryFrame, mkF, argsToLocals, Value.category]; done) | rfl
def Q_rm2 (Z : State) (x0 : Addr) (h0 : Heap) (n0 : Nat) (v : Option Value) (h : Heap) (L : List Loc) : Prop := v = none ∧ Fr n0 L ∧ Keep h0 h [x0] ∧ Fld Z h x0 "com/example/lookahead/lookahead/core/TextPosition" "line" "I" (.int (1 : Int32)) ∧ Fld Z h x0 "com/example/lookahead/lookahead/core/TextPosition" "column" "I" (.int (1 : Int32))
set_option maxRecDepth 65536 in
set_option maxHeartbeats 40000000 in
theorem rm2 (l : Launch) (Z : State) (a0 : Array Value) (hw : ∀ d ∈ tables_1, d.before a0 Z = true) (ws : List Jvm.Cond) (x0 : Addr) (h0 : Heap) (n0 : Nat) (Z0 : n0 ≤ h0.size) (p_0 : Fld Z h0 x0 "com/example/lookahead/lookahead/core/TextPosition" "line" "I" (.int (0 : Int32))) (p_1 : Fld Z h0 x0 "com/example/lookahead/lookahead/core/TextPosition" "column" "I" (.int (0 : Int32))) (p_2 : Exa Z h0 x0 "com/example/lookahead/lookahead/core/TextPosition") (p_3 : n0 ≤ x0) :
    MetFree l (⟨"com/example/lookahead/lookahead/core/TextPosition", "<init>", "()V"⟩ : MethodName) (head1 (Jvm.Cond.code (⟨"com/example/lookahead/lookahead/core/TextPosition", "<init>", "()V"⟩ : MethodName) prog_49_method_1_code 1 none :: ws) ({ frames := 1, cells := 0, slots := 0, locals := 12 } : Room)) (fun a U => a = #[(.ref x0)] ∧ Z.Warmed39 U.vm ∧ U.heap = h0) (fun _ _ _ _ _ => True) (fun _ U o U' => ∃ v L, o = .returned v ∧ Q_rm2 Z x0 h0 n0 v U'.heap L ∧ FrameEnd U o U' L ({ frames := 1, cells := 0, slots := 0, locals := 12 } : Room).cells ({ frames := 1, cells := 0, slots := 0, locals := 12 } : Room).slots) := by
  refine MetFree.of_bodySF (plainFor_of_name pn_0) hisR ?_
  intro p e s m args below meth c s₁ Bd hml0 hP hK
  obtain ⟨rfl, hZ, hh⟩ := hP
  have hx := Bd.exec
  have hby := Bd.bytes
  have hml : c.maxLocals = 1 := hml0
  have hown : s.vm.findClass "com/example/lookahead/lookahead/core/TextPosition" = some m.cls := findClass_of_methodNamed Bd.named
  have hnm := (name_of_methodNamed Bd.named Bd.method).1
  have X0 : Stand p l e ({ frames := 1, cells := 0, slots := 0, locals := 12 } : Room) s m #[(.ref x0)] below meth c s₁ [] 0 0 := Stand.of_body Bd
  have e0 : s₁.heap = h0 := by rw [← hh, Bd.state]; rfl
  have N0 := Fr.nil n0
  show own_Ends p e below s ({ frames := 1, cells := 0, slots := 0, locals := 12 } : Room).cells ({ frames := 1, cells := 0, slots := 0, locals := 12 } : Room).slots (Q_rm2 Z x0 h0 n0) (s₁.setTop (entryFrame m #[(.ref x0)] 1))
  rw [ef_2_R]
  refine own_step (st' := s₁.setTop (mkF m 1 #[.val (.ref x0)] [(.ref x0)])) (fun t k => XS.aloadN X0.here hx rfl (hb hby d2_0) rfl rfl k) ?_
  obtain ⟨T1, X1, e1, st1⟩ := initO X0 hx hZ hown (hw _ (List.mem_of_getElem? (i := 10) rfl)) (hw _ (List.mem_of_getElem? (i := 11) rfl)) (hw _ (List.mem_of_getElem? (i := 12) rfl)) e0 (g := (mkF m 1 #[.val (.ref x0)] [(.ref x0)])) rfl (by rw [hml]; rfl) rfl (hb hby d2_1) (by decide) (W := 0) (by show 2 * 0 + _ ≤ _; exact Nat.le_of_eq rfl) (by decide)
  refine own_step (st' := T1.setTop (mkF m 4 #[.val (.ref x0)] [])) st1 ?_
  refine own_step (st' := T1.setTop (mkF m 5 #[.val (.ref x0)] [(.ref x0)])) (fun t k => XS.aloadN X1.here hx rfl (hb hby d2_4) rfl rfl k) ?_
  refine own_step (st' := T1.setTop (mkF m 6 #[.val (.ref x0)] [(.int (1 : Int32)), (.ref x0)])) (fun t k => XS.iconst X1.here hx rfl (hb hby d2_5) k) ?_
  obtain ⟨T2, h2, X2, e2, W2, st2⟩ := putF X1 hx hZ hown (host := "") (Or.inl (hw _ (List.mem_of_getElem? (i := 13) rfl))) Via.refl e1 p_0 p_2 (Or.inl (hw _ (List.mem_of_getElem? (i := 14) rfl))) (hw _ (List.mem_of_getElem? (i := 5) rfl)) (ty := .int) (by decide) rfl rfl (g := (mkF m 6 #[.val (.ref x0)] [(.int (1 : Int32)), (.ref x0)])) rfl rfl (hb hby d2_6)
  have F2 := p_0.same W2
  have f3 := p_1.other W2 (Or.inr (slot_ne (Or.inl (hw _ (List.mem_of_getElem? (i := 16) rfl))) (Or.inl (hw _ (List.mem_of_getElem? (i := 14) rfl))) (by decide) (t := .int) (t' := .int) (by decide) (by decide)))
  have f4 := p_2.wr W2
  have K5 : Keep h0 h2 [x0] := (Keep.refl h0 [x0]).wr W2 (Or.inl (List.mem_of_getElem? (i := 0) rfl))
  have Z6 : n0 ≤ h2.size := Nat.le_trans Z0 (Keep.of_wr W2).1
  have N7 := Fr.snoc X2 N0 p_3
  refine own_step (st' := T2.setTop (mkF m 9 #[.val (.ref x0)] [])) st2 ?_
  refine own_step (st' := T2.setTop (mkF m 10 #[.val (.ref x0)] [(.ref x0)])) (fun t k => XS.aloadN X2.here hx rfl (hb hby d2_9) rfl rfl k) ?_
  refine own_step (st' := T2.setTop (mkF m 11 #[.val (.ref x0)] [(.int (1 : Int32)), (.ref x0)])) (fun t k => XS.iconst X2.here hx rfl (hb hby d2_10) k) ?_
  obtain ⟨T8, h8, X8, e8, W8, st8⟩ := putF X2 hx hZ hown (host := "") (Or.inl (hw _ (List.mem_of_getElem? (i := 15) rfl))) Via.refl e2 f3 f4 (Or.inl (hw _ (List.mem_of_getElem? (i := 16) rfl))) (hw _ (List.mem_of_getElem? (i := 5) rfl)) (ty := .int) (by decide) rfl rfl (g := (mkF m 11 #[.val (.ref x0)] [(.int (1 : Int32)), (.ref x0)])) rfl rfl (hb hby d2_11)
  have F8 := f3.same W8
  have f9 := f4.wr W8
  have f10 := F2.other W8 (Or.inr (slot_ne (Or.inl (hw _ (List.mem_of_getElem? (i := 14) rfl))) (Or.inl (hw _ (List.mem_of_getElem? (i := 16) rfl))) (by decide) (t := .int) (t' := .int) (by decide) (by decide)))
  have K11 : Keep h0 h8 [x0] := K5.wr W8 (Or.inl (List.mem_of_getElem? (i := 0) rfl))
  have Z12 : n0 ≤ h8.size := Nat.le_trans Z6 (Keep.of_wr W8).1
  have N13 := Fr.snoc X8 N7 p_3
  refine own_step (st' := T8.setTop (mkF m 14 #[.val (.ref x0)] [])) st8 ?_
  refine own_ret X8 Bd.notSynchronized (none) (fun _ => rfl) (fun fs hr => X8.returnOut hx Bd.returns (hb hby d2_14) hr) ?_ (by decide) (by decide)
  rw [e8]
  exact ⟨rfl, N13, K11, f10, F8⟩
theorem d4_0 : decode prog_49_method_4_code 0 = .ok (.aload_n 0, 1) := by decide +kernel
theorem d4_1 : decode prog_49_method_4_code 1 = .ok (.getfield 7, 3) := by decide +kernel
theorem d4_4 : decode prog_49_method_4_code 4 = .ok (.ireturn, 1) := by decide +kernel
theorem ef_4_R (m : MethodId) (x0 : Addr) : entryFrame m #[(.ref x0)] 1 = mkF m 0 #[.val (.ref x0)] [] := by first | (simp [entryFrame, mkF, argsToLocals, Value.category]; done) | rfl
def Q_rm4 (Z : State) (x0 : Addr) (n : Int32) (h0 : Heap) (n0 : Nat) (v : Option Value) (h : Heap) (L : List Loc) : Prop := v = some (.int n) ∧ Fr n0 L ∧ h = h0
set_option maxRecDepth 65536 in
set_option maxHeartbeats 40000000 in
theorem rm4 (l : Launch) (Z : State) (a0 : Array Value) (hw : ∀ d ∈ tables_1, d.before a0 Z = true) (ws : List Jvm.Cond) (x0 : Addr) (n : Int32) (h0 : Heap) (n0 : Nat) (Z0 : n0 ≤ h0.size) (p_0 : Fld Z h0 x0 "com/example/lookahead/lookahead/core/TextPosition" "line" "I" (.int n)) :
    MetFree l (⟨"com/example/lookahead/lookahead/core/TextPosition", "line", "()I"⟩ : MethodName) (head1 (Jvm.Cond.code (⟨"com/example/lookahead/lookahead/core/TextPosition", "line", "()I"⟩ : MethodName) prog_49_method_4_code 1 (some .int) :: ws) ({ frames := 0, cells := 0, slots := 0, locals := 0 } : Room)) (fun a U => a = #[(.ref x0)] ∧ Z.Warmed39 U.vm ∧ U.heap = h0) (fun _ _ _ _ _ => True) (fun _ U o U' => ∃ v L, o = .returned v ∧ Q_rm4 Z x0 n h0 n0 v U'.heap L ∧ FrameEnd U o U' L ({ frames := 0, cells := 0, slots := 0, locals := 0 } : Room).cells ({ frames := 0, cells := 0, slots := 0, locals := 0 } : Room).slots) := by
  refine MetFree.of_bodySF (plainFor_of_name pn_0) hisR ?_
  intro p e s m args below meth c s₁ Bd hml0 hP hK
  obtain ⟨rfl, hZ, hh⟩ := hP
  have hx := Bd.exec
  have hby := Bd.bytes
  have hml : c.maxLocals = 1 := hml0
  have hown : s.vm.findClass "com/example/lookahead/lookahead/core/TextPosition" = some m.cls := findClass_of_methodNamed Bd.named
  have hnm := (name_of_methodNamed Bd.named Bd.method).1
  have X0 : Stand p l e ({ frames := 0, cells := 0, slots := 0, locals := 0 } : Room) s m #[(.ref x0)] below meth c s₁ [] 0 0 := Stand.of_body Bd
  have e0 : s₁.heap = h0 := by rw [← hh, Bd.state]; rfl
  have N0 := Fr.nil n0
  show own_Ends p e below s ({ frames := 0, cells := 0, slots := 0, locals := 0 } : Room).cells ({ frames := 0, cells := 0, slots := 0, locals := 0 } : Room).slots (Q_rm4 Z x0 n h0 n0) (s₁.setTop (entryFrame m #[(.ref x0)] 1))
  rw [ef_4_R]
  refine own_step (st' := s₁.setTop (mkF m 1 #[.val (.ref x0)] [(.ref x0)])) (fun t k => XS.aloadN X0.here hx rfl (hb hby d4_0) rfl rfl k) ?_
  obtain ⟨T1, X1, e1, st1⟩ := getF X0 hx hZ hown (host := "") (Or.inl (hw _ (List.mem_of_getElem? (i := 13) rfl))) Via.refl e0 p_0 (g := (mkF m 1 #[.val (.ref x0)] [(.ref x0)])) rfl rfl (hb hby d4_1)
  refine own_step (st' := T1.setTop (mkF m 4 #[.val (.ref x0)] [(.int n)])) st1 ?_
  refine own_ret X1 Bd.notSynchronized (some (.int n)) (fun h => by rw [Bd.returns] at h; cases h) (fun fs hr => own_retI X1 hx Bd.returns (hb hby d4_4) hr) ?_ (by decide) (by decide)
  rw [e1]
  exact ⟨rfl, N0, rfl⟩
theorem d5_0 : decode prog_49_method_5_code 0 = .ok (.aload_n 0, 1) := by decide +kernel
theorem d5_1 : decode prog_49_method_5_code 1 = .ok (.getfield 13, 3) := by decide +kernel
theorem d5_4 : decode prog_49_method_5_code 4 = .ok (.ireturn, 1) := by decide +kernel
theorem ef_5_R (m : MethodId) (x0 : Addr) : entryFrame m #[(.ref x0)] 1 = mkF m 0 #[.val (.ref x0)] [] := by first | (simp [entryFrame, mkF, argsToLocals, Value.category]; done) | rfl
def Q_rm5 (Z : State) (x0 : Addr) (n : Int32) (h0 : Heap) (n0 : Nat) (v : Option Value) (h : Heap) (L : List Loc) : Prop := v = some (.int n) ∧ Fr n0 L ∧ h = h0
set_option maxRecDepth 65536 in
set_option maxHeartbeats 40000000 in
theorem rm5 (l : Launch) (Z : State) (a0 : Array Value) (hw : ∀ d ∈ tables_1, d.before a0 Z = true) (ws : List Jvm.Cond) (x0 : Addr) (n : Int32) (h0 : Heap) (n0 : Nat) (Z0 : n0 ≤ h0.size) (p_0 : Fld Z h0 x0 "com/example/lookahead/lookahead/core/TextPosition" "column" "I" (.int n)) :
    MetFree l (⟨"com/example/lookahead/lookahead/core/TextPosition", "column", "()I"⟩ : MethodName) (head1 (Jvm.Cond.code (⟨"com/example/lookahead/lookahead/core/TextPosition", "column", "()I"⟩ : MethodName) prog_49_method_5_code 1 (some .int) :: ws) ({ frames := 0, cells := 0, slots := 0, locals := 0 } : Room)) (fun a U => a = #[(.ref x0)] ∧ Z.Warmed39 U.vm ∧ U.heap = h0) (fun _ _ _ _ _ => True) (fun _ U o U' => ∃ v L, o = .returned v ∧ Q_rm5 Z x0 n h0 n0 v U'.heap L ∧ FrameEnd U o U' L ({ frames := 0, cells := 0, slots := 0, locals := 0 } : Room).cells ({ frames := 0, cells := 0, slots := 0, locals := 0 } : Room).slots) := by
  refine MetFree.of_bodySF (plainFor_of_name pn_0) hisR ?_
  intro p e s m args below meth c s₁ Bd hml0 hP hK
  obtain ⟨rfl, hZ, hh⟩ := hP
  have hx := Bd.exec
  have hby := Bd.bytes
  have hml : c.maxLocals = 1 := hml0
  have hown : s.vm.findClass "com/example/lookahead/lookahead/core/TextPosition" = some m.cls := findClass_of_methodNamed Bd.named
  have hnm := (name_of_methodNamed Bd.named Bd.method).1
  have X0 : Stand p l e ({ frames := 0, cells := 0, slots := 0, locals := 0 } : Room) s m #[(.ref x0)] below meth c s₁ [] 0 0 := Stand.of_body Bd
  have e0 : s₁.heap = h0 := by rw [← hh, Bd.state]; rfl
  have N0 := Fr.nil n0
  show own_Ends p e below s ({ frames := 0, cells := 0, slots := 0, locals := 0 } : Room).cells ({ frames := 0, cells := 0, slots := 0, locals := 0 } : Room).slots (Q_rm5 Z x0 n h0 n0) (s₁.setTop (entryFrame m #[(.ref x0)] 1))
  rw [ef_5_R]
  refine own_step (st' := s₁.setTop (mkF m 1 #[.val (.ref x0)] [(.ref x0)])) (fun t k => XS.aloadN X0.here hx rfl (hb hby d5_0) rfl rfl k) ?_
  obtain ⟨T1, X1, e1, st1⟩ := getF X0 hx hZ hown (host := "") (Or.inl (hw _ (List.mem_of_getElem? (i := 15) rfl))) Via.refl e0 p_0 (g := (mkF m 1 #[.val (.ref x0)] [(.ref x0)])) rfl rfl (hb hby d5_1)
  refine own_step (st' := T1.setTop (mkF m 4 #[.val (.ref x0)] [(.int n)])) st1 ?_
  refine own_ret X1 Bd.notSynchronized (some (.int n)) (fun h => by rw [Bd.returns] at h; cases h) (fun fs hr => own_retI X1 hx Bd.returns (hb hby d5_4) hr) ?_ (by decide) (by decide)
  rw [e1]
  exact ⟨rfl, N0, rfl⟩
theorem d6_0 : decode prog_49_method_2_code 0 = .ok (.iload_n 1, 1) := by decide +kernel
theorem d6_1 : decode prog_49_method_2_code 1 = .ok (.bipush 10, 2) := by decide +kernel
theorem d6_3 : decode prog_49_method_2_code 3 = .ok (.if_icmp .ne 21, 3) := by decide +kernel
theorem d6_6 : decode prog_49_method_2_code 6 = .ok (.aload_n 0, 1) := by decide +kernel
theorem d6_7 : decode prog_49_method_2_code 7 = .ok (.dup, 1) := by decide +kernel
theorem d6_8 : decode prog_49_method_2_code 8 = .ok (.getfield 7, 3) := by decide +kernel
theorem d6_11 : decode prog_49_method_2_code 11 = .ok (.iconst 1, 1) := by decide +kernel
theorem d6_12 : decode prog_49_method_2_code 12 = .ok (.iadd, 1) := by decide +kernel
theorem d6_13 : decode prog_49_method_2_code 13 = .ok (.putfield 7, 3) := by decide +kernel
theorem d6_16 : decode prog_49_method_2_code 16 = .ok (.aload_n 0, 1) := by decide +kernel
theorem d6_17 : decode prog_49_method_2_code 17 = .ok (.iconst 1, 1) := by decide +kernel
theorem d6_18 : decode prog_49_method_2_code 18 = .ok (.putfield 13, 3) := by decide +kernel
theorem d6_21 : decode prog_49_method_2_code 21 = .ok (.goto 13, 3) := by decide +kernel
theorem d6_24 : decode prog_49_method_2_code 24 = .ok (.aload_n 0, 1) := by decide +kernel
theorem d6_25 : decode prog_49_method_2_code 25 = .ok (.dup, 1) := by decide +kernel
theorem d6_26 : decode prog_49_method_2_code 26 = .ok (.getfield 13, 3) := by decide +kernel
theorem d6_29 : decode prog_49_method_2_code 29 = .ok (.iconst 1, 1) := by decide +kernel
theorem d6_30 : decode prog_49_method_2_code 30 = .ok (.iadd, 1) := by decide +kernel
theorem d6_31 : decode prog_49_method_2_code 31 = .ok (.putfield 13, 3) := by decide +kernel
theorem d6_34 : decode prog_49_method_2_code 34 = .ok (.return_, 1) := by decide +kernel
theorem ef_6_RI (m : MethodId) (x0 : Addr) (x1 : Int32) : entryFrame m #[(.ref x0), (.int x1)] 2 = mkF m 0 #[.val (.ref x0), .val (.int x1)] [] := by first | (simp [entryFrame, mkF, argsToLocals, Value.category]; done) | rfl
def Q_rm6 (Z : State) (x0 : Addr) (x1 : Int32) (n : Int32) (q : Int32) (h0 : Heap) (n0 : Nat) (v : Option Value) (h : Heap) (L : List Loc) : Prop := v = none ∧ Fr n0 L ∧ Keep h0 h [x0] ∧ Fld Z h x0 "com/example/lookahead/lookahead/core/TextPosition" "line" "I" (.int (if x1 = (10 : Int32) then (n + (1 : Int32)) else n)) ∧ Fld Z h x0 "com/example/lookahead/lookahead/core/TextPosition" "column" "I" (.int (if x1 = (10 : Int32) then (1 : Int32) else (q + (1 : Int32))))
set_option maxRecDepth 65536 in
set_option maxHeartbeats 40000000 in
theorem rm6 (l : Launch) (Z : State) (a0 : Array Value) (hw : ∀ d ∈ tables_1, d.before a0 Z = true) (ws : List Jvm.Cond) (x0 : Addr) (x1 : Int32) (n : Int32) (q : Int32) (h0 : Heap) (n0 : Nat) (Z0 : n0 ≤ h0.size) (p_0 : Fld Z h0 x0 "com/example/lookahead/lookahead/core/TextPosition" "line" "I" (.int n)) (p_1 : Fld Z h0 x0 "com/example/lookahead/lookahead/core/TextPosition" "column" "I" (.int q)) (p_2 : Exa Z h0 x0 "com/example/lookahead/lookahead/core/TextPosition") (p_3 : n0 ≤ x0) :
    MetFree l (⟨"com/example/lookahead/lookahead/core/TextPosition", "pass", "(I)V"⟩ : MethodName) (head1 (Jvm.Cond.code (⟨"com/example/lookahead/lookahead/core/TextPosition", "pass", "(I)V"⟩ : MethodName) prog_49_method_2_code 2 none :: ws) ({ frames := 0, cells := 0, slots := 0, locals := 0 } : Room)) (fun a U => a = #[(.ref x0), (.int x1)] ∧ Z.Warmed39 U.vm ∧ U.heap = h0) (fun _ _ _ _ _ => True) (fun _ U o U' => ∃ v L, o = .returned v ∧ Q_rm6 Z x0 x1 n q h0 n0 v U'.heap L ∧ FrameEnd U o U' L ({ frames := 0, cells := 0, slots := 0, locals := 0 } : Room).cells ({ frames := 0, cells := 0, slots := 0, locals := 0 } : Room).slots) := by
  refine MetFree.of_bodySF (plainFor_of_name pn_0) hisR ?_
  intro p e s m args below meth c s₁ Bd hml0 hP hK
  obtain ⟨rfl, hZ, hh⟩ := hP
  have hx := Bd.exec
  have hby := Bd.bytes
  have hml : c.maxLocals = 2 := hml0
  have hown : s.vm.findClass "com/example/lookahead/lookahead/core/TextPosition" = some m.cls := findClass_of_methodNamed Bd.named
  have hnm := (name_of_methodNamed Bd.named Bd.method).1
  have X0 : Stand p l e ({ frames := 0, cells := 0, slots := 0, locals := 0 } : Room) s m #[(.ref x0), (.int x1)] below meth c s₁ [] 0 0 := Stand.of_body Bd
  have e0 : s₁.heap = h0 := by rw [← hh, Bd.state]; rfl
  have N0 := Fr.nil n0
  show own_Ends p e below s ({ frames := 0, cells := 0, slots := 0, locals := 0 } : Room).cells ({ frames := 0, cells := 0, slots := 0, locals := 0 } : Room).slots (Q_rm6 Z x0 x1 n q h0 n0) (s₁.setTop (entryFrame m #[(.ref x0), (.int x1)] 2))
  rw [ef_6_RI]
  refine own_step (st' := s₁.setTop (mkF m 1 #[.val (.ref x0), .val (.int x1)] [(.int x1)])) (fun t k => XS.iloadN X0.here hx rfl (hb hby d6_0) rfl k) ?_
  refine own_step (st' := s₁.setTop (mkF m 3 #[.val (.ref x0), .val (.int x1)] [(.int (10 : Int32)), (.int x1)])) (fun t k => XS.bipush X0.here hx rfl (hb hby d6_1) k) ?_
  by_cases hc1 : x1 = (10 : Int32)
  · refine own_step (st' := s₁.setTop (mkF m 6 #[.val (.ref x0), .val (.int x1)] [])) (fun t k => XS.icmpNo X0.here hx rfl (hb hby d6_3) rfl (teq hc1).2 k) ?_
    refine own_step (st' := s₁.setTop (mkF m 7 #[.val (.ref x0), .val (.int x1)] [(.ref x0)])) (fun t k => XS.aloadN X0.here hx rfl (hb hby d6_6) rfl rfl k) ?_
    refine own_step (st' := s₁.setTop (mkF m 8 #[.val (.ref x0), .val (.int x1)] [(.ref x0), (.ref x0)])) (fun t k => XS.dup X0.here hx rfl (hb hby d6_7) rfl rfl k) ?_
    obtain ⟨T2, X2, e2, st2⟩ := getF X0 hx hZ hown (host := "") (Or.inl (hw _ (List.mem_of_getElem? (i := 13) rfl))) Via.refl e0 p_0 (g := (mkF m 8 #[.val (.ref x0), .val (.int x1)] [(.ref x0), (.ref x0)])) rfl rfl (hb hby d6_8)
    refine own_step (st' := T2.setTop (mkF m 11 #[.val (.ref x0), .val (.int x1)] [(.int n), (.ref x0)])) st2 ?_
    refine own_step (st' := T2.setTop (mkF m 12 #[.val (.ref x0), .val (.int x1)] [(.int (1 : Int32)), (.int n), (.ref x0)])) (fun t k => XS.iconst X2.here hx rfl (hb hby d6_11) k) ?_
    refine own_step (st' := T2.setTop (mkF m 13 #[.val (.ref x0), .val (.int x1)] [(.int (n + (1 : Int32))), (.ref x0)])) (fun t k => XS.iadd X2.here hx rfl (hb hby d6_12) rfl k) ?_
    obtain ⟨T3, h3, X3, e3, W3, st3⟩ := putF X2 hx hZ hown (host := "") (Or.inl (hw _ (List.mem_of_getElem? (i := 13) rfl))) Via.refl e2 p_0 p_2 (Or.inl (hw _ (List.mem_of_getElem? (i := 14) rfl))) (hw _ (List.mem_of_getElem? (i := 5) rfl)) (ty := .int) (by decide) rfl rfl (g := (mkF m 13 #[.val (.ref x0), .val (.int x1)] [(.int (n + (1 : Int32))), (.ref x0)])) rfl rfl (hb hby d6_13)
    have F3 := p_0.same W3
    have f4 := p_1.other W3 (Or.inr (slot_ne (Or.inl (hw _ (List.mem_of_getElem? (i := 16) rfl))) (Or.inl (hw _ (List.mem_of_getElem? (i := 14) rfl))) (by decide) (t := .int) (t' := .int) (by decide) (by decide)))
    have f5 := p_2.wr W3
    have K6 : Keep h0 h3 [x0] := (Keep.refl h0 [x0]).wr W3 (Or.inl (List.mem_of_getElem? (i := 0) rfl))
    have Z7 : n0 ≤ h3.size := Nat.le_trans Z0 (Keep.of_wr W3).1
    have N8 := Fr.snoc X3 N0 p_3
    refine own_step (st' := T3.setTop (mkF m 16 #[.val (.ref x0), .val (.int x1)] [])) st3 ?_
    refine own_step (st' := T3.setTop (mkF m 17 #[.val (.ref x0), .val (.int x1)] [(.ref x0)])) (fun t k => XS.aloadN X3.here hx rfl (hb hby d6_16) rfl rfl k) ?_
    refine own_step (st' := T3.setTop (mkF m 18 #[.val (.ref x0), .val (.int x1)] [(.int (1 : Int32)), (.ref x0)])) (fun t k => XS.iconst X3.here hx rfl (hb hby d6_17) k) ?_
    obtain ⟨T9, h9, X9, e9, W9, st9⟩ := putF X3 hx hZ hown (host := "") (Or.inl (hw _ (List.mem_of_getElem? (i := 15) rfl))) Via.refl e3 f4 f5 (Or.inl (hw _ (List.mem_of_getElem? (i := 16) rfl))) (hw _ (List.mem_of_getElem? (i := 5) rfl)) (ty := .int) (by decide) rfl rfl (g := (mkF m 18 #[.val (.ref x0), .val (.int x1)] [(.int (1 : Int32)), (.ref x0)])) rfl rfl (hb hby d6_18)
    have F9 := f4.same W9
    have f10 := f5.wr W9
    have f11 := F3.other W9 (Or.inr (slot_ne (Or.inl (hw _ (List.mem_of_getElem? (i := 14) rfl))) (Or.inl (hw _ (List.mem_of_getElem? (i := 16) rfl))) (by decide) (t := .int) (t' := .int) (by decide) (by decide)))
    have K12 : Keep h0 h9 [x0] := K6.wr W9 (Or.inl (List.mem_of_getElem? (i := 0) rfl))
    have Z13 : n0 ≤ h9.size := Nat.le_trans Z7 (Keep.of_wr W9).1
    have N14 := Fr.snoc X9 N8 p_3
    refine own_step (st' := T9.setTop (mkF m 21 #[.val (.ref x0), .val (.int x1)] [])) st9 ?_
    refine own_step (st' := T9.setTop (mkF m 34 #[.val (.ref x0), .val (.int x1)] [])) (fun t k => XS.goto X9.here hx rfl (pc0 := 21) (pc' := 34) rfl (hb hby d6_21) (by decide) (by decide) k) ?_
    refine own_ret X9 Bd.notSynchronized (none) (fun _ => rfl) (fun fs hr => X9.returnOut hx Bd.returns (hb hby d6_34) hr) ?_ (by decide) (by decide)
    rw [e9]
    exact ⟨rfl, N14, K12, (by simpa only [if_pos hc1] using f11), (by simpa only [if_pos hc1] using F9)⟩
  · refine own_step (st' := s₁.setTop (mkF m 24 #[.val (.ref x0), .val (.int x1)] [])) (fun t k => XS.icmpYes X0.here hx rfl (pc0 := 3) (pc' := 24) rfl (hb hby d6_3) rfl (feq hc1).2 (by decide) (by decide) k) ?_
    refine own_step (st' := s₁.setTop (mkF m 25 #[.val (.ref x0), .val (.int x1)] [(.ref x0)])) (fun t k => XS.aloadN X0.here hx rfl (hb hby d6_24) rfl rfl k) ?_
    refine own_step (st' := s₁.setTop (mkF m 26 #[.val (.ref x0), .val (.int x1)] [(.ref x0), (.ref x0)])) (fun t k => XS.dup X0.here hx rfl (hb hby d6_25) rfl rfl k) ?_
    obtain ⟨T15, X15, e15, st15⟩ := getF X0 hx hZ hown (host := "") (Or.inl (hw _ (List.mem_of_getElem? (i := 15) rfl))) Via.refl e0 p_1 (g := (mkF m 26 #[.val (.ref x0), .val (.int x1)] [(.ref x0), (.ref x0)])) rfl rfl (hb hby d6_26)
    refine own_step (st' := T15.setTop (mkF m 29 #[.val (.ref x0), .val (.int x1)] [(.int q), (.ref x0)])) st15 ?_
    refine own_step (st' := T15.setTop (mkF m 30 #[.val (.ref x0), .val (.int x1)] [(.int (1 : Int32)), (.int q), (.ref x0)])) (fun t k => XS.iconst X15.here hx rfl (hb hby d6_29) k) ?_
    refine own_step (st' := T15.setTop (mkF m 31 #[.val (.ref x0), .val (.int x1)] [(.int (q + (1 : Int32))), (.ref x0)])) (fun t k => XS.iadd X15.here hx rfl (hb hby d6_30) rfl k) ?_
    obtain ⟨T16, h16, X16, e16, W16, st16⟩ := putF X15 hx hZ hown (host := "") (Or.inl (hw _ (List.mem_of_getElem? (i := 15) rfl))) Via.refl e15 p_1 p_2 (Or.inl (hw _ (List.mem_of_getElem? (i := 16) rfl))) (hw _ (List.mem_of_getElem? (i := 5) rfl)) (ty := .int) (by decide) rfl rfl (g := (mkF m 31 #[.val (.ref x0), .val (.int x1)] [(.int (q + (1 : Int32))), (.ref x0)])) rfl rfl (hb hby d6_31)
    have F16 := p_1.same W16
    have f17 := p_0.other W16 (Or.inr (slot_ne (Or.inl (hw _ (List.mem_of_getElem? (i := 14) rfl))) (Or.inl (hw _ (List.mem_of_getElem? (i := 16) rfl))) (by decide) (t := .int) (t' := .int) (by decide) (by decide)))
    have f18 := p_2.wr W16
    have K19 : Keep h0 h16 [x0] := (Keep.refl h0 [x0]).wr W16 (Or.inl (List.mem_of_getElem? (i := 0) rfl))
    have Z20 : n0 ≤ h16.size := Nat.le_trans Z0 (Keep.of_wr W16).1
    have N21 := Fr.snoc X16 N0 p_3
    refine own_step (st' := T16.setTop (mkF m 34 #[.val (.ref x0), .val (.int x1)] [])) st16 ?_
    refine own_ret X16 Bd.notSynchronized (none) (fun _ => rfl) (fun fs hr => X16.returnOut hx Bd.returns (hb hby d6_34) hr) ?_ (by decide) (by decide)
    rw [e16]
    exact ⟨rfl, N21, K19, (by simpa only [if_neg hc1] using f17), (by simpa only [if_neg hc1] using F16)⟩
theorem ef_0_IIII (m : MethodId) (x0 : Int32) (x1 : Int32) (x2 : Int32) (x3 : Int32) : entryFrame m #[(.int x0), (.int x1), (.int x2), (.int x3)] maxLocals = mkF m 0 #[.val (.int x0), .val (.int x1), .val (.int x2), .val (.int x3), .unset, .unset, .unset, .unset, .unset, .unset, .unset, .unset, .unset, .unset] [] := by first | (simp [entryFrame, mkF, argsToLocals, Value.category, maxLocals]; done) | rfl
def Q_rm0 (Z : State) (x0 : Int32) (x1 : Int32) (x2 : Int32) (x3 : Int32) (h0 : Heap) (n0 : Nat) (v : Option Value) (h : Heap) (L : List Loc) : Prop := v = some (.int (1 : Int32)) ∧ Fr n0 L
set_option maxRecDepth 65536 in
set_option maxHeartbeats 40000000 in
theorem rm0 (l : Launch) (Z : State) (a0 : Array Value) (hw : ∀ d ∈ tables_1, d.before a0 Z = true) (ws : List Jvm.Cond) (x0 : Int32) (x1 : Int32) (x2 : Int32) (x3 : Int32) (h0 : Heap) (n0 : Nat) (Z0 : n0 ≤ h0.size) :
    MetFree l x (head1 (Jvm.Cond.code x code maxLocals ret :: ws) room_1) (fun a U => a = #[(.int x0), (.int x1), (.int x2), (.int x3)] ∧ Z.Warmed39 U.vm ∧ U.heap = h0) (fun _ _ _ _ _ => True) (fun _ U o U' => ∃ v L, o = .returned v ∧ Q_rm0 Z x0 x1 x2 x3 h0 n0 v U'.heap L ∧ FrameEnd U o U' L room_1.cells room_1.slots) := by
  refine MetFree.of_bodySF (plainFor_of_name pn_1) hisR ?_
  intro p e s m args below meth c s₁ Bd hml0 hP hK
  obtain ⟨rfl, hZ, hh⟩ := hP
  have hx := Bd.exec
  have hby := Bd.bytes
  have hml : c.maxLocals = 14 := hml0
  have hown : s.vm.findClass "com/example/lookahead/lookahead/core/TextPositionPassPinLaw" = some m.cls := findClass_of_methodNamed Bd.named
  have hnm := (name_of_methodNamed Bd.named Bd.method).1
  have X0 : Stand p l e room_1 s m #[(.int x0), (.int x1), (.int x2), (.int x3)] below meth c s₁ [] 0 0 := Stand.of_body Bd
  have e0 : s₁.heap = h0 := by rw [← hh, Bd.state]; rfl
  have N0 := Fr.nil n0
  show own_Ends p e below s room_1.cells room_1.slots (Q_rm0 Z x0 x1 x2 x3 h0 n0) (s₁.setTop (entryFrame m #[(.int x0), (.int x1), (.int x2), (.int x3)] maxLocals))
  rw [ef_0_IIII]
  refine own_step (st' := s₁.setTop (mkF m 1 #[.val (.int x0), .val (.int x1), .val (.int x2), .val (.int x3), .unset, .unset, .unset, .unset, .unset, .unset, .unset, .unset, .unset, .unset] [(.int x0)])) (fun t k => XS.iloadN X0.here hx rfl (hb hby at_0) rfl k) ?_
  refine own_step (st' := s₁.setTop (mkF m 2 #[.val (.int x0), .val (.int x1), .val (.int x2), .val (.int x3), .unset, .unset, .unset, .unset, .unset, .unset, .unset, .unset, .unset, .unset] [(.int x3), (.int x0)])) (fun t k => XS.iloadN X0.here hx rfl (hb hby at_1) rfl k) ?_
  obtain ⟨_, _, ⟨T1, L1, k1, n1⟩, -, X1, ⟨Lc1, hQ1, l1, y1, z1⟩, st1⟩ := Jvm.LawKit.callS X0 hx (y := (⟨"com/example/lookahead/lookahead/core/TextPositionPassPinLaw", "pick", "(II)I"⟩ : MethodName)) hown (mvT hZ (hw _ (List.mem_of_getElem? (i := 0) rfl))) (mvT hZ (hw _ (List.mem_of_getElem? (i := 1) rfl))) (mvT hZ (hw _ (List.mem_of_getElem? (i := 2) rfl))) (mvT hZ (hw _ (List.mem_of_getElem? (i := 3) rfl))) (by decide) (backOf (W := 0) (rm1 l Z a0 hw [] x0 x3 h0 n0 Z0) hZ (hw _ (List.mem_of_getElem? (i := 3) rfl)) (hw _ (List.mem_of_getElem? (i := 2) rfl)) (by decide) (by decide)) (g := (mkF m 2 #[.val (.int x0), .val (.int x1), .val (.int x2), .val (.int x3), .unset, .unset, .unset, .unset, .unset, .unset, .unset, .unset, .unset, .unset] [(.int x3), (.int x0)])) rfl (by rw [hml]; rfl) (argsL := [(.int x0), (.int x3)]) (rest := []) (lenOf pd_0 rfl) rfl (by show 2 * 0 + _ ≤ _; exact Nat.le_of_eq rfl) (hb hby at_2) (fun _ _ => ⟨rfl, e0, (by decide : 0 + 0 ≤ _), (by decide : 0 + 0 ≤ _)⟩)
  dsimp only [Pt.U, Pt.locs, Pt.cells, Pt.slots] at X1 l1 y1 z1 st1 hQ1
  subst l1 y1 z1
  obtain ⟨z_1, rfl, N1q, e1⟩ := hQ1
  have N1 := Fr.app N0 N1q
  refine own_step (st' := T1.setTop (mkF m 5 #[.val (.int x0), .val (.int x1), .val (.int x2), .val (.int x3), .unset, .unset, .unset, .unset, .unset, .unset, .unset, .unset, .unset, .unset] [(.int z_1)])) st1 ?_
  refine own_step (st' := T1.setTop (mkF m 7 #[.val (.int x0), .val (.int x1), .val (.int x2), .val (.int x3), .val (.int z_1), .unset, .unset, .unset, .unset, .unset, .unset, .unset, .unset, .unset] [])) (fun t k => XS.istore X1.here hx rfl (hb hby at_5) rfl (l' := #[.val (.int x0), .val (.int x1), .val (.int x2), .val (.int x3), .val (.int z_1), .unset, .unset, .unset, .unset, .unset, .unset, .unset, .unset, .unset]) rfl k) ?_
  refine own_step (st' := T1.setTop (mkF m 8 #[.val (.int x0), .val (.int x1), .val (.int x2), .val (.int x3), .val (.int z_1), .unset, .unset, .unset, .unset, .unset, .unset, .unset, .unset, .unset] [(.int x1)])) (fun t k => XS.iloadN X1.here hx rfl (hb hby at_7) rfl k) ?_
  refine own_step (st' := T1.setTop (mkF m 9 #[.val (.int x0), .val (.int x1), .val (.int x2), .val (.int x3), .val (.int z_1), .unset, .unset, .unset, .unset, .unset, .unset, .unset, .unset, .unset] [(.int x3), (.int x1)])) (fun t k => XS.iloadN X1.here hx rfl (hb hby at_8) rfl k) ?_
  refine own_step (st' := T1.setTop (mkF m 10 #[.val (.int x0), .val (.int x1), .val (.int x2), .val (.int x3), .val (.int z_1), .unset, .unset, .unset, .unset, .unset, .unset, .unset, .unset, .unset] [(.int (2 : Int32)), (.int x3), (.int x1)])) (fun t k => XS.iconst X1.here hx rfl (hb hby at_9) k) ?_
  refine own_step (st' := T1.setTop (mkF m 11 #[.val (.int x0), .val (.int x1), .val (.int x2), .val (.int x3), .val (.int z_1), .unset, .unset, .unset, .unset, .unset, .unset, .unset, .unset, .unset] [(.int ((x3.toUInt32 >>> ((2 : Int32) &&& 31).toUInt32).toInt32)), (.int x1)])) (fun t k => XS.iushr X1.here hx rfl (hb hby at_10) rfl k) ?_
  obtain ⟨_, _, ⟨T2, L2, k2, n2⟩, -, X2, ⟨Lc2, hQ2, l2, y2, z2⟩, st2⟩ := Jvm.LawKit.callS X1 hx (y := (⟨"com/example/lookahead/lookahead/core/TextPositionPassPinLaw", "pick", "(II)I"⟩ : MethodName)) hown (mvT hZ (hw _ (List.mem_of_getElem? (i := 0) rfl))) (mvT hZ (hw _ (List.mem_of_getElem? (i := 1) rfl))) (mvT hZ (hw _ (List.mem_of_getElem? (i := 2) rfl))) (mvT hZ (hw _ (List.mem_of_getElem? (i := 3) rfl))) (by decide) (backOf (W := 0) (rm1 l Z a0 hw [] x1 ((x3.toUInt32 >>> ((2 : Int32) &&& 31).toUInt32).toInt32) h0 n0 Z0) hZ (hw _ (List.mem_of_getElem? (i := 3) rfl)) (hw _ (List.mem_of_getElem? (i := 2) rfl)) (by decide) (by decide)) (g := (mkF m 11 #[.val (.int x0), .val (.int x1), .val (.int x2), .val (.int x3), .val (.int z_1), .unset, .unset, .unset, .unset, .unset, .unset, .unset, .unset, .unset] [(.int ((x3.toUInt32 >>> ((2 : Int32) &&& 31).toUInt32).toInt32)), (.int x1)])) rfl (by rw [hml]; rfl) (argsL := [(.int x1), (.int ((x3.toUInt32 >>> ((2 : Int32) &&& 31).toUInt32).toInt32))]) (rest := []) (lenOf pd_0 rfl) rfl (by show 2 * 0 + _ ≤ _; exact Nat.le_of_eq rfl) (hb hby at_11) (fun _ _ => ⟨rfl, e1, (by decide : 0 + 0 ≤ _), (by decide : 0 + 0 ≤ _)⟩)
  dsimp only [Pt.U, Pt.locs, Pt.cells, Pt.slots] at X2 l2 y2 z2 st2 hQ2
  subst l2 y2 z2
  obtain ⟨z_2, rfl, N2q, e2⟩ := hQ2
  have N2 := Fr.app N1 N2q
  refine own_step (st' := T2.setTop (mkF m 14 #[.val (.int x0), .val (.int x1), .val (.int x2), .val (.int x3), .val (.int z_1), .unset, .unset, .unset, .unset, .unset, .unset, .unset, .unset, .unset] [(.int z_2)])) st2 ?_
  refine own_step (st' := T2.setTop (mkF m 16 #[.val (.int x0), .val (.int x1), .val (.int x2), .val (.int x3), .val (.int z_1), .val (.int z_2), .unset, .unset, .unset, .unset, .unset, .unset, .unset, .unset] [])) (fun t k => XS.istore X2.here hx rfl (hb hby at_14) rfl (l' := #[.val (.int x0), .val (.int x1), .val (.int x2), .val (.int x3), .val (.int z_1), .val (.int z_2), .unset, .unset, .unset, .unset, .unset, .unset, .unset, .unset]) rfl k) ?_
  refine own_step (st' := T2.setTop (mkF m 17 #[.val (.int x0), .val (.int x1), .val (.int x2), .val (.int x3), .val (.int z_1), .val (.int z_2), .unset, .unset, .unset, .unset, .unset, .unset, .unset, .unset] [(.int x2)])) (fun t k => XS.iloadN X2.here hx rfl (hb hby at_16) rfl k) ?_
  refine own_step (st' := T2.setTop (mkF m 18 #[.val (.int x0), .val (.int x1), .val (.int x2), .val (.int x3), .val (.int z_1), .val (.int z_2), .unset, .unset, .unset, .unset, .unset, .unset, .unset, .unset] [(.int x3), (.int x2)])) (fun t k => XS.iloadN X2.here hx rfl (hb hby at_17) rfl k) ?_
  refine own_step (st' := T2.setTop (mkF m 19 #[.val (.int x0), .val (.int x1), .val (.int x2), .val (.int x3), .val (.int z_1), .val (.int z_2), .unset, .unset, .unset, .unset, .unset, .unset, .unset, .unset] [(.int (4 : Int32)), (.int x3), (.int x2)])) (fun t k => XS.iconst X2.here hx rfl (hb hby at_18) k) ?_
  refine own_step (st' := T2.setTop (mkF m 20 #[.val (.int x0), .val (.int x1), .val (.int x2), .val (.int x3), .val (.int z_1), .val (.int z_2), .unset, .unset, .unset, .unset, .unset, .unset, .unset, .unset] [(.int ((x3.toUInt32 >>> ((4 : Int32) &&& 31).toUInt32).toInt32)), (.int x2)])) (fun t k => XS.iushr X2.here hx rfl (hb hby at_19) rfl k) ?_
  obtain ⟨_, _, ⟨T3, L3, k3, n3⟩, -, X3, ⟨Lc3, hQ3, l3, y3, z3⟩, st3⟩ := Jvm.LawKit.callS X2 hx (y := (⟨"com/example/lookahead/lookahead/core/TextPositionPassPinLaw", "pick", "(II)I"⟩ : MethodName)) hown (mvT hZ (hw _ (List.mem_of_getElem? (i := 0) rfl))) (mvT hZ (hw _ (List.mem_of_getElem? (i := 1) rfl))) (mvT hZ (hw _ (List.mem_of_getElem? (i := 2) rfl))) (mvT hZ (hw _ (List.mem_of_getElem? (i := 3) rfl))) (by decide) (backOf (W := 0) (rm1 l Z a0 hw [] x2 ((x3.toUInt32 >>> ((4 : Int32) &&& 31).toUInt32).toInt32) h0 n0 Z0) hZ (hw _ (List.mem_of_getElem? (i := 3) rfl)) (hw _ (List.mem_of_getElem? (i := 2) rfl)) (by decide) (by decide)) (g := (mkF m 20 #[.val (.int x0), .val (.int x1), .val (.int x2), .val (.int x3), .val (.int z_1), .val (.int z_2), .unset, .unset, .unset, .unset, .unset, .unset, .unset, .unset] [(.int ((x3.toUInt32 >>> ((4 : Int32) &&& 31).toUInt32).toInt32)), (.int x2)])) rfl (by rw [hml]; rfl) (argsL := [(.int x2), (.int ((x3.toUInt32 >>> ((4 : Int32) &&& 31).toUInt32).toInt32))]) (rest := []) (lenOf pd_0 rfl) rfl (by show 2 * 0 + _ ≤ _; exact Nat.le_of_eq rfl) (hb hby at_20) (fun _ _ => ⟨rfl, e2, (by decide : 0 + 0 ≤ _), (by decide : 0 + 0 ≤ _)⟩)
  dsimp only [Pt.U, Pt.locs, Pt.cells, Pt.slots] at X3 l3 y3 z3 st3 hQ3
  subst l3 y3 z3
  obtain ⟨z_3, rfl, N3q, e3⟩ := hQ3
  have N3 := Fr.app N2 N3q
  refine own_step (st' := T3.setTop (mkF m 23 #[.val (.int x0), .val (.int x1), .val (.int x2), .val (.int x3), .val (.int z_1), .val (.int z_2), .unset, .unset, .unset, .unset, .unset, .unset, .unset, .unset] [(.int z_3)])) st3 ?_
  refine own_step (st' := T3.setTop (mkF m 25 #[.val (.int x0), .val (.int x1), .val (.int x2), .val (.int x3), .val (.int z_1), .val (.int z_2), .val (.int z_3), .unset, .unset, .unset, .unset, .unset, .unset, .unset] [])) (fun t k => XS.istore X3.here hx rfl (hb hby at_23) rfl (l' := #[.val (.int x0), .val (.int x1), .val (.int x2), .val (.int x3), .val (.int z_1), .val (.int z_2), .val (.int z_3), .unset, .unset, .unset, .unset, .unset, .unset, .unset]) rfl k) ?_
  obtain ⟨T4, h4, X4, e4, E4, A4, D4, -, st4⟩ := newO X3 hx hZ hown (hw _ (List.mem_of_getElem? (i := 4) rfl)) (hw _ (List.mem_of_getElem? (i := 5) rfl)) (hw _ (List.mem_of_getElem? (i := 6) rfl)) e3 (g := (mkF m 25 #[.val (.int x0), .val (.int x1), .val (.int x2), .val (.int x3), .val (.int z_1), .val (.int z_2), .val (.int z_3), .unset, .unset, .unset, .unset, .unset, .unset, .unset] [])) rfl (hb hby at_25) (by decide) (by decide)
  obtain ⟨b4, g4⟩ : ∃ z, z = h0.size := ⟨_, rfl⟩
  rw [← g4] at A4 D4 st4
  have g_b4 : n0 ≤ b4 := Nat.le_trans Z0 (Nat.le_of_eq g4.symm)
  have Z5 : n0 ≤ h4.size := Nat.le_trans Z0 E4.1
  have f6 : Fld Z h4 b4 "com/example/lookahead/lookahead/core/TextPosition" "line" "I" (.int (0 : Int32)) := D4 (Or.inl (hw _ (List.mem_of_getElem? (i := 14) rfl))) (ty := .int) (by decide)
  have f7 : Fld Z h4 b4 "com/example/lookahead/lookahead/core/TextPosition" "column" "I" (.int (0 : Int32)) := D4 (Or.inl (hw _ (List.mem_of_getElem? (i := 16) rfl))) (ty := .int) (by decide)
  refine own_step (st' := T4.setTop (mkF m 28 #[.val (.int x0), .val (.int x1), .val (.int x2), .val (.int x3), .val (.int z_1), .val (.int z_2), .val (.int z_3), .unset, .unset, .unset, .unset, .unset, .unset, .unset] [(.ref b4)])) st4 ?_
  refine own_step (st' := T4.setTop (mkF m 29 #[.val (.int x0), .val (.int x1), .val (.int x2), .val (.int x3), .val (.int z_1), .val (.int z_2), .val (.int z_3), .unset, .unset, .unset, .unset, .unset, .unset, .unset] [(.ref b4), (.ref b4)])) (fun t k => XS.dup X4.here hx rfl (hb hby at_28) rfl rfl k) ?_
  obtain ⟨_, _, ⟨T8, L8, k8, n8⟩, -, X8, ⟨Lc8, hQ8, l8, y8, z8⟩, st8⟩ := X4.specialBack hx (y := (⟨"com/example/lookahead/lookahead/core/TextPosition", "<init>", "()V"⟩ : MethodName)) rfl hown (mvT hZ (hw _ (List.mem_of_getElem? (i := 7) rfl))) (mvT hZ (hw _ (List.mem_of_getElem? (i := 8) rfl))) (mvT hZ (hw _ (List.mem_of_getElem? (i := 9) rfl))) (by decide) (backOf (W := 1) (rm2 l Z a0 hw [] b4 h4 n0 Z5 f6 f7 A4 g_b4) hZ (hw _ (List.mem_of_getElem? (i := 9) rfl)) (hw _ (List.mem_of_getElem? (i := 6) rfl)) (by decide) (by decide)) (g := (mkF m 29 #[.val (.int x0), .val (.int x1), .val (.int x2), .val (.int x3), .val (.int z_1), .val (.int z_2), .val (.int z_3), .unset, .unset, .unset, .unset, .unset, .unset, .unset] [(.ref b4), (.ref b4)])) rfl (by rw [hml]; rfl) (Steps.refl _) (a := b4) (argsL := []) (rest := [(.ref b4)]) (lenOf pd_1 rfl) rfl (by show 2 * 0 + _ ≤ _; exact Nat.le_of_eq rfl) (hb hby at_29) (fun _ _ => ⟨rfl, e4, (by decide : 1 + 0 ≤ _), (by decide : 2 + 0 ≤ _)⟩)
  dsimp only [Pt.U, Pt.locs, Pt.cells, Pt.slots] at X8 l8 y8 z8 st8 hQ8
  subst l8 y8 z8
  obtain ⟨rfl, N8q, K8, pq8_0, pq8_1⟩ := hQ8
  have N8 := Fr.app N3 N8q
  obtain ⟨h8, e8⟩ : ∃ z, T8.heap = z := ⟨_, rfl⟩
  rw [e8] at K8 pq8_0 pq8_1
  have f9 := A4.keep K8
  have Z10 : n0 ≤ h8.size := Nat.le_trans Z5 K8.1
  refine own_step (st' := T8.setTop (mkF m 32 #[.val (.int x0), .val (.int x1), .val (.int x2), .val (.int x3), .val (.int z_1), .val (.int z_2), .val (.int z_3), .unset, .unset, .unset, .unset, .unset, .unset, .unset] [(.ref b4)])) (fun t k => st8.trans k) ?_
  refine own_step (st' := T8.setTop (mkF m 34 #[.val (.int x0), .val (.int x1), .val (.int x2), .val (.int x3), .val (.int z_1), .val (.int z_2), .val (.int z_3), .val (.ref b4), .unset, .unset, .unset, .unset, .unset, .unset] [])) (fun t k => XS.astore X8.here hx rfl (hb hby at_32) rfl rfl (l' := #[.val (.int x0), .val (.int x1), .val (.int x2), .val (.int x3), .val (.int z_1), .val (.int z_2), .val (.int z_3), .val (.ref b4), .unset, .unset, .unset, .unset, .unset, .unset]) rfl k) ?_
  refine own_step (st' := T8.setTop (mkF m 36 #[.val (.int x0), .val (.int x1), .val (.int x2), .val (.int x3), .val (.int z_1), .val (.int z_2), .val (.int z_3), .val (.ref b4), .unset, .unset, .unset, .unset, .unset, .unset] [(.ref b4)])) (fun t k => XS.aload X8.here hx rfl (hb hby at_34) rfl rfl k) ?_
  obtain ⟨cq11, kq11, q11a, q11b, q11c⟩ := isOf hZ e8 f9
  obtain ⟨_, _, ⟨T11, L11, k11, n11⟩, -, X11, ⟨Lc11, hQ11, l11, y11, z11⟩, st11⟩ := X8.virtualBack hx (y := (⟨"com/example/lookahead/lookahead/core/TextPosition", "line", "()I"⟩ : MethodName)) (z := (⟨"com/example/lookahead/lookahead/core/TextPosition", "line", "()I"⟩ : MethodName)) hown (mvT hZ (hw _ (List.mem_of_getElem? (i := 17) rfl))) (mvT hZ (hw _ (List.mem_of_getElem? (i := 18) rfl))) (notFace_of_selects (args := #[]) (mvT hZ (hw _ (List.mem_of_getElem? (i := 20) rfl)))) (mvT hZ (hw _ (List.mem_of_getElem? (i := 20) rfl))) (mvT hZ (hw _ (List.mem_of_getElem? (i := 19) rfl))) (by decide) (backOf (W := 0) (rm4 l Z a0 hw [] b4 (1 : Int32) h8 n0 Z10 pq8_0) hZ (hw _ (List.mem_of_getElem? (i := 21) rfl)) (hw _ (List.mem_of_getElem? (i := 6) rfl)) (by decide) (by decide)) q11a q11c (g := (mkF m 36 #[.val (.int x0), .val (.int x1), .val (.int x2), .val (.int x3), .val (.int z_1), .val (.int z_2), .val (.int z_3), .val (.ref b4), .unset, .unset, .unset, .unset, .unset, .unset] [(.ref b4)])) rfl (by rw [hml]; rfl) (Steps.refl _) (argsL := []) (rest := []) (lenOf pd_2 rfl) rfl (by show 2 * 0 + _ ≤ _; exact Nat.le_of_eq rfl) (hb hby at_36) (fun _ _ => ⟨rfl, e8, (by decide : 1 + 0 ≤ _), (by decide : 2 + 0 ≤ _)⟩)
  dsimp only [Pt.U, Pt.locs, Pt.cells, Pt.slots] at X11 l11 y11 z11 st11 hQ11
  subst l11 y11 z11
  obtain ⟨rfl, N11q, e11⟩ := hQ11
  have N11 := Fr.app N8 N11q
  refine own_step (st' := T11.setTop (mkF m 39 #[.val (.int x0), .val (.int x1), .val (.int x2), .val (.int x3), .val (.int z_1), .val (.int z_2), .val (.int z_3), .val (.ref b4), .unset, .unset, .unset, .unset, .unset, .unset] [(.int (1 : Int32))])) (fun t k => st11.trans k) ?_
  refine own_step (st' := T11.setTop (mkF m 40 #[.val (.int x0), .val (.int x1), .val (.int x2), .val (.int x3), .val (.int z_1), .val (.int z_2), .val (.int z_3), .val (.ref b4), .unset, .unset, .unset, .unset, .unset, .unset] [(.int (1 : Int32)), (.int (1 : Int32))])) (fun t k => XS.iconst X11.here hx rfl (hb hby at_39) k) ?_
  refine own_step (st' := T11.setTop (mkF m 43 #[.val (.int x0), .val (.int x1), .val (.int x2), .val (.int x3), .val (.int z_1), .val (.int z_2), .val (.int z_3), .val (.ref b4), .unset, .unset, .unset, .unset, .unset, .unset] [])) (fun t k => XS.icmpNo X11.here hx rfl (hb hby at_40) rfl (teq (by decide)).2 k) ?_
  refine own_step (st' := T11.setTop (mkF m 45 #[.val (.int x0), .val (.int x1), .val (.int x2), .val (.int x3), .val (.int z_1), .val (.int z_2), .val (.int z_3), .val (.ref b4), .unset, .unset, .unset, .unset, .unset, .unset] [(.ref b4)])) (fun t k => XS.aload X11.here hx rfl (hb hby at_43) rfl rfl k) ?_
  obtain ⟨cq12, kq12, q12a, q12b, q12c⟩ := isOf hZ e11 f9
  obtain ⟨_, _, ⟨T12, L12, k12, n12⟩, -, X12, ⟨Lc12, hQ12, l12, y12, z12⟩, st12⟩ := X11.virtualBack hx (y := (⟨"com/example/lookahead/lookahead/core/TextPosition", "column", "()I"⟩ : MethodName)) (z := (⟨"com/example/lookahead/lookahead/core/TextPosition", "column", "()I"⟩ : MethodName)) hown (mvT hZ (hw _ (List.mem_of_getElem? (i := 22) rfl))) (mvT hZ (hw _ (List.mem_of_getElem? (i := 23) rfl))) (notFace_of_selects (args := #[]) (mvT hZ (hw _ (List.mem_of_getElem? (i := 25) rfl)))) (mvT hZ (hw _ (List.mem_of_getElem? (i := 25) rfl))) (mvT hZ (hw _ (List.mem_of_getElem? (i := 24) rfl))) (by decide) (backOf (W := 0) (rm5 l Z a0 hw [] b4 (1 : Int32) h8 n0 Z10 pq8_1) hZ (hw _ (List.mem_of_getElem? (i := 26) rfl)) (hw _ (List.mem_of_getElem? (i := 6) rfl)) (by decide) (by decide)) q12a q12c (g := (mkF m 45 #[.val (.int x0), .val (.int x1), .val (.int x2), .val (.int x3), .val (.int z_1), .val (.int z_2), .val (.int z_3), .val (.ref b4), .unset, .unset, .unset, .unset, .unset, .unset] [(.ref b4)])) rfl (by rw [hml]; rfl) (Steps.refl _) (argsL := []) (rest := []) (lenOf pd_2 rfl) rfl (by show 2 * 0 + _ ≤ _; exact Nat.le_of_eq rfl) (hb hby at_45) (fun _ _ => ⟨rfl, e11, (by decide : 1 + 0 ≤ _), (by decide : 2 + 0 ≤ _)⟩)
  dsimp only [Pt.U, Pt.locs, Pt.cells, Pt.slots] at X12 l12 y12 z12 st12 hQ12
  subst l12 y12 z12
  obtain ⟨rfl, N12q, e12⟩ := hQ12
  have N12 := Fr.app N11 N12q
  refine own_step (st' := T12.setTop (mkF m 48 #[.val (.int x0), .val (.int x1), .val (.int x2), .val (.int x3), .val (.int z_1), .val (.int z_2), .val (.int z_3), .val (.ref b4), .unset, .unset, .unset, .unset, .unset, .unset] [(.int (1 : Int32))])) (fun t k => st12.trans k) ?_
  refine own_step (st' := T12.setTop (mkF m 49 #[.val (.int x0), .val (.int x1), .val (.int x2), .val (.int x3), .val (.int z_1), .val (.int z_2), .val (.int z_3), .val (.ref b4), .unset, .unset, .unset, .unset, .unset, .unset] [(.int (1 : Int32)), (.int (1 : Int32))])) (fun t k => XS.iconst X12.here hx rfl (hb hby at_48) k) ?_
  refine own_step (st' := T12.setTop (mkF m 52 #[.val (.int x0), .val (.int x1), .val (.int x2), .val (.int x3), .val (.int z_1), .val (.int z_2), .val (.int z_3), .val (.ref b4), .unset, .unset, .unset, .unset, .unset, .unset] [])) (fun t k => XS.icmpNo X12.here hx rfl (hb hby at_49) rfl (teq (by decide)).2 k) ?_
  refine own_step (st' := T12.setTop (mkF m 53 #[.val (.int x0), .val (.int x1), .val (.int x2), .val (.int x3), .val (.int z_1), .val (.int z_2), .val (.int z_3), .val (.ref b4), .unset, .unset, .unset, .unset, .unset, .unset] [(.int (1 : Int32))])) (fun t k => XS.iconst X12.here hx rfl (hb hby at_52) k) ?_
  refine own_step (st' := T12.setTop (mkF m 57 #[.val (.int x0), .val (.int x1), .val (.int x2), .val (.int x3), .val (.int z_1), .val (.int z_2), .val (.int z_3), .val (.ref b4), .unset, .unset, .unset, .unset, .unset, .unset] [(.int (1 : Int32))])) (fun t k => XS.goto X12.here hx rfl (pc0 := 53) (pc' := 57) rfl (hb hby at_53) (by decide) (by decide) k) ?_
  refine own_step (st' := T12.setTop (mkF m 59 #[.val (.int x0), .val (.int x1), .val (.int x2), .val (.int x3), .val (.int z_1), .val (.int z_2), .val (.int z_3), .val (.ref b4), .val (.int (1 : Int32)), .unset, .unset, .unset, .unset, .unset] [])) (fun t k => XS.istore X12.here hx rfl (hb hby at_57) rfl (l' := #[.val (.int x0), .val (.int x1), .val (.int x2), .val (.int x3), .val (.int z_1), .val (.int z_2), .val (.int z_3), .val (.ref b4), .val (.int (1 : Int32)), .unset, .unset, .unset, .unset, .unset]) rfl k) ?_
  refine own_step (st' := T12.setTop (mkF m 61 #[.val (.int x0), .val (.int x1), .val (.int x2), .val (.int x3), .val (.int z_1), .val (.int z_2), .val (.int z_3), .val (.ref b4), .val (.int (1 : Int32)), .unset, .unset, .unset, .unset, .unset] [(.ref b4)])) (fun t k => XS.aload X12.here hx rfl (hb hby at_59) rfl rfl k) ?_
  refine own_step (st' := T12.setTop (mkF m 63 #[.val (.int x0), .val (.int x1), .val (.int x2), .val (.int x3), .val (.int z_1), .val (.int z_2), .val (.int z_3), .val (.ref b4), .val (.int (1 : Int32)), .unset, .unset, .unset, .unset, .unset] [(.int z_1), (.ref b4)])) (fun t k => XS.iload X12.here hx rfl (hb hby at_61) rfl k) ?_
  obtain ⟨cq13, kq13, q13a, q13b, q13c⟩ := isOf hZ e12 f9
  obtain ⟨_, _, ⟨T13, L13, k13, n13⟩, -, X13, ⟨Lc13, hQ13, l13, y13, z13⟩, st13⟩ := X12.virtualBack hx (y := (⟨"com/example/lookahead/lookahead/core/TextPosition", "pass", "(I)V"⟩ : MethodName)) (z := (⟨"com/example/lookahead/lookahead/core/TextPosition", "pass", "(I)V"⟩ : MethodName)) hown (mvT hZ (hw _ (List.mem_of_getElem? (i := 27) rfl))) (mvT hZ (hw _ (List.mem_of_getElem? (i := 28) rfl))) (notFace_of_selects (args := #[]) (mvT hZ (hw _ (List.mem_of_getElem? (i := 30) rfl)))) (mvT hZ (hw _ (List.mem_of_getElem? (i := 30) rfl))) (mvT hZ (hw _ (List.mem_of_getElem? (i := 29) rfl))) (by decide) (backOf (W := 0) (rm6 l Z a0 hw [] b4 z_1 (1 : Int32) (1 : Int32) h8 n0 Z10 pq8_0 pq8_1 f9 g_b4) hZ (hw _ (List.mem_of_getElem? (i := 31) rfl)) (hw _ (List.mem_of_getElem? (i := 6) rfl)) (by decide) (by decide)) q13a q13c (g := (mkF m 63 #[.val (.int x0), .val (.int x1), .val (.int x2), .val (.int x3), .val (.int z_1), .val (.int z_2), .val (.int z_3), .val (.ref b4), .val (.int (1 : Int32)), .unset, .unset, .unset, .unset, .unset] [(.int z_1), (.ref b4)])) rfl (by rw [hml]; rfl) (Steps.refl _) (argsL := [(.int z_1)]) (rest := []) (lenOf pd_3 rfl) rfl (by show 2 * 0 + _ ≤ _; exact Nat.le_of_eq rfl) (hb hby at_63) (fun _ _ => ⟨rfl, e12, (by decide : 1 + 0 ≤ _), (by decide : 2 + 0 ≤ _)⟩)
  dsimp only [Pt.U, Pt.locs, Pt.cells, Pt.slots] at X13 l13 y13 z13 st13 hQ13
  subst l13 y13 z13
  obtain ⟨rfl, N13q, K13, pq13_0, pq13_1⟩ := hQ13
  have N13 := Fr.app N12 N13q
  obtain ⟨h13, e13⟩ : ∃ z, T13.heap = z := ⟨_, rfl⟩
  rw [e13] at K13 pq13_0 pq13_1
  have f14 := f9.keep K13
  have Z15 : n0 ≤ h13.size := Nat.le_trans Z10 K13.1
  refine own_step (st' := T13.setTop (mkF m 66 #[.val (.int x0), .val (.int x1), .val (.int x2), .val (.int x3), .val (.int z_1), .val (.int z_2), .val (.int z_3), .val (.ref b4), .val (.int (1 : Int32)), .unset, .unset, .unset, .unset, .unset] [])) (fun t k => st13.trans k) ?_
  refine own_step (st' := T13.setTop (mkF m 68 #[.val (.int x0), .val (.int x1), .val (.int x2), .val (.int x3), .val (.int z_1), .val (.int z_2), .val (.int z_3), .val (.ref b4), .val (.int (1 : Int32)), .unset, .unset, .unset, .unset, .unset] [(.int z_1)])) (fun t k => XS.iload X13.here hx rfl (hb hby at_66) rfl k) ?_
  refine own_step (st' := T13.setTop (mkF m 70 #[.val (.int x0), .val (.int x1), .val (.int x2), .val (.int x3), .val (.int z_1), .val (.int z_2), .val (.int z_3), .val (.ref b4), .val (.int (1 : Int32)), .unset, .unset, .unset, .unset, .unset] [(.int (10 : Int32)), (.int z_1)])) (fun t k => XS.bipush X13.here hx rfl (hb hby at_68) k) ?_
  refine own_step (st' := T13.setTop (mkF m 78 #[.val (.int x0), .val (.int x1), .val (.int x2), .val (.int x3), .val (.int z_1), .val (.int z_2), .val (.int z_3), .val (.ref b4), .val (.int (1 : Int32)), .unset, .unset, .unset, .unset, .unset] [(.int (if z_1 = (10 : Int32) then (1 : Int32) else (0 : Int32)))])) (fun t k => ?_) ?_
  · by_cases hc16 : z_1 = (10 : Int32)
    · refine XS.icmpNo X13.here hx rfl (hb hby at_70) rfl (teq hc16).2 (?_ : Steps p.tables e below (T13.setTop (mkF m 73 #[.val (.int x0), .val (.int x1), .val (.int x2), .val (.int x3), .val (.int z_1), .val (.int z_2), .val (.int z_3), .val (.ref b4), .val (.int (1 : Int32)), .unset, .unset, .unset, .unset, .unset] [])) _)
      refine XS.iconst X13.here hx rfl (hb hby at_73) (?_ : Steps p.tables e below (T13.setTop (mkF m 74 #[.val (.int x0), .val (.int x1), .val (.int x2), .val (.int x3), .val (.int z_1), .val (.int z_2), .val (.int z_3), .val (.ref b4), .val (.int (1 : Int32)), .unset, .unset, .unset, .unset, .unset] [(.int (1 : Int32))])) _)
      refine XS.goto X13.here hx rfl (pc0 := 74) (pc' := 78) rfl (hb hby at_74) (by decide) (by decide) (?_ : Steps p.tables e below (T13.setTop (mkF m 78 #[.val (.int x0), .val (.int x1), .val (.int x2), .val (.int x3), .val (.int z_1), .val (.int z_2), .val (.int z_3), .val (.ref b4), .val (.int (1 : Int32)), .unset, .unset, .unset, .unset, .unset] [(.int (1 : Int32))])) _)
      simpa only [if_pos hc16] using k
    · refine XS.icmpYes X13.here hx rfl (pc0 := 70) (pc' := 77) rfl (hb hby at_70) rfl (feq hc16).2 (by decide) (by decide) (?_ : Steps p.tables e below (T13.setTop (mkF m 77 #[.val (.int x0), .val (.int x1), .val (.int x2), .val (.int x3), .val (.int z_1), .val (.int z_2), .val (.int z_3), .val (.ref b4), .val (.int (1 : Int32)), .unset, .unset, .unset, .unset, .unset] [])) _)
      refine XS.iconst X13.here hx rfl (hb hby at_77) (?_ : Steps p.tables e below (T13.setTop (mkF m 78 #[.val (.int x0), .val (.int x1), .val (.int x2), .val (.int x3), .val (.int z_1), .val (.int z_2), .val (.int z_3), .val (.ref b4), .val (.int (1 : Int32)), .unset, .unset, .unset, .unset, .unset] [(.int (0 : Int32))])) _)
      simpa only [if_neg hc16] using k
  refine own_step (st' := T13.setTop (mkF m 80 #[.val (.int x0), .val (.int x1), .val (.int x2), .val (.int x3), .val (.int z_1), .val (.int z_2), .val (.int z_3), .val (.ref b4), .val (.int (1 : Int32)), .val (.int (if z_1 = (10 : Int32) then (1 : Int32) else (0 : Int32))), .unset, .unset, .unset, .unset] [])) (fun t k => XS.istore X13.here hx rfl (hb hby at_78) rfl (l' := #[.val (.int x0), .val (.int x1), .val (.int x2), .val (.int x3), .val (.int z_1), .val (.int z_2), .val (.int z_3), .val (.ref b4), .val (.int (1 : Int32)), .val (.int (if z_1 = (10 : Int32) then (1 : Int32) else (0 : Int32))), .unset, .unset, .unset, .unset]) rfl k) ?_
  refine own_step (st' := T13.setTop (mkF m 82 #[.val (.int x0), .val (.int x1), .val (.int x2), .val (.int x3), .val (.int z_1), .val (.int z_2), .val (.int z_3), .val (.ref b4), .val (.int (1 : Int32)), .val (.int (if z_1 = (10 : Int32) then (1 : Int32) else (0 : Int32))), .unset, .unset, .unset, .unset] [(.int (1 : Int32))])) (fun t k => XS.iload X13.here hx rfl (hb hby at_80) rfl k) ?_
  refine own_step (st' := T13.setTop (mkF m 85 #[.val (.int x0), .val (.int x1), .val (.int x2), .val (.int x3), .val (.int z_1), .val (.int z_2), .val (.int z_3), .val (.ref b4), .val (.int (1 : Int32)), .val (.int (if z_1 = (10 : Int32) then (1 : Int32) else (0 : Int32))), .unset, .unset, .unset, .unset] [])) (fun t k => XS.ifNo X13.here hx rfl (hb hby at_82) rfl ((if0 _ _).trans (feq (by decide)).1) k) ?_
  refine own_step (st' := T13.setTop (mkF m 87 #[.val (.int x0), .val (.int x1), .val (.int x2), .val (.int x3), .val (.int z_1), .val (.int z_2), .val (.int z_3), .val (.ref b4), .val (.int (1 : Int32)), .val (.int (if z_1 = (10 : Int32) then (1 : Int32) else (0 : Int32))), .unset, .unset, .unset, .unset] [(.ref b4)])) (fun t k => XS.aload X13.here hx rfl (hb hby at_85) rfl rfl k) ?_
  obtain ⟨cq17, kq17, q17a, q17b, q17c⟩ := isOf hZ e13 f14
  obtain ⟨_, _, ⟨T17, L17, k17, n17⟩, -, X17, ⟨Lc17, hQ17, l17, y17, z17⟩, st17⟩ := X13.virtualBack hx (y := (⟨"com/example/lookahead/lookahead/core/TextPosition", "line", "()I"⟩ : MethodName)) (z := (⟨"com/example/lookahead/lookahead/core/TextPosition", "line", "()I"⟩ : MethodName)) hown (mvT hZ (hw _ (List.mem_of_getElem? (i := 17) rfl))) (mvT hZ (hw _ (List.mem_of_getElem? (i := 18) rfl))) (notFace_of_selects (args := #[]) (mvT hZ (hw _ (List.mem_of_getElem? (i := 20) rfl)))) (mvT hZ (hw _ (List.mem_of_getElem? (i := 20) rfl))) (mvT hZ (hw _ (List.mem_of_getElem? (i := 19) rfl))) (by decide) (backOf (W := 0) (rm4 l Z a0 hw [] b4 (if z_1 = (10 : Int32) then ((1 : Int32) + (1 : Int32)) else (1 : Int32)) h13 n0 Z15 pq13_0) hZ (hw _ (List.mem_of_getElem? (i := 21) rfl)) (hw _ (List.mem_of_getElem? (i := 6) rfl)) (by decide) (by decide)) q17a q17c (g := (mkF m 87 #[.val (.int x0), .val (.int x1), .val (.int x2), .val (.int x3), .val (.int z_1), .val (.int z_2), .val (.int z_3), .val (.ref b4), .val (.int (1 : Int32)), .val (.int (if z_1 = (10 : Int32) then (1 : Int32) else (0 : Int32))), .unset, .unset, .unset, .unset] [(.ref b4)])) rfl (by rw [hml]; rfl) (Steps.refl _) (argsL := []) (rest := []) (lenOf pd_2 rfl) rfl (by show 2 * 0 + _ ≤ _; exact Nat.le_of_eq rfl) (hb hby at_87) (fun _ _ => ⟨rfl, e13, (by decide : 1 + 0 ≤ _), (by decide : 2 + 0 ≤ _)⟩)
  dsimp only [Pt.U, Pt.locs, Pt.cells, Pt.slots] at X17 l17 y17 z17 st17 hQ17
  subst l17 y17 z17
  obtain ⟨rfl, N17q, e17⟩ := hQ17
  have N17 := Fr.app N13 N17q
  refine own_step (st' := T17.setTop (mkF m 90 #[.val (.int x0), .val (.int x1), .val (.int x2), .val (.int x3), .val (.int z_1), .val (.int z_2), .val (.int z_3), .val (.ref b4), .val (.int (1 : Int32)), .val (.int (if z_1 = (10 : Int32) then (1 : Int32) else (0 : Int32))), .unset, .unset, .unset, .unset] [(.int (if z_1 = (10 : Int32) then ((1 : Int32) + (1 : Int32)) else (1 : Int32)))])) (fun t k => st17.trans k) ?_
  refine own_step (st' := T17.setTop (mkF m 92 #[.val (.int x0), .val (.int x1), .val (.int x2), .val (.int x3), .val (.int z_1), .val (.int z_2), .val (.int z_3), .val (.ref b4), .val (.int (1 : Int32)), .val (.int (if z_1 = (10 : Int32) then (1 : Int32) else (0 : Int32))), .unset, .unset, .unset, .unset] [(.int (if z_1 = (10 : Int32) then (1 : Int32) else (0 : Int32))), (.int (if z_1 = (10 : Int32) then ((1 : Int32) + (1 : Int32)) else (1 : Int32)))])) (fun t k => XS.iload X17.here hx rfl (hb hby at_90) rfl k) ?_
  refine own_step (st' := T17.setTop (mkF m 100 #[.val (.int x0), .val (.int x1), .val (.int x2), .val (.int x3), .val (.int z_1), .val (.int z_2), .val (.int z_3), .val (.ref b4), .val (.int (1 : Int32)), .val (.int (if z_1 = (10 : Int32) then (1 : Int32) else (0 : Int32))), .unset, .unset, .unset, .unset] [(.int (if z_1 = (10 : Int32) then (2 : Int32) else (1 : Int32))), (.int (if z_1 = (10 : Int32) then ((1 : Int32) + (1 : Int32)) else (1 : Int32)))])) (fun t k => ?_) ?_
  · by_cases hc18 : z_1 = (10 : Int32)
    · refine XS.ifNo X17.here hx rfl (hb hby at_92) rfl ((if0 _ _).trans (feq (own_b1 hc18)).1) (?_ : Steps p.tables e below (T17.setTop (mkF m 95 #[.val (.int x0), .val (.int x1), .val (.int x2), .val (.int x3), .val (.int z_1), .val (.int z_2), .val (.int z_3), .val (.ref b4), .val (.int (1 : Int32)), .val (.int (if z_1 = (10 : Int32) then (1 : Int32) else (0 : Int32))), .unset, .unset, .unset, .unset] [(.int (if z_1 = (10 : Int32) then ((1 : Int32) + (1 : Int32)) else (1 : Int32)))])) _)
      refine XS.iconst X17.here hx rfl (hb hby at_95) (?_ : Steps p.tables e below (T17.setTop (mkF m 96 #[.val (.int x0), .val (.int x1), .val (.int x2), .val (.int x3), .val (.int z_1), .val (.int z_2), .val (.int z_3), .val (.ref b4), .val (.int (1 : Int32)), .val (.int (if z_1 = (10 : Int32) then (1 : Int32) else (0 : Int32))), .unset, .unset, .unset, .unset] [(.int (2 : Int32)), (.int (if z_1 = (10 : Int32) then ((1 : Int32) + (1 : Int32)) else (1 : Int32)))])) _)
      refine XS.goto X17.here hx rfl (pc0 := 96) (pc' := 100) rfl (hb hby at_96) (by decide) (by decide) (?_ : Steps p.tables e below (T17.setTop (mkF m 100 #[.val (.int x0), .val (.int x1), .val (.int x2), .val (.int x3), .val (.int z_1), .val (.int z_2), .val (.int z_3), .val (.ref b4), .val (.int (1 : Int32)), .val (.int (if z_1 = (10 : Int32) then (1 : Int32) else (0 : Int32))), .unset, .unset, .unset, .unset] [(.int (2 : Int32)), (.int (if z_1 = (10 : Int32) then ((1 : Int32) + (1 : Int32)) else (1 : Int32)))])) _)
      simpa only [if_pos hc18] using k
    · refine XS.ifYes X17.here hx rfl (pc0 := 92) (pc' := 99) rfl (hb hby at_92) rfl ((if0 _ _).trans (teq (if_neg hc18)).1) (by decide) (by decide) (?_ : Steps p.tables e below (T17.setTop (mkF m 99 #[.val (.int x0), .val (.int x1), .val (.int x2), .val (.int x3), .val (.int z_1), .val (.int z_2), .val (.int z_3), .val (.ref b4), .val (.int (1 : Int32)), .val (.int (if z_1 = (10 : Int32) then (1 : Int32) else (0 : Int32))), .unset, .unset, .unset, .unset] [(.int (if z_1 = (10 : Int32) then ((1 : Int32) + (1 : Int32)) else (1 : Int32)))])) _)
      refine XS.iconst X17.here hx rfl (hb hby at_99) (?_ : Steps p.tables e below (T17.setTop (mkF m 100 #[.val (.int x0), .val (.int x1), .val (.int x2), .val (.int x3), .val (.int z_1), .val (.int z_2), .val (.int z_3), .val (.ref b4), .val (.int (1 : Int32)), .val (.int (if z_1 = (10 : Int32) then (1 : Int32) else (0 : Int32))), .unset, .unset, .unset, .unset] [(.int (1 : Int32)), (.int (if z_1 = (10 : Int32) then ((1 : Int32) + (1 : Int32)) else (1 : Int32)))])) _)
      simpa only [if_neg hc18] using k
  refine own_step (st' := T17.setTop (mkF m 103 #[.val (.int x0), .val (.int x1), .val (.int x2), .val (.int x3), .val (.int z_1), .val (.int z_2), .val (.int z_3), .val (.ref b4), .val (.int (1 : Int32)), .val (.int (if z_1 = (10 : Int32) then (1 : Int32) else (0 : Int32))), .unset, .unset, .unset, .unset] [])) (fun t k => XS.icmpNo X17.here hx rfl (hb hby at_100) rfl (teq (by by_cases q0 : z_1 = (10 : Int32); all_goals simp [q0])).2 k) ?_
  refine own_step (st' := T17.setTop (mkF m 105 #[.val (.int x0), .val (.int x1), .val (.int x2), .val (.int x3), .val (.int z_1), .val (.int z_2), .val (.int z_3), .val (.ref b4), .val (.int (1 : Int32)), .val (.int (if z_1 = (10 : Int32) then (1 : Int32) else (0 : Int32))), .unset, .unset, .unset, .unset] [(.ref b4)])) (fun t k => XS.aload X17.here hx rfl (hb hby at_103) rfl rfl k) ?_
  obtain ⟨cq19, kq19, q19a, q19b, q19c⟩ := isOf hZ e17 f14
  obtain ⟨_, _, ⟨T19, L19, k19, n19⟩, -, X19, ⟨Lc19, hQ19, l19, y19, z19⟩, st19⟩ := X17.virtualBack hx (y := (⟨"com/example/lookahead/lookahead/core/TextPosition", "column", "()I"⟩ : MethodName)) (z := (⟨"com/example/lookahead/lookahead/core/TextPosition", "column", "()I"⟩ : MethodName)) hown (mvT hZ (hw _ (List.mem_of_getElem? (i := 22) rfl))) (mvT hZ (hw _ (List.mem_of_getElem? (i := 23) rfl))) (notFace_of_selects (args := #[]) (mvT hZ (hw _ (List.mem_of_getElem? (i := 25) rfl)))) (mvT hZ (hw _ (List.mem_of_getElem? (i := 25) rfl))) (mvT hZ (hw _ (List.mem_of_getElem? (i := 24) rfl))) (by decide) (backOf (W := 0) (rm5 l Z a0 hw [] b4 (if z_1 = (10 : Int32) then (1 : Int32) else ((1 : Int32) + (1 : Int32))) h13 n0 Z15 pq13_1) hZ (hw _ (List.mem_of_getElem? (i := 26) rfl)) (hw _ (List.mem_of_getElem? (i := 6) rfl)) (by decide) (by decide)) q19a q19c (g := (mkF m 105 #[.val (.int x0), .val (.int x1), .val (.int x2), .val (.int x3), .val (.int z_1), .val (.int z_2), .val (.int z_3), .val (.ref b4), .val (.int (1 : Int32)), .val (.int (if z_1 = (10 : Int32) then (1 : Int32) else (0 : Int32))), .unset, .unset, .unset, .unset] [(.ref b4)])) rfl (by rw [hml]; rfl) (Steps.refl _) (argsL := []) (rest := []) (lenOf pd_2 rfl) rfl (by show 2 * 0 + _ ≤ _; exact Nat.le_of_eq rfl) (hb hby at_105) (fun _ _ => ⟨rfl, e17, (by decide : 1 + 0 ≤ _), (by decide : 2 + 0 ≤ _)⟩)
  dsimp only [Pt.U, Pt.locs, Pt.cells, Pt.slots] at X19 l19 y19 z19 st19 hQ19
  subst l19 y19 z19
  obtain ⟨rfl, N19q, e19⟩ := hQ19
  have N19 := Fr.app N17 N19q
  refine own_step (st' := T19.setTop (mkF m 108 #[.val (.int x0), .val (.int x1), .val (.int x2), .val (.int x3), .val (.int z_1), .val (.int z_2), .val (.int z_3), .val (.ref b4), .val (.int (1 : Int32)), .val (.int (if z_1 = (10 : Int32) then (1 : Int32) else (0 : Int32))), .unset, .unset, .unset, .unset] [(.int (if z_1 = (10 : Int32) then (1 : Int32) else ((1 : Int32) + (1 : Int32))))])) (fun t k => st19.trans k) ?_
  refine own_step (st' := T19.setTop (mkF m 110 #[.val (.int x0), .val (.int x1), .val (.int x2), .val (.int x3), .val (.int z_1), .val (.int z_2), .val (.int z_3), .val (.ref b4), .val (.int (1 : Int32)), .val (.int (if z_1 = (10 : Int32) then (1 : Int32) else (0 : Int32))), .unset, .unset, .unset, .unset] [(.int (if z_1 = (10 : Int32) then (1 : Int32) else (0 : Int32))), (.int (if z_1 = (10 : Int32) then (1 : Int32) else ((1 : Int32) + (1 : Int32))))])) (fun t k => XS.iload X19.here hx rfl (hb hby at_108) rfl k) ?_
  refine own_step (st' := T19.setTop (mkF m 118 #[.val (.int x0), .val (.int x1), .val (.int x2), .val (.int x3), .val (.int z_1), .val (.int z_2), .val (.int z_3), .val (.ref b4), .val (.int (1 : Int32)), .val (.int (if z_1 = (10 : Int32) then (1 : Int32) else (0 : Int32))), .unset, .unset, .unset, .unset] [(.int (if z_1 = (10 : Int32) then (1 : Int32) else (2 : Int32))), (.int (if z_1 = (10 : Int32) then (1 : Int32) else ((1 : Int32) + (1 : Int32))))])) (fun t k => ?_) ?_
  · by_cases hc20 : z_1 = (10 : Int32)
    · refine XS.ifNo X19.here hx rfl (hb hby at_110) rfl ((if0 _ _).trans (feq (own_b1 hc20)).1) (?_ : Steps p.tables e below (T19.setTop (mkF m 113 #[.val (.int x0), .val (.int x1), .val (.int x2), .val (.int x3), .val (.int z_1), .val (.int z_2), .val (.int z_3), .val (.ref b4), .val (.int (1 : Int32)), .val (.int (if z_1 = (10 : Int32) then (1 : Int32) else (0 : Int32))), .unset, .unset, .unset, .unset] [(.int (if z_1 = (10 : Int32) then (1 : Int32) else ((1 : Int32) + (1 : Int32))))])) _)
      refine XS.iconst X19.here hx rfl (hb hby at_113) (?_ : Steps p.tables e below (T19.setTop (mkF m 114 #[.val (.int x0), .val (.int x1), .val (.int x2), .val (.int x3), .val (.int z_1), .val (.int z_2), .val (.int z_3), .val (.ref b4), .val (.int (1 : Int32)), .val (.int (if z_1 = (10 : Int32) then (1 : Int32) else (0 : Int32))), .unset, .unset, .unset, .unset] [(.int (1 : Int32)), (.int (if z_1 = (10 : Int32) then (1 : Int32) else ((1 : Int32) + (1 : Int32))))])) _)
      refine XS.goto X19.here hx rfl (pc0 := 114) (pc' := 118) rfl (hb hby at_114) (by decide) (by decide) (?_ : Steps p.tables e below (T19.setTop (mkF m 118 #[.val (.int x0), .val (.int x1), .val (.int x2), .val (.int x3), .val (.int z_1), .val (.int z_2), .val (.int z_3), .val (.ref b4), .val (.int (1 : Int32)), .val (.int (if z_1 = (10 : Int32) then (1 : Int32) else (0 : Int32))), .unset, .unset, .unset, .unset] [(.int (1 : Int32)), (.int (if z_1 = (10 : Int32) then (1 : Int32) else ((1 : Int32) + (1 : Int32))))])) _)
      simpa only [if_pos hc20] using k
    · refine XS.ifYes X19.here hx rfl (pc0 := 110) (pc' := 117) rfl (hb hby at_110) rfl ((if0 _ _).trans (teq (if_neg hc20)).1) (by decide) (by decide) (?_ : Steps p.tables e below (T19.setTop (mkF m 117 #[.val (.int x0), .val (.int x1), .val (.int x2), .val (.int x3), .val (.int z_1), .val (.int z_2), .val (.int z_3), .val (.ref b4), .val (.int (1 : Int32)), .val (.int (if z_1 = (10 : Int32) then (1 : Int32) else (0 : Int32))), .unset, .unset, .unset, .unset] [(.int (if z_1 = (10 : Int32) then (1 : Int32) else ((1 : Int32) + (1 : Int32))))])) _)
      refine XS.iconst X19.here hx rfl (hb hby at_117) (?_ : Steps p.tables e below (T19.setTop (mkF m 118 #[.val (.int x0), .val (.int x1), .val (.int x2), .val (.int x3), .val (.int z_1), .val (.int z_2), .val (.int z_3), .val (.ref b4), .val (.int (1 : Int32)), .val (.int (if z_1 = (10 : Int32) then (1 : Int32) else (0 : Int32))), .unset, .unset, .unset, .unset] [(.int (2 : Int32)), (.int (if z_1 = (10 : Int32) then (1 : Int32) else ((1 : Int32) + (1 : Int32))))])) _)
      simpa only [if_neg hc20] using k
  refine own_step (st' := T19.setTop (mkF m 121 #[.val (.int x0), .val (.int x1), .val (.int x2), .val (.int x3), .val (.int z_1), .val (.int z_2), .val (.int z_3), .val (.ref b4), .val (.int (1 : Int32)), .val (.int (if z_1 = (10 : Int32) then (1 : Int32) else (0 : Int32))), .unset, .unset, .unset, .unset] [])) (fun t k => XS.icmpNo X19.here hx rfl (hb hby at_118) rfl (teq (by by_cases q0 : z_1 = (10 : Int32); all_goals simp [q0])).2 k) ?_
  refine own_step (st' := T19.setTop (mkF m 122 #[.val (.int x0), .val (.int x1), .val (.int x2), .val (.int x3), .val (.int z_1), .val (.int z_2), .val (.int z_3), .val (.ref b4), .val (.int (1 : Int32)), .val (.int (if z_1 = (10 : Int32) then (1 : Int32) else (0 : Int32))), .unset, .unset, .unset, .unset] [(.int (1 : Int32))])) (fun t k => XS.iconst X19.here hx rfl (hb hby at_121) k) ?_
  refine own_step (st' := T19.setTop (mkF m 126 #[.val (.int x0), .val (.int x1), .val (.int x2), .val (.int x3), .val (.int z_1), .val (.int z_2), .val (.int z_3), .val (.ref b4), .val (.int (1 : Int32)), .val (.int (if z_1 = (10 : Int32) then (1 : Int32) else (0 : Int32))), .unset, .unset, .unset, .unset] [(.int (1 : Int32))])) (fun t k => XS.goto X19.here hx rfl (pc0 := 122) (pc' := 126) rfl (hb hby at_122) (by decide) (by decide) k) ?_
  refine own_step (st' := T19.setTop (mkF m 128 #[.val (.int x0), .val (.int x1), .val (.int x2), .val (.int x3), .val (.int z_1), .val (.int z_2), .val (.int z_3), .val (.ref b4), .val (.int (1 : Int32)), .val (.int (if z_1 = (10 : Int32) then (1 : Int32) else (0 : Int32))), .unset, .unset, .unset, .unset] [])) (fun t k => XS.istore X19.here hx rfl (hb hby at_126) rfl (l' := #[.val (.int x0), .val (.int x1), .val (.int x2), .val (.int x3), .val (.int z_1), .val (.int z_2), .val (.int z_3), .val (.ref b4), .val (.int (1 : Int32)), .val (.int (if z_1 = (10 : Int32) then (1 : Int32) else (0 : Int32))), .unset, .unset, .unset, .unset]) rfl k) ?_
  refine own_step (st' := T19.setTop (mkF m 130 #[.val (.int x0), .val (.int x1), .val (.int x2), .val (.int x3), .val (.int z_1), .val (.int z_2), .val (.int z_3), .val (.ref b4), .val (.int (1 : Int32)), .val (.int (if z_1 = (10 : Int32) then (1 : Int32) else (0 : Int32))), .unset, .unset, .unset, .unset] [(.ref b4)])) (fun t k => XS.aload X19.here hx rfl (hb hby at_128) rfl rfl k) ?_
  refine own_step (st' := T19.setTop (mkF m 132 #[.val (.int x0), .val (.int x1), .val (.int x2), .val (.int x3), .val (.int z_1), .val (.int z_2), .val (.int z_3), .val (.ref b4), .val (.int (1 : Int32)), .val (.int (if z_1 = (10 : Int32) then (1 : Int32) else (0 : Int32))), .unset, .unset, .unset, .unset] [(.int z_2), (.ref b4)])) (fun t k => XS.iload X19.here hx rfl (hb hby at_130) rfl k) ?_
  obtain ⟨cq21, kq21, q21a, q21b, q21c⟩ := isOf hZ e19 f14
  obtain ⟨_, _, ⟨T21, L21, k21, n21⟩, -, X21, ⟨Lc21, hQ21, l21, y21, z21⟩, st21⟩ := X19.virtualBack hx (y := (⟨"com/example/lookahead/lookahead/core/TextPosition", "pass", "(I)V"⟩ : MethodName)) (z := (⟨"com/example/lookahead/lookahead/core/TextPosition", "pass", "(I)V"⟩ : MethodName)) hown (mvT hZ (hw _ (List.mem_of_getElem? (i := 27) rfl))) (mvT hZ (hw _ (List.mem_of_getElem? (i := 28) rfl))) (notFace_of_selects (args := #[]) (mvT hZ (hw _ (List.mem_of_getElem? (i := 30) rfl)))) (mvT hZ (hw _ (List.mem_of_getElem? (i := 30) rfl))) (mvT hZ (hw _ (List.mem_of_getElem? (i := 29) rfl))) (by decide) (backOf (W := 0) (rm6 l Z a0 hw [] b4 z_2 (if z_1 = (10 : Int32) then ((1 : Int32) + (1 : Int32)) else (1 : Int32)) (if z_1 = (10 : Int32) then (1 : Int32) else ((1 : Int32) + (1 : Int32))) h13 n0 Z15 pq13_0 pq13_1 f14 g_b4) hZ (hw _ (List.mem_of_getElem? (i := 31) rfl)) (hw _ (List.mem_of_getElem? (i := 6) rfl)) (by decide) (by decide)) q21a q21c (g := (mkF m 132 #[.val (.int x0), .val (.int x1), .val (.int x2), .val (.int x3), .val (.int z_1), .val (.int z_2), .val (.int z_3), .val (.ref b4), .val (.int (1 : Int32)), .val (.int (if z_1 = (10 : Int32) then (1 : Int32) else (0 : Int32))), .unset, .unset, .unset, .unset] [(.int z_2), (.ref b4)])) rfl (by rw [hml]; rfl) (Steps.refl _) (argsL := [(.int z_2)]) (rest := []) (lenOf pd_3 rfl) rfl (by show 2 * 0 + _ ≤ _; exact Nat.le_of_eq rfl) (hb hby at_132) (fun _ _ => ⟨rfl, e19, (by decide : 1 + 0 ≤ _), (by decide : 2 + 0 ≤ _)⟩)
  dsimp only [Pt.U, Pt.locs, Pt.cells, Pt.slots] at X21 l21 y21 z21 st21 hQ21
  subst l21 y21 z21
  obtain ⟨rfl, N21q, K21, pq21_0, pq21_1⟩ := hQ21
  have N21 := Fr.app N19 N21q
  obtain ⟨h21, e21⟩ : ∃ z, T21.heap = z := ⟨_, rfl⟩
  rw [e21] at K21 pq21_0 pq21_1
  have f22 := f14.keep K21
  have Z23 : n0 ≤ h21.size := Nat.le_trans Z15 K21.1
  refine own_step (st' := T21.setTop (mkF m 135 #[.val (.int x0), .val (.int x1), .val (.int x2), .val (.int x3), .val (.int z_1), .val (.int z_2), .val (.int z_3), .val (.ref b4), .val (.int (1 : Int32)), .val (.int (if z_1 = (10 : Int32) then (1 : Int32) else (0 : Int32))), .unset, .unset, .unset, .unset] [])) (fun t k => st21.trans k) ?_
  refine own_step (st' := T21.setTop (mkF m 137 #[.val (.int x0), .val (.int x1), .val (.int x2), .val (.int x3), .val (.int z_1), .val (.int z_2), .val (.int z_3), .val (.ref b4), .val (.int (1 : Int32)), .val (.int (if z_1 = (10 : Int32) then (1 : Int32) else (0 : Int32))), .unset, .unset, .unset, .unset] [(.ref b4)])) (fun t k => XS.aload X21.here hx rfl (hb hby at_135) rfl rfl k) ?_
  refine own_step (st' := T21.setTop (mkF m 139 #[.val (.int x0), .val (.int x1), .val (.int x2), .val (.int x3), .val (.int z_1), .val (.int z_2), .val (.int z_3), .val (.ref b4), .val (.int (1 : Int32)), .val (.int (if z_1 = (10 : Int32) then (1 : Int32) else (0 : Int32))), .unset, .unset, .unset, .unset] [(.int z_3), (.ref b4)])) (fun t k => XS.iload X21.here hx rfl (hb hby at_137) rfl k) ?_
  obtain ⟨cq24, kq24, q24a, q24b, q24c⟩ := isOf hZ e21 f22
  obtain ⟨_, _, ⟨T24, L24, k24, n24⟩, -, X24, ⟨Lc24, hQ24, l24, y24, z24⟩, st24⟩ := X21.virtualBack hx (y := (⟨"com/example/lookahead/lookahead/core/TextPosition", "pass", "(I)V"⟩ : MethodName)) (z := (⟨"com/example/lookahead/lookahead/core/TextPosition", "pass", "(I)V"⟩ : MethodName)) hown (mvT hZ (hw _ (List.mem_of_getElem? (i := 27) rfl))) (mvT hZ (hw _ (List.mem_of_getElem? (i := 28) rfl))) (notFace_of_selects (args := #[]) (mvT hZ (hw _ (List.mem_of_getElem? (i := 30) rfl)))) (mvT hZ (hw _ (List.mem_of_getElem? (i := 30) rfl))) (mvT hZ (hw _ (List.mem_of_getElem? (i := 29) rfl))) (by decide) (backOf (W := 0) (rm6 l Z a0 hw [] b4 z_3 (if z_2 = (10 : Int32) then ((if z_1 = (10 : Int32) then ((1 : Int32) + (1 : Int32)) else (1 : Int32)) + (1 : Int32)) else (if z_1 = (10 : Int32) then ((1 : Int32) + (1 : Int32)) else (1 : Int32))) (if z_2 = (10 : Int32) then (1 : Int32) else ((if z_1 = (10 : Int32) then (1 : Int32) else ((1 : Int32) + (1 : Int32))) + (1 : Int32))) h21 n0 Z23 pq21_0 pq21_1 f22 g_b4) hZ (hw _ (List.mem_of_getElem? (i := 31) rfl)) (hw _ (List.mem_of_getElem? (i := 6) rfl)) (by decide) (by decide)) q24a q24c (g := (mkF m 139 #[.val (.int x0), .val (.int x1), .val (.int x2), .val (.int x3), .val (.int z_1), .val (.int z_2), .val (.int z_3), .val (.ref b4), .val (.int (1 : Int32)), .val (.int (if z_1 = (10 : Int32) then (1 : Int32) else (0 : Int32))), .unset, .unset, .unset, .unset] [(.int z_3), (.ref b4)])) rfl (by rw [hml]; rfl) (Steps.refl _) (argsL := [(.int z_3)]) (rest := []) (lenOf pd_3 rfl) rfl (by show 2 * 0 + _ ≤ _; exact Nat.le_of_eq rfl) (hb hby at_139) (fun _ _ => ⟨rfl, e21, (by decide : 1 + 0 ≤ _), (by decide : 2 + 0 ≤ _)⟩)
  dsimp only [Pt.U, Pt.locs, Pt.cells, Pt.slots] at X24 l24 y24 z24 st24 hQ24
  subst l24 y24 z24
  obtain ⟨rfl, N24q, K24, pq24_0, pq24_1⟩ := hQ24
  have N24 := Fr.app N21 N24q
  obtain ⟨h24, e24⟩ : ∃ z, T24.heap = z := ⟨_, rfl⟩
  rw [e24] at K24 pq24_0 pq24_1
  have f25 := f22.keep K24
  have Z26 : n0 ≤ h24.size := Nat.le_trans Z23 K24.1
  refine own_step (st' := T24.setTop (mkF m 142 #[.val (.int x0), .val (.int x1), .val (.int x2), .val (.int x3), .val (.int z_1), .val (.int z_2), .val (.int z_3), .val (.ref b4), .val (.int (1 : Int32)), .val (.int (if z_1 = (10 : Int32) then (1 : Int32) else (0 : Int32))), .unset, .unset, .unset, .unset] [])) (fun t k => st24.trans k) ?_
  refine own_step (st' := T24.setTop (mkF m 144 #[.val (.int x0), .val (.int x1), .val (.int x2), .val (.int x3), .val (.int z_1), .val (.int z_2), .val (.int z_3), .val (.ref b4), .val (.int (1 : Int32)), .val (.int (if z_1 = (10 : Int32) then (1 : Int32) else (0 : Int32))), .unset, .unset, .unset, .unset] [(.int z_2)])) (fun t k => XS.iload X24.here hx rfl (hb hby at_142) rfl k) ?_
  refine own_step (st' := T24.setTop (mkF m 146 #[.val (.int x0), .val (.int x1), .val (.int x2), .val (.int x3), .val (.int z_1), .val (.int z_2), .val (.int z_3), .val (.ref b4), .val (.int (1 : Int32)), .val (.int (if z_1 = (10 : Int32) then (1 : Int32) else (0 : Int32))), .unset, .unset, .unset, .unset] [(.int (10 : Int32)), (.int z_2)])) (fun t k => XS.bipush X24.here hx rfl (hb hby at_144) k) ?_
  refine own_step (st' := T24.setTop (mkF m 154 #[.val (.int x0), .val (.int x1), .val (.int x2), .val (.int x3), .val (.int z_1), .val (.int z_2), .val (.int z_3), .val (.ref b4), .val (.int (1 : Int32)), .val (.int (if z_1 = (10 : Int32) then (1 : Int32) else (0 : Int32))), .unset, .unset, .unset, .unset] [(.int (if z_2 = (10 : Int32) then (1 : Int32) else (0 : Int32)))])) (fun t k => ?_) ?_
  · by_cases hc27 : z_2 = (10 : Int32)
    · refine XS.icmpNo X24.here hx rfl (hb hby at_146) rfl (teq hc27).2 (?_ : Steps p.tables e below (T24.setTop (mkF m 149 #[.val (.int x0), .val (.int x1), .val (.int x2), .val (.int x3), .val (.int z_1), .val (.int z_2), .val (.int z_3), .val (.ref b4), .val (.int (1 : Int32)), .val (.int (if z_1 = (10 : Int32) then (1 : Int32) else (0 : Int32))), .unset, .unset, .unset, .unset] [])) _)
      refine XS.iconst X24.here hx rfl (hb hby at_149) (?_ : Steps p.tables e below (T24.setTop (mkF m 150 #[.val (.int x0), .val (.int x1), .val (.int x2), .val (.int x3), .val (.int z_1), .val (.int z_2), .val (.int z_3), .val (.ref b4), .val (.int (1 : Int32)), .val (.int (if z_1 = (10 : Int32) then (1 : Int32) else (0 : Int32))), .unset, .unset, .unset, .unset] [(.int (1 : Int32))])) _)
      refine XS.goto X24.here hx rfl (pc0 := 150) (pc' := 154) rfl (hb hby at_150) (by decide) (by decide) (?_ : Steps p.tables e below (T24.setTop (mkF m 154 #[.val (.int x0), .val (.int x1), .val (.int x2), .val (.int x3), .val (.int z_1), .val (.int z_2), .val (.int z_3), .val (.ref b4), .val (.int (1 : Int32)), .val (.int (if z_1 = (10 : Int32) then (1 : Int32) else (0 : Int32))), .unset, .unset, .unset, .unset] [(.int (1 : Int32))])) _)
      simpa only [if_pos hc27] using k
    · refine XS.icmpYes X24.here hx rfl (pc0 := 146) (pc' := 153) rfl (hb hby at_146) rfl (feq hc27).2 (by decide) (by decide) (?_ : Steps p.tables e below (T24.setTop (mkF m 153 #[.val (.int x0), .val (.int x1), .val (.int x2), .val (.int x3), .val (.int z_1), .val (.int z_2), .val (.int z_3), .val (.ref b4), .val (.int (1 : Int32)), .val (.int (if z_1 = (10 : Int32) then (1 : Int32) else (0 : Int32))), .unset, .unset, .unset, .unset] [])) _)
      refine XS.iconst X24.here hx rfl (hb hby at_153) (?_ : Steps p.tables e below (T24.setTop (mkF m 154 #[.val (.int x0), .val (.int x1), .val (.int x2), .val (.int x3), .val (.int z_1), .val (.int z_2), .val (.int z_3), .val (.ref b4), .val (.int (1 : Int32)), .val (.int (if z_1 = (10 : Int32) then (1 : Int32) else (0 : Int32))), .unset, .unset, .unset, .unset] [(.int (0 : Int32))])) _)
      simpa only [if_neg hc27] using k
  refine own_step (st' := T24.setTop (mkF m 156 #[.val (.int x0), .val (.int x1), .val (.int x2), .val (.int x3), .val (.int z_1), .val (.int z_2), .val (.int z_3), .val (.ref b4), .val (.int (1 : Int32)), .val (.int (if z_1 = (10 : Int32) then (1 : Int32) else (0 : Int32))), .val (.int (if z_2 = (10 : Int32) then (1 : Int32) else (0 : Int32))), .unset, .unset, .unset] [])) (fun t k => XS.istore X24.here hx rfl (hb hby at_154) rfl (l' := #[.val (.int x0), .val (.int x1), .val (.int x2), .val (.int x3), .val (.int z_1), .val (.int z_2), .val (.int z_3), .val (.ref b4), .val (.int (1 : Int32)), .val (.int (if z_1 = (10 : Int32) then (1 : Int32) else (0 : Int32))), .val (.int (if z_2 = (10 : Int32) then (1 : Int32) else (0 : Int32))), .unset, .unset, .unset]) rfl k) ?_
  refine own_step (st' := T24.setTop (mkF m 158 #[.val (.int x0), .val (.int x1), .val (.int x2), .val (.int x3), .val (.int z_1), .val (.int z_2), .val (.int z_3), .val (.ref b4), .val (.int (1 : Int32)), .val (.int (if z_1 = (10 : Int32) then (1 : Int32) else (0 : Int32))), .val (.int (if z_2 = (10 : Int32) then (1 : Int32) else (0 : Int32))), .unset, .unset, .unset] [(.int z_3)])) (fun t k => XS.iload X24.here hx rfl (hb hby at_156) rfl k) ?_
  refine own_step (st' := T24.setTop (mkF m 160 #[.val (.int x0), .val (.int x1), .val (.int x2), .val (.int x3), .val (.int z_1), .val (.int z_2), .val (.int z_3), .val (.ref b4), .val (.int (1 : Int32)), .val (.int (if z_1 = (10 : Int32) then (1 : Int32) else (0 : Int32))), .val (.int (if z_2 = (10 : Int32) then (1 : Int32) else (0 : Int32))), .unset, .unset, .unset] [(.int (10 : Int32)), (.int z_3)])) (fun t k => XS.bipush X24.here hx rfl (hb hby at_158) k) ?_
  refine own_step (st' := T24.setTop (mkF m 168 #[.val (.int x0), .val (.int x1), .val (.int x2), .val (.int x3), .val (.int z_1), .val (.int z_2), .val (.int z_3), .val (.ref b4), .val (.int (1 : Int32)), .val (.int (if z_1 = (10 : Int32) then (1 : Int32) else (0 : Int32))), .val (.int (if z_2 = (10 : Int32) then (1 : Int32) else (0 : Int32))), .unset, .unset, .unset] [(.int (if z_3 = (10 : Int32) then (1 : Int32) else (0 : Int32)))])) (fun t k => ?_) ?_
  · by_cases hc28 : z_3 = (10 : Int32)
    · refine XS.icmpNo X24.here hx rfl (hb hby at_160) rfl (teq hc28).2 (?_ : Steps p.tables e below (T24.setTop (mkF m 163 #[.val (.int x0), .val (.int x1), .val (.int x2), .val (.int x3), .val (.int z_1), .val (.int z_2), .val (.int z_3), .val (.ref b4), .val (.int (1 : Int32)), .val (.int (if z_1 = (10 : Int32) then (1 : Int32) else (0 : Int32))), .val (.int (if z_2 = (10 : Int32) then (1 : Int32) else (0 : Int32))), .unset, .unset, .unset] [])) _)
      refine XS.iconst X24.here hx rfl (hb hby at_163) (?_ : Steps p.tables e below (T24.setTop (mkF m 164 #[.val (.int x0), .val (.int x1), .val (.int x2), .val (.int x3), .val (.int z_1), .val (.int z_2), .val (.int z_3), .val (.ref b4), .val (.int (1 : Int32)), .val (.int (if z_1 = (10 : Int32) then (1 : Int32) else (0 : Int32))), .val (.int (if z_2 = (10 : Int32) then (1 : Int32) else (0 : Int32))), .unset, .unset, .unset] [(.int (1 : Int32))])) _)
      refine XS.goto X24.here hx rfl (pc0 := 164) (pc' := 168) rfl (hb hby at_164) (by decide) (by decide) (?_ : Steps p.tables e below (T24.setTop (mkF m 168 #[.val (.int x0), .val (.int x1), .val (.int x2), .val (.int x3), .val (.int z_1), .val (.int z_2), .val (.int z_3), .val (.ref b4), .val (.int (1 : Int32)), .val (.int (if z_1 = (10 : Int32) then (1 : Int32) else (0 : Int32))), .val (.int (if z_2 = (10 : Int32) then (1 : Int32) else (0 : Int32))), .unset, .unset, .unset] [(.int (1 : Int32))])) _)
      simpa only [if_pos hc28] using k
    · refine XS.icmpYes X24.here hx rfl (pc0 := 160) (pc' := 167) rfl (hb hby at_160) rfl (feq hc28).2 (by decide) (by decide) (?_ : Steps p.tables e below (T24.setTop (mkF m 167 #[.val (.int x0), .val (.int x1), .val (.int x2), .val (.int x3), .val (.int z_1), .val (.int z_2), .val (.int z_3), .val (.ref b4), .val (.int (1 : Int32)), .val (.int (if z_1 = (10 : Int32) then (1 : Int32) else (0 : Int32))), .val (.int (if z_2 = (10 : Int32) then (1 : Int32) else (0 : Int32))), .unset, .unset, .unset] [])) _)
      refine XS.iconst X24.here hx rfl (hb hby at_167) (?_ : Steps p.tables e below (T24.setTop (mkF m 168 #[.val (.int x0), .val (.int x1), .val (.int x2), .val (.int x3), .val (.int z_1), .val (.int z_2), .val (.int z_3), .val (.ref b4), .val (.int (1 : Int32)), .val (.int (if z_1 = (10 : Int32) then (1 : Int32) else (0 : Int32))), .val (.int (if z_2 = (10 : Int32) then (1 : Int32) else (0 : Int32))), .unset, .unset, .unset] [(.int (0 : Int32))])) _)
      simpa only [if_neg hc28] using k
  refine own_step (st' := T24.setTop (mkF m 170 #[.val (.int x0), .val (.int x1), .val (.int x2), .val (.int x3), .val (.int z_1), .val (.int z_2), .val (.int z_3), .val (.ref b4), .val (.int (1 : Int32)), .val (.int (if z_1 = (10 : Int32) then (1 : Int32) else (0 : Int32))), .val (.int (if z_2 = (10 : Int32) then (1 : Int32) else (0 : Int32))), .val (.int (if z_3 = (10 : Int32) then (1 : Int32) else (0 : Int32))), .unset, .unset] [])) (fun t k => XS.istore X24.here hx rfl (hb hby at_168) rfl (l' := #[.val (.int x0), .val (.int x1), .val (.int x2), .val (.int x3), .val (.int z_1), .val (.int z_2), .val (.int z_3), .val (.ref b4), .val (.int (1 : Int32)), .val (.int (if z_1 = (10 : Int32) then (1 : Int32) else (0 : Int32))), .val (.int (if z_2 = (10 : Int32) then (1 : Int32) else (0 : Int32))), .val (.int (if z_3 = (10 : Int32) then (1 : Int32) else (0 : Int32))), .unset, .unset]) rfl k) ?_
  refine own_step (st' := T24.setTop (mkF m 171 #[.val (.int x0), .val (.int x1), .val (.int x2), .val (.int x3), .val (.int z_1), .val (.int z_2), .val (.int z_3), .val (.ref b4), .val (.int (1 : Int32)), .val (.int (if z_1 = (10 : Int32) then (1 : Int32) else (0 : Int32))), .val (.int (if z_2 = (10 : Int32) then (1 : Int32) else (0 : Int32))), .val (.int (if z_3 = (10 : Int32) then (1 : Int32) else (0 : Int32))), .unset, .unset] [(.int (1 : Int32))])) (fun t k => XS.iconst X24.here hx rfl (hb hby at_170) k) ?_
  refine own_step (st' := T24.setTop (mkF m 173 #[.val (.int x0), .val (.int x1), .val (.int x2), .val (.int x3), .val (.int z_1), .val (.int z_2), .val (.int z_3), .val (.ref b4), .val (.int (1 : Int32)), .val (.int (if z_1 = (10 : Int32) then (1 : Int32) else (0 : Int32))), .val (.int (if z_2 = (10 : Int32) then (1 : Int32) else (0 : Int32))), .val (.int (if z_3 = (10 : Int32) then (1 : Int32) else (0 : Int32))), .unset, .unset] [(.int (if z_1 = (10 : Int32) then (1 : Int32) else (0 : Int32))), (.int (1 : Int32))])) (fun t k => XS.iload X24.here hx rfl (hb hby at_171) rfl k) ?_
  refine own_step (st' := T24.setTop (mkF m 181 #[.val (.int x0), .val (.int x1), .val (.int x2), .val (.int x3), .val (.int z_1), .val (.int z_2), .val (.int z_3), .val (.ref b4), .val (.int (1 : Int32)), .val (.int (if z_1 = (10 : Int32) then (1 : Int32) else (0 : Int32))), .val (.int (if z_2 = (10 : Int32) then (1 : Int32) else (0 : Int32))), .val (.int (if z_3 = (10 : Int32) then (1 : Int32) else (0 : Int32))), .unset, .unset] [(.int (if z_1 = (10 : Int32) then (1 : Int32) else (0 : Int32))), (.int (1 : Int32))])) (fun t k => ?_) ?_
  · by_cases hc29 : z_1 = (10 : Int32)
    · refine XS.ifNo X24.here hx rfl (hb hby at_173) rfl ((if0 _ _).trans (feq (own_b1 hc29)).1) (?_ : Steps p.tables e below (T24.setTop (mkF m 176 #[.val (.int x0), .val (.int x1), .val (.int x2), .val (.int x3), .val (.int z_1), .val (.int z_2), .val (.int z_3), .val (.ref b4), .val (.int (1 : Int32)), .val (.int (if z_1 = (10 : Int32) then (1 : Int32) else (0 : Int32))), .val (.int (if z_2 = (10 : Int32) then (1 : Int32) else (0 : Int32))), .val (.int (if z_3 = (10 : Int32) then (1 : Int32) else (0 : Int32))), .unset, .unset] [(.int (1 : Int32))])) _)
      refine XS.iconst X24.here hx rfl (hb hby at_176) (?_ : Steps p.tables e below (T24.setTop (mkF m 177 #[.val (.int x0), .val (.int x1), .val (.int x2), .val (.int x3), .val (.int z_1), .val (.int z_2), .val (.int z_3), .val (.ref b4), .val (.int (1 : Int32)), .val (.int (if z_1 = (10 : Int32) then (1 : Int32) else (0 : Int32))), .val (.int (if z_2 = (10 : Int32) then (1 : Int32) else (0 : Int32))), .val (.int (if z_3 = (10 : Int32) then (1 : Int32) else (0 : Int32))), .unset, .unset] [(.int (1 : Int32)), (.int (1 : Int32))])) _)
      refine XS.goto X24.here hx rfl (pc0 := 177) (pc' := 181) rfl (hb hby at_177) (by decide) (by decide) (?_ : Steps p.tables e below (T24.setTop (mkF m 181 #[.val (.int x0), .val (.int x1), .val (.int x2), .val (.int x3), .val (.int z_1), .val (.int z_2), .val (.int z_3), .val (.ref b4), .val (.int (1 : Int32)), .val (.int (if z_1 = (10 : Int32) then (1 : Int32) else (0 : Int32))), .val (.int (if z_2 = (10 : Int32) then (1 : Int32) else (0 : Int32))), .val (.int (if z_3 = (10 : Int32) then (1 : Int32) else (0 : Int32))), .unset, .unset] [(.int (1 : Int32)), (.int (1 : Int32))])) _)
      simpa only [if_pos hc29] using k
    · refine XS.ifYes X24.here hx rfl (pc0 := 173) (pc' := 180) rfl (hb hby at_173) rfl ((if0 _ _).trans (teq (if_neg hc29)).1) (by decide) (by decide) (?_ : Steps p.tables e below (T24.setTop (mkF m 180 #[.val (.int x0), .val (.int x1), .val (.int x2), .val (.int x3), .val (.int z_1), .val (.int z_2), .val (.int z_3), .val (.ref b4), .val (.int (1 : Int32)), .val (.int (if z_1 = (10 : Int32) then (1 : Int32) else (0 : Int32))), .val (.int (if z_2 = (10 : Int32) then (1 : Int32) else (0 : Int32))), .val (.int (if z_3 = (10 : Int32) then (1 : Int32) else (0 : Int32))), .unset, .unset] [(.int (1 : Int32))])) _)
      refine XS.iconst X24.here hx rfl (hb hby at_180) (?_ : Steps p.tables e below (T24.setTop (mkF m 181 #[.val (.int x0), .val (.int x1), .val (.int x2), .val (.int x3), .val (.int z_1), .val (.int z_2), .val (.int z_3), .val (.ref b4), .val (.int (1 : Int32)), .val (.int (if z_1 = (10 : Int32) then (1 : Int32) else (0 : Int32))), .val (.int (if z_2 = (10 : Int32) then (1 : Int32) else (0 : Int32))), .val (.int (if z_3 = (10 : Int32) then (1 : Int32) else (0 : Int32))), .unset, .unset] [(.int (0 : Int32)), (.int (1 : Int32))])) _)
      simpa only [if_neg hc29] using k
  refine own_step (st' := T24.setTop (mkF m 182 #[.val (.int x0), .val (.int x1), .val (.int x2), .val (.int x3), .val (.int z_1), .val (.int z_2), .val (.int z_3), .val (.ref b4), .val (.int (1 : Int32)), .val (.int (if z_1 = (10 : Int32) then (1 : Int32) else (0 : Int32))), .val (.int (if z_2 = (10 : Int32) then (1 : Int32) else (0 : Int32))), .val (.int (if z_3 = (10 : Int32) then (1 : Int32) else (0 : Int32))), .unset, .unset] [(.int ((1 : Int32) + (if z_1 = (10 : Int32) then (1 : Int32) else (0 : Int32))))])) (fun t k => XS.iadd X24.here hx rfl (hb hby at_181) rfl k) ?_
  refine own_step (st' := T24.setTop (mkF m 184 #[.val (.int x0), .val (.int x1), .val (.int x2), .val (.int x3), .val (.int z_1), .val (.int z_2), .val (.int z_3), .val (.ref b4), .val (.int (1 : Int32)), .val (.int (if z_1 = (10 : Int32) then (1 : Int32) else (0 : Int32))), .val (.int (if z_2 = (10 : Int32) then (1 : Int32) else (0 : Int32))), .val (.int (if z_3 = (10 : Int32) then (1 : Int32) else (0 : Int32))), .unset, .unset] [(.int (if z_2 = (10 : Int32) then (1 : Int32) else (0 : Int32))), (.int ((1 : Int32) + (if z_1 = (10 : Int32) then (1 : Int32) else (0 : Int32))))])) (fun t k => XS.iload X24.here hx rfl (hb hby at_182) rfl k) ?_
  refine own_step (st' := T24.setTop (mkF m 192 #[.val (.int x0), .val (.int x1), .val (.int x2), .val (.int x3), .val (.int z_1), .val (.int z_2), .val (.int z_3), .val (.ref b4), .val (.int (1 : Int32)), .val (.int (if z_1 = (10 : Int32) then (1 : Int32) else (0 : Int32))), .val (.int (if z_2 = (10 : Int32) then (1 : Int32) else (0 : Int32))), .val (.int (if z_3 = (10 : Int32) then (1 : Int32) else (0 : Int32))), .unset, .unset] [(.int (if z_2 = (10 : Int32) then (1 : Int32) else (0 : Int32))), (.int ((1 : Int32) + (if z_1 = (10 : Int32) then (1 : Int32) else (0 : Int32))))])) (fun t k => ?_) ?_
  · by_cases hc30 : z_2 = (10 : Int32)
    · refine XS.ifNo X24.here hx rfl (hb hby at_184) rfl ((if0 _ _).trans (feq (own_b1 hc30)).1) (?_ : Steps p.tables e below (T24.setTop (mkF m 187 #[.val (.int x0), .val (.int x1), .val (.int x2), .val (.int x3), .val (.int z_1), .val (.int z_2), .val (.int z_3), .val (.ref b4), .val (.int (1 : Int32)), .val (.int (if z_1 = (10 : Int32) then (1 : Int32) else (0 : Int32))), .val (.int (if z_2 = (10 : Int32) then (1 : Int32) else (0 : Int32))), .val (.int (if z_3 = (10 : Int32) then (1 : Int32) else (0 : Int32))), .unset, .unset] [(.int ((1 : Int32) + (if z_1 = (10 : Int32) then (1 : Int32) else (0 : Int32))))])) _)
      refine XS.iconst X24.here hx rfl (hb hby at_187) (?_ : Steps p.tables e below (T24.setTop (mkF m 188 #[.val (.int x0), .val (.int x1), .val (.int x2), .val (.int x3), .val (.int z_1), .val (.int z_2), .val (.int z_3), .val (.ref b4), .val (.int (1 : Int32)), .val (.int (if z_1 = (10 : Int32) then (1 : Int32) else (0 : Int32))), .val (.int (if z_2 = (10 : Int32) then (1 : Int32) else (0 : Int32))), .val (.int (if z_3 = (10 : Int32) then (1 : Int32) else (0 : Int32))), .unset, .unset] [(.int (1 : Int32)), (.int ((1 : Int32) + (if z_1 = (10 : Int32) then (1 : Int32) else (0 : Int32))))])) _)
      refine XS.goto X24.here hx rfl (pc0 := 188) (pc' := 192) rfl (hb hby at_188) (by decide) (by decide) (?_ : Steps p.tables e below (T24.setTop (mkF m 192 #[.val (.int x0), .val (.int x1), .val (.int x2), .val (.int x3), .val (.int z_1), .val (.int z_2), .val (.int z_3), .val (.ref b4), .val (.int (1 : Int32)), .val (.int (if z_1 = (10 : Int32) then (1 : Int32) else (0 : Int32))), .val (.int (if z_2 = (10 : Int32) then (1 : Int32) else (0 : Int32))), .val (.int (if z_3 = (10 : Int32) then (1 : Int32) else (0 : Int32))), .unset, .unset] [(.int (1 : Int32)), (.int ((1 : Int32) + (if z_1 = (10 : Int32) then (1 : Int32) else (0 : Int32))))])) _)
      simpa only [if_pos hc30] using k
    · refine XS.ifYes X24.here hx rfl (pc0 := 184) (pc' := 191) rfl (hb hby at_184) rfl ((if0 _ _).trans (teq (if_neg hc30)).1) (by decide) (by decide) (?_ : Steps p.tables e below (T24.setTop (mkF m 191 #[.val (.int x0), .val (.int x1), .val (.int x2), .val (.int x3), .val (.int z_1), .val (.int z_2), .val (.int z_3), .val (.ref b4), .val (.int (1 : Int32)), .val (.int (if z_1 = (10 : Int32) then (1 : Int32) else (0 : Int32))), .val (.int (if z_2 = (10 : Int32) then (1 : Int32) else (0 : Int32))), .val (.int (if z_3 = (10 : Int32) then (1 : Int32) else (0 : Int32))), .unset, .unset] [(.int ((1 : Int32) + (if z_1 = (10 : Int32) then (1 : Int32) else (0 : Int32))))])) _)
      refine XS.iconst X24.here hx rfl (hb hby at_191) (?_ : Steps p.tables e below (T24.setTop (mkF m 192 #[.val (.int x0), .val (.int x1), .val (.int x2), .val (.int x3), .val (.int z_1), .val (.int z_2), .val (.int z_3), .val (.ref b4), .val (.int (1 : Int32)), .val (.int (if z_1 = (10 : Int32) then (1 : Int32) else (0 : Int32))), .val (.int (if z_2 = (10 : Int32) then (1 : Int32) else (0 : Int32))), .val (.int (if z_3 = (10 : Int32) then (1 : Int32) else (0 : Int32))), .unset, .unset] [(.int (0 : Int32)), (.int ((1 : Int32) + (if z_1 = (10 : Int32) then (1 : Int32) else (0 : Int32))))])) _)
      simpa only [if_neg hc30] using k
  refine own_step (st' := T24.setTop (mkF m 193 #[.val (.int x0), .val (.int x1), .val (.int x2), .val (.int x3), .val (.int z_1), .val (.int z_2), .val (.int z_3), .val (.ref b4), .val (.int (1 : Int32)), .val (.int (if z_1 = (10 : Int32) then (1 : Int32) else (0 : Int32))), .val (.int (if z_2 = (10 : Int32) then (1 : Int32) else (0 : Int32))), .val (.int (if z_3 = (10 : Int32) then (1 : Int32) else (0 : Int32))), .unset, .unset] [(.int (((1 : Int32) + (if z_1 = (10 : Int32) then (1 : Int32) else (0 : Int32))) + (if z_2 = (10 : Int32) then (1 : Int32) else (0 : Int32))))])) (fun t k => XS.iadd X24.here hx rfl (hb hby at_192) rfl k) ?_
  refine own_step (st' := T24.setTop (mkF m 195 #[.val (.int x0), .val (.int x1), .val (.int x2), .val (.int x3), .val (.int z_1), .val (.int z_2), .val (.int z_3), .val (.ref b4), .val (.int (1 : Int32)), .val (.int (if z_1 = (10 : Int32) then (1 : Int32) else (0 : Int32))), .val (.int (if z_2 = (10 : Int32) then (1 : Int32) else (0 : Int32))), .val (.int (if z_3 = (10 : Int32) then (1 : Int32) else (0 : Int32))), .unset, .unset] [(.int (if z_3 = (10 : Int32) then (1 : Int32) else (0 : Int32))), (.int (((1 : Int32) + (if z_1 = (10 : Int32) then (1 : Int32) else (0 : Int32))) + (if z_2 = (10 : Int32) then (1 : Int32) else (0 : Int32))))])) (fun t k => XS.iload X24.here hx rfl (hb hby at_193) rfl k) ?_
  refine own_step (st' := T24.setTop (mkF m 203 #[.val (.int x0), .val (.int x1), .val (.int x2), .val (.int x3), .val (.int z_1), .val (.int z_2), .val (.int z_3), .val (.ref b4), .val (.int (1 : Int32)), .val (.int (if z_1 = (10 : Int32) then (1 : Int32) else (0 : Int32))), .val (.int (if z_2 = (10 : Int32) then (1 : Int32) else (0 : Int32))), .val (.int (if z_3 = (10 : Int32) then (1 : Int32) else (0 : Int32))), .unset, .unset] [(.int (if z_3 = (10 : Int32) then (1 : Int32) else (0 : Int32))), (.int (((1 : Int32) + (if z_1 = (10 : Int32) then (1 : Int32) else (0 : Int32))) + (if z_2 = (10 : Int32) then (1 : Int32) else (0 : Int32))))])) (fun t k => ?_) ?_
  · by_cases hc31 : z_3 = (10 : Int32)
    · refine XS.ifNo X24.here hx rfl (hb hby at_195) rfl ((if0 _ _).trans (feq (own_b1 hc31)).1) (?_ : Steps p.tables e below (T24.setTop (mkF m 198 #[.val (.int x0), .val (.int x1), .val (.int x2), .val (.int x3), .val (.int z_1), .val (.int z_2), .val (.int z_3), .val (.ref b4), .val (.int (1 : Int32)), .val (.int (if z_1 = (10 : Int32) then (1 : Int32) else (0 : Int32))), .val (.int (if z_2 = (10 : Int32) then (1 : Int32) else (0 : Int32))), .val (.int (if z_3 = (10 : Int32) then (1 : Int32) else (0 : Int32))), .unset, .unset] [(.int (((1 : Int32) + (if z_1 = (10 : Int32) then (1 : Int32) else (0 : Int32))) + (if z_2 = (10 : Int32) then (1 : Int32) else (0 : Int32))))])) _)
      refine XS.iconst X24.here hx rfl (hb hby at_198) (?_ : Steps p.tables e below (T24.setTop (mkF m 199 #[.val (.int x0), .val (.int x1), .val (.int x2), .val (.int x3), .val (.int z_1), .val (.int z_2), .val (.int z_3), .val (.ref b4), .val (.int (1 : Int32)), .val (.int (if z_1 = (10 : Int32) then (1 : Int32) else (0 : Int32))), .val (.int (if z_2 = (10 : Int32) then (1 : Int32) else (0 : Int32))), .val (.int (if z_3 = (10 : Int32) then (1 : Int32) else (0 : Int32))), .unset, .unset] [(.int (1 : Int32)), (.int (((1 : Int32) + (if z_1 = (10 : Int32) then (1 : Int32) else (0 : Int32))) + (if z_2 = (10 : Int32) then (1 : Int32) else (0 : Int32))))])) _)
      refine XS.goto X24.here hx rfl (pc0 := 199) (pc' := 203) rfl (hb hby at_199) (by decide) (by decide) (?_ : Steps p.tables e below (T24.setTop (mkF m 203 #[.val (.int x0), .val (.int x1), .val (.int x2), .val (.int x3), .val (.int z_1), .val (.int z_2), .val (.int z_3), .val (.ref b4), .val (.int (1 : Int32)), .val (.int (if z_1 = (10 : Int32) then (1 : Int32) else (0 : Int32))), .val (.int (if z_2 = (10 : Int32) then (1 : Int32) else (0 : Int32))), .val (.int (if z_3 = (10 : Int32) then (1 : Int32) else (0 : Int32))), .unset, .unset] [(.int (1 : Int32)), (.int (((1 : Int32) + (if z_1 = (10 : Int32) then (1 : Int32) else (0 : Int32))) + (if z_2 = (10 : Int32) then (1 : Int32) else (0 : Int32))))])) _)
      simpa only [if_pos hc31] using k
    · refine XS.ifYes X24.here hx rfl (pc0 := 195) (pc' := 202) rfl (hb hby at_195) rfl ((if0 _ _).trans (teq (if_neg hc31)).1) (by decide) (by decide) (?_ : Steps p.tables e below (T24.setTop (mkF m 202 #[.val (.int x0), .val (.int x1), .val (.int x2), .val (.int x3), .val (.int z_1), .val (.int z_2), .val (.int z_3), .val (.ref b4), .val (.int (1 : Int32)), .val (.int (if z_1 = (10 : Int32) then (1 : Int32) else (0 : Int32))), .val (.int (if z_2 = (10 : Int32) then (1 : Int32) else (0 : Int32))), .val (.int (if z_3 = (10 : Int32) then (1 : Int32) else (0 : Int32))), .unset, .unset] [(.int (((1 : Int32) + (if z_1 = (10 : Int32) then (1 : Int32) else (0 : Int32))) + (if z_2 = (10 : Int32) then (1 : Int32) else (0 : Int32))))])) _)
      refine XS.iconst X24.here hx rfl (hb hby at_202) (?_ : Steps p.tables e below (T24.setTop (mkF m 203 #[.val (.int x0), .val (.int x1), .val (.int x2), .val (.int x3), .val (.int z_1), .val (.int z_2), .val (.int z_3), .val (.ref b4), .val (.int (1 : Int32)), .val (.int (if z_1 = (10 : Int32) then (1 : Int32) else (0 : Int32))), .val (.int (if z_2 = (10 : Int32) then (1 : Int32) else (0 : Int32))), .val (.int (if z_3 = (10 : Int32) then (1 : Int32) else (0 : Int32))), .unset, .unset] [(.int (0 : Int32)), (.int (((1 : Int32) + (if z_1 = (10 : Int32) then (1 : Int32) else (0 : Int32))) + (if z_2 = (10 : Int32) then (1 : Int32) else (0 : Int32))))])) _)
      simpa only [if_neg hc31] using k
  refine own_step (st' := T24.setTop (mkF m 204 #[.val (.int x0), .val (.int x1), .val (.int x2), .val (.int x3), .val (.int z_1), .val (.int z_2), .val (.int z_3), .val (.ref b4), .val (.int (1 : Int32)), .val (.int (if z_1 = (10 : Int32) then (1 : Int32) else (0 : Int32))), .val (.int (if z_2 = (10 : Int32) then (1 : Int32) else (0 : Int32))), .val (.int (if z_3 = (10 : Int32) then (1 : Int32) else (0 : Int32))), .unset, .unset] [(.int ((((1 : Int32) + (if z_1 = (10 : Int32) then (1 : Int32) else (0 : Int32))) + (if z_2 = (10 : Int32) then (1 : Int32) else (0 : Int32))) + (if z_3 = (10 : Int32) then (1 : Int32) else (0 : Int32))))])) (fun t k => XS.iadd X24.here hx rfl (hb hby at_203) rfl k) ?_
  refine own_step (st' := T24.setTop (mkF m 206 #[.val (.int x0), .val (.int x1), .val (.int x2), .val (.int x3), .val (.int z_1), .val (.int z_2), .val (.int z_3), .val (.ref b4), .val (.int (1 : Int32)), .val (.int (if z_1 = (10 : Int32) then (1 : Int32) else (0 : Int32))), .val (.int (if z_2 = (10 : Int32) then (1 : Int32) else (0 : Int32))), .val (.int (if z_3 = (10 : Int32) then (1 : Int32) else (0 : Int32))), .val (.int ((((1 : Int32) + (if z_1 = (10 : Int32) then (1 : Int32) else (0 : Int32))) + (if z_2 = (10 : Int32) then (1 : Int32) else (0 : Int32))) + (if z_3 = (10 : Int32) then (1 : Int32) else (0 : Int32)))), .unset] [])) (fun t k => XS.istore X24.here hx rfl (hb hby at_204) rfl (l' := #[.val (.int x0), .val (.int x1), .val (.int x2), .val (.int x3), .val (.int z_1), .val (.int z_2), .val (.int z_3), .val (.ref b4), .val (.int (1 : Int32)), .val (.int (if z_1 = (10 : Int32) then (1 : Int32) else (0 : Int32))), .val (.int (if z_2 = (10 : Int32) then (1 : Int32) else (0 : Int32))), .val (.int (if z_3 = (10 : Int32) then (1 : Int32) else (0 : Int32))), .val (.int ((((1 : Int32) + (if z_1 = (10 : Int32) then (1 : Int32) else (0 : Int32))) + (if z_2 = (10 : Int32) then (1 : Int32) else (0 : Int32))) + (if z_3 = (10 : Int32) then (1 : Int32) else (0 : Int32)))), .unset]) rfl k) ?_
  refine own_step (st' := T24.setTop (mkF m 208 #[.val (.int x0), .val (.int x1), .val (.int x2), .val (.int x3), .val (.int z_1), .val (.int z_2), .val (.int z_3), .val (.ref b4), .val (.int (1 : Int32)), .val (.int (if z_1 = (10 : Int32) then (1 : Int32) else (0 : Int32))), .val (.int (if z_2 = (10 : Int32) then (1 : Int32) else (0 : Int32))), .val (.int (if z_3 = (10 : Int32) then (1 : Int32) else (0 : Int32))), .val (.int ((((1 : Int32) + (if z_1 = (10 : Int32) then (1 : Int32) else (0 : Int32))) + (if z_2 = (10 : Int32) then (1 : Int32) else (0 : Int32))) + (if z_3 = (10 : Int32) then (1 : Int32) else (0 : Int32)))), .unset] [(.int (if z_3 = (10 : Int32) then (1 : Int32) else (0 : Int32)))])) (fun t k => XS.iload X24.here hx rfl (hb hby at_206) rfl k) ?_
  refine own_step (st' := T24.setTop (mkF m 242 #[.val (.int x0), .val (.int x1), .val (.int x2), .val (.int x3), .val (.int z_1), .val (.int z_2), .val (.int z_3), .val (.ref b4), .val (.int (1 : Int32)), .val (.int (if z_1 = (10 : Int32) then (1 : Int32) else (0 : Int32))), .val (.int (if z_2 = (10 : Int32) then (1 : Int32) else (0 : Int32))), .val (.int (if z_3 = (10 : Int32) then (1 : Int32) else (0 : Int32))), .val (.int ((((1 : Int32) + (if z_1 = (10 : Int32) then (1 : Int32) else (0 : Int32))) + (if z_2 = (10 : Int32) then (1 : Int32) else (0 : Int32))) + (if z_3 = (10 : Int32) then (1 : Int32) else (0 : Int32)))), .val (.int (if z_3 = (10 : Int32) then (1 : Int32) else (if z_2 = (10 : Int32) then (2 : Int32) else (if z_1 = (10 : Int32) then (3 : Int32) else (4 : Int32)))))] [])) (fun t k => ?_) ?_
  · by_cases hc32 : z_3 = (10 : Int32)
    · refine XS.ifNo X24.here hx rfl (hb hby at_208) rfl ((if0 _ _).trans (feq (own_b1 hc32)).1) (?_ : Steps p.tables e below (T24.setTop (mkF m 211 #[.val (.int x0), .val (.int x1), .val (.int x2), .val (.int x3), .val (.int z_1), .val (.int z_2), .val (.int z_3), .val (.ref b4), .val (.int (1 : Int32)), .val (.int (if z_1 = (10 : Int32) then (1 : Int32) else (0 : Int32))), .val (.int (if z_2 = (10 : Int32) then (1 : Int32) else (0 : Int32))), .val (.int (if z_3 = (10 : Int32) then (1 : Int32) else (0 : Int32))), .val (.int ((((1 : Int32) + (if z_1 = (10 : Int32) then (1 : Int32) else (0 : Int32))) + (if z_2 = (10 : Int32) then (1 : Int32) else (0 : Int32))) + (if z_3 = (10 : Int32) then (1 : Int32) else (0 : Int32)))), .unset] [])) _)
      refine XS.iconst X24.here hx rfl (hb hby at_211) (?_ : Steps p.tables e below (T24.setTop (mkF m 212 #[.val (.int x0), .val (.int x1), .val (.int x2), .val (.int x3), .val (.int z_1), .val (.int z_2), .val (.int z_3), .val (.ref b4), .val (.int (1 : Int32)), .val (.int (if z_1 = (10 : Int32) then (1 : Int32) else (0 : Int32))), .val (.int (if z_2 = (10 : Int32) then (1 : Int32) else (0 : Int32))), .val (.int (if z_3 = (10 : Int32) then (1 : Int32) else (0 : Int32))), .val (.int ((((1 : Int32) + (if z_1 = (10 : Int32) then (1 : Int32) else (0 : Int32))) + (if z_2 = (10 : Int32) then (1 : Int32) else (0 : Int32))) + (if z_3 = (10 : Int32) then (1 : Int32) else (0 : Int32)))), .unset] [(.int (1 : Int32))])) _)
      refine XS.istore X24.here hx rfl (hb hby at_212) rfl (l' := #[.val (.int x0), .val (.int x1), .val (.int x2), .val (.int x3), .val (.int z_1), .val (.int z_2), .val (.int z_3), .val (.ref b4), .val (.int (1 : Int32)), .val (.int (if z_1 = (10 : Int32) then (1 : Int32) else (0 : Int32))), .val (.int (if z_2 = (10 : Int32) then (1 : Int32) else (0 : Int32))), .val (.int (if z_3 = (10 : Int32) then (1 : Int32) else (0 : Int32))), .val (.int ((((1 : Int32) + (if z_1 = (10 : Int32) then (1 : Int32) else (0 : Int32))) + (if z_2 = (10 : Int32) then (1 : Int32) else (0 : Int32))) + (if z_3 = (10 : Int32) then (1 : Int32) else (0 : Int32)))), .val (.int (1 : Int32))]) rfl (?_ : Steps p.tables e below (T24.setTop (mkF m 214 #[.val (.int x0), .val (.int x1), .val (.int x2), .val (.int x3), .val (.int z_1), .val (.int z_2), .val (.int z_3), .val (.ref b4), .val (.int (1 : Int32)), .val (.int (if z_1 = (10 : Int32) then (1 : Int32) else (0 : Int32))), .val (.int (if z_2 = (10 : Int32) then (1 : Int32) else (0 : Int32))), .val (.int (if z_3 = (10 : Int32) then (1 : Int32) else (0 : Int32))), .val (.int ((((1 : Int32) + (if z_1 = (10 : Int32) then (1 : Int32) else (0 : Int32))) + (if z_2 = (10 : Int32) then (1 : Int32) else (0 : Int32))) + (if z_3 = (10 : Int32) then (1 : Int32) else (0 : Int32)))), .val (.int (1 : Int32))] [])) _)
      refine XS.goto X24.here hx rfl (pc0 := 214) (pc' := 242) rfl (hb hby at_214) (by decide) (by decide) (?_ : Steps p.tables e below (T24.setTop (mkF m 242 #[.val (.int x0), .val (.int x1), .val (.int x2), .val (.int x3), .val (.int z_1), .val (.int z_2), .val (.int z_3), .val (.ref b4), .val (.int (1 : Int32)), .val (.int (if z_1 = (10 : Int32) then (1 : Int32) else (0 : Int32))), .val (.int (if z_2 = (10 : Int32) then (1 : Int32) else (0 : Int32))), .val (.int (if z_3 = (10 : Int32) then (1 : Int32) else (0 : Int32))), .val (.int ((((1 : Int32) + (if z_1 = (10 : Int32) then (1 : Int32) else (0 : Int32))) + (if z_2 = (10 : Int32) then (1 : Int32) else (0 : Int32))) + (if z_3 = (10 : Int32) then (1 : Int32) else (0 : Int32)))), .val (.int (1 : Int32))] [])) _)
      simpa only [if_pos hc32] using k
    · refine XS.ifYes X24.here hx rfl (pc0 := 208) (pc' := 217) rfl (hb hby at_208) rfl ((if0 _ _).trans (teq (if_neg hc32)).1) (by decide) (by decide) (?_ : Steps p.tables e below (T24.setTop (mkF m 217 #[.val (.int x0), .val (.int x1), .val (.int x2), .val (.int x3), .val (.int z_1), .val (.int z_2), .val (.int z_3), .val (.ref b4), .val (.int (1 : Int32)), .val (.int (if z_1 = (10 : Int32) then (1 : Int32) else (0 : Int32))), .val (.int (if z_2 = (10 : Int32) then (1 : Int32) else (0 : Int32))), .val (.int (if z_3 = (10 : Int32) then (1 : Int32) else (0 : Int32))), .val (.int ((((1 : Int32) + (if z_1 = (10 : Int32) then (1 : Int32) else (0 : Int32))) + (if z_2 = (10 : Int32) then (1 : Int32) else (0 : Int32))) + (if z_3 = (10 : Int32) then (1 : Int32) else (0 : Int32)))), .unset] [])) _)
      refine XS.iload X24.here hx rfl (hb hby at_217) rfl (?_ : Steps p.tables e below (T24.setTop (mkF m 219 #[.val (.int x0), .val (.int x1), .val (.int x2), .val (.int x3), .val (.int z_1), .val (.int z_2), .val (.int z_3), .val (.ref b4), .val (.int (1 : Int32)), .val (.int (if z_1 = (10 : Int32) then (1 : Int32) else (0 : Int32))), .val (.int (if z_2 = (10 : Int32) then (1 : Int32) else (0 : Int32))), .val (.int (if z_3 = (10 : Int32) then (1 : Int32) else (0 : Int32))), .val (.int ((((1 : Int32) + (if z_1 = (10 : Int32) then (1 : Int32) else (0 : Int32))) + (if z_2 = (10 : Int32) then (1 : Int32) else (0 : Int32))) + (if z_3 = (10 : Int32) then (1 : Int32) else (0 : Int32)))), .unset] [(.int (if z_2 = (10 : Int32) then (1 : Int32) else (0 : Int32)))])) _)
      refine own_sstep (st' := T24.setTop (mkF m 242 #[.val (.int x0), .val (.int x1), .val (.int x2), .val (.int x3), .val (.int z_1), .val (.int z_2), .val (.int z_3), .val (.ref b4), .val (.int (1 : Int32)), .val (.int (if z_1 = (10 : Int32) then (1 : Int32) else (0 : Int32))), .val (.int (if z_2 = (10 : Int32) then (1 : Int32) else (0 : Int32))), .val (.int (if z_3 = (10 : Int32) then (1 : Int32) else (0 : Int32))), .val (.int ((((1 : Int32) + (if z_1 = (10 : Int32) then (1 : Int32) else (0 : Int32))) + (if z_2 = (10 : Int32) then (1 : Int32) else (0 : Int32))) + (if z_3 = (10 : Int32) then (1 : Int32) else (0 : Int32)))), .val (.int (if z_2 = (10 : Int32) then (2 : Int32) else (if z_1 = (10 : Int32) then (3 : Int32) else (4 : Int32))))] [])) (fun t k => ?_) ?_
      · by_cases hc33 : z_2 = (10 : Int32)
        · refine XS.ifNo X24.here hx rfl (hb hby at_219) rfl ((if0 _ _).trans (feq (own_b1 hc33)).1) (?_ : Steps p.tables e below (T24.setTop (mkF m 222 #[.val (.int x0), .val (.int x1), .val (.int x2), .val (.int x3), .val (.int z_1), .val (.int z_2), .val (.int z_3), .val (.ref b4), .val (.int (1 : Int32)), .val (.int (if z_1 = (10 : Int32) then (1 : Int32) else (0 : Int32))), .val (.int (if z_2 = (10 : Int32) then (1 : Int32) else (0 : Int32))), .val (.int (if z_3 = (10 : Int32) then (1 : Int32) else (0 : Int32))), .val (.int ((((1 : Int32) + (if z_1 = (10 : Int32) then (1 : Int32) else (0 : Int32))) + (if z_2 = (10 : Int32) then (1 : Int32) else (0 : Int32))) + (if z_3 = (10 : Int32) then (1 : Int32) else (0 : Int32)))), .unset] [])) _)
          refine XS.iconst X24.here hx rfl (hb hby at_222) (?_ : Steps p.tables e below (T24.setTop (mkF m 223 #[.val (.int x0), .val (.int x1), .val (.int x2), .val (.int x3), .val (.int z_1), .val (.int z_2), .val (.int z_3), .val (.ref b4), .val (.int (1 : Int32)), .val (.int (if z_1 = (10 : Int32) then (1 : Int32) else (0 : Int32))), .val (.int (if z_2 = (10 : Int32) then (1 : Int32) else (0 : Int32))), .val (.int (if z_3 = (10 : Int32) then (1 : Int32) else (0 : Int32))), .val (.int ((((1 : Int32) + (if z_1 = (10 : Int32) then (1 : Int32) else (0 : Int32))) + (if z_2 = (10 : Int32) then (1 : Int32) else (0 : Int32))) + (if z_3 = (10 : Int32) then (1 : Int32) else (0 : Int32)))), .unset] [(.int (2 : Int32))])) _)
          refine XS.istore X24.here hx rfl (hb hby at_223) rfl (l' := #[.val (.int x0), .val (.int x1), .val (.int x2), .val (.int x3), .val (.int z_1), .val (.int z_2), .val (.int z_3), .val (.ref b4), .val (.int (1 : Int32)), .val (.int (if z_1 = (10 : Int32) then (1 : Int32) else (0 : Int32))), .val (.int (if z_2 = (10 : Int32) then (1 : Int32) else (0 : Int32))), .val (.int (if z_3 = (10 : Int32) then (1 : Int32) else (0 : Int32))), .val (.int ((((1 : Int32) + (if z_1 = (10 : Int32) then (1 : Int32) else (0 : Int32))) + (if z_2 = (10 : Int32) then (1 : Int32) else (0 : Int32))) + (if z_3 = (10 : Int32) then (1 : Int32) else (0 : Int32)))), .val (.int (2 : Int32))]) rfl (?_ : Steps p.tables e below (T24.setTop (mkF m 225 #[.val (.int x0), .val (.int x1), .val (.int x2), .val (.int x3), .val (.int z_1), .val (.int z_2), .val (.int z_3), .val (.ref b4), .val (.int (1 : Int32)), .val (.int (if z_1 = (10 : Int32) then (1 : Int32) else (0 : Int32))), .val (.int (if z_2 = (10 : Int32) then (1 : Int32) else (0 : Int32))), .val (.int (if z_3 = (10 : Int32) then (1 : Int32) else (0 : Int32))), .val (.int ((((1 : Int32) + (if z_1 = (10 : Int32) then (1 : Int32) else (0 : Int32))) + (if z_2 = (10 : Int32) then (1 : Int32) else (0 : Int32))) + (if z_3 = (10 : Int32) then (1 : Int32) else (0 : Int32)))), .val (.int (2 : Int32))] [])) _)
          refine XS.goto X24.here hx rfl (pc0 := 225) (pc' := 242) rfl (hb hby at_225) (by decide) (by decide) (?_ : Steps p.tables e below (T24.setTop (mkF m 242 #[.val (.int x0), .val (.int x1), .val (.int x2), .val (.int x3), .val (.int z_1), .val (.int z_2), .val (.int z_3), .val (.ref b4), .val (.int (1 : Int32)), .val (.int (if z_1 = (10 : Int32) then (1 : Int32) else (0 : Int32))), .val (.int (if z_2 = (10 : Int32) then (1 : Int32) else (0 : Int32))), .val (.int (if z_3 = (10 : Int32) then (1 : Int32) else (0 : Int32))), .val (.int ((((1 : Int32) + (if z_1 = (10 : Int32) then (1 : Int32) else (0 : Int32))) + (if z_2 = (10 : Int32) then (1 : Int32) else (0 : Int32))) + (if z_3 = (10 : Int32) then (1 : Int32) else (0 : Int32)))), .val (.int (2 : Int32))] [])) _)
          simpa only [if_pos hc33] using k
        · refine XS.ifYes X24.here hx rfl (pc0 := 219) (pc' := 228) rfl (hb hby at_219) rfl ((if0 _ _).trans (teq (if_neg hc33)).1) (by decide) (by decide) (?_ : Steps p.tables e below (T24.setTop (mkF m 228 #[.val (.int x0), .val (.int x1), .val (.int x2), .val (.int x3), .val (.int z_1), .val (.int z_2), .val (.int z_3), .val (.ref b4), .val (.int (1 : Int32)), .val (.int (if z_1 = (10 : Int32) then (1 : Int32) else (0 : Int32))), .val (.int (if z_2 = (10 : Int32) then (1 : Int32) else (0 : Int32))), .val (.int (if z_3 = (10 : Int32) then (1 : Int32) else (0 : Int32))), .val (.int ((((1 : Int32) + (if z_1 = (10 : Int32) then (1 : Int32) else (0 : Int32))) + (if z_2 = (10 : Int32) then (1 : Int32) else (0 : Int32))) + (if z_3 = (10 : Int32) then (1 : Int32) else (0 : Int32)))), .unset] [])) _)
          refine XS.iload X24.here hx rfl (hb hby at_228) rfl (?_ : Steps p.tables e below (T24.setTop (mkF m 230 #[.val (.int x0), .val (.int x1), .val (.int x2), .val (.int x3), .val (.int z_1), .val (.int z_2), .val (.int z_3), .val (.ref b4), .val (.int (1 : Int32)), .val (.int (if z_1 = (10 : Int32) then (1 : Int32) else (0 : Int32))), .val (.int (if z_2 = (10 : Int32) then (1 : Int32) else (0 : Int32))), .val (.int (if z_3 = (10 : Int32) then (1 : Int32) else (0 : Int32))), .val (.int ((((1 : Int32) + (if z_1 = (10 : Int32) then (1 : Int32) else (0 : Int32))) + (if z_2 = (10 : Int32) then (1 : Int32) else (0 : Int32))) + (if z_3 = (10 : Int32) then (1 : Int32) else (0 : Int32)))), .unset] [(.int (if z_1 = (10 : Int32) then (1 : Int32) else (0 : Int32)))])) _)
          refine own_sstep (st' := T24.setTop (mkF m 242 #[.val (.int x0), .val (.int x1), .val (.int x2), .val (.int x3), .val (.int z_1), .val (.int z_2), .val (.int z_3), .val (.ref b4), .val (.int (1 : Int32)), .val (.int (if z_1 = (10 : Int32) then (1 : Int32) else (0 : Int32))), .val (.int (if z_2 = (10 : Int32) then (1 : Int32) else (0 : Int32))), .val (.int (if z_3 = (10 : Int32) then (1 : Int32) else (0 : Int32))), .val (.int ((((1 : Int32) + (if z_1 = (10 : Int32) then (1 : Int32) else (0 : Int32))) + (if z_2 = (10 : Int32) then (1 : Int32) else (0 : Int32))) + (if z_3 = (10 : Int32) then (1 : Int32) else (0 : Int32)))), .val (.int (if z_1 = (10 : Int32) then (3 : Int32) else (4 : Int32)))] [])) (fun t k => ?_) ?_
          · by_cases hc34 : z_1 = (10 : Int32)
            · refine XS.ifNo X24.here hx rfl (hb hby at_230) rfl ((if0 _ _).trans (feq (own_b1 hc34)).1) (?_ : Steps p.tables e below (T24.setTop (mkF m 233 #[.val (.int x0), .val (.int x1), .val (.int x2), .val (.int x3), .val (.int z_1), .val (.int z_2), .val (.int z_3), .val (.ref b4), .val (.int (1 : Int32)), .val (.int (if z_1 = (10 : Int32) then (1 : Int32) else (0 : Int32))), .val (.int (if z_2 = (10 : Int32) then (1 : Int32) else (0 : Int32))), .val (.int (if z_3 = (10 : Int32) then (1 : Int32) else (0 : Int32))), .val (.int ((((1 : Int32) + (if z_1 = (10 : Int32) then (1 : Int32) else (0 : Int32))) + (if z_2 = (10 : Int32) then (1 : Int32) else (0 : Int32))) + (if z_3 = (10 : Int32) then (1 : Int32) else (0 : Int32)))), .unset] [])) _)
              refine XS.iconst X24.here hx rfl (hb hby at_233) (?_ : Steps p.tables e below (T24.setTop (mkF m 234 #[.val (.int x0), .val (.int x1), .val (.int x2), .val (.int x3), .val (.int z_1), .val (.int z_2), .val (.int z_3), .val (.ref b4), .val (.int (1 : Int32)), .val (.int (if z_1 = (10 : Int32) then (1 : Int32) else (0 : Int32))), .val (.int (if z_2 = (10 : Int32) then (1 : Int32) else (0 : Int32))), .val (.int (if z_3 = (10 : Int32) then (1 : Int32) else (0 : Int32))), .val (.int ((((1 : Int32) + (if z_1 = (10 : Int32) then (1 : Int32) else (0 : Int32))) + (if z_2 = (10 : Int32) then (1 : Int32) else (0 : Int32))) + (if z_3 = (10 : Int32) then (1 : Int32) else (0 : Int32)))), .unset] [(.int (3 : Int32))])) _)
              refine XS.istore X24.here hx rfl (hb hby at_234) rfl (l' := #[.val (.int x0), .val (.int x1), .val (.int x2), .val (.int x3), .val (.int z_1), .val (.int z_2), .val (.int z_3), .val (.ref b4), .val (.int (1 : Int32)), .val (.int (if z_1 = (10 : Int32) then (1 : Int32) else (0 : Int32))), .val (.int (if z_2 = (10 : Int32) then (1 : Int32) else (0 : Int32))), .val (.int (if z_3 = (10 : Int32) then (1 : Int32) else (0 : Int32))), .val (.int ((((1 : Int32) + (if z_1 = (10 : Int32) then (1 : Int32) else (0 : Int32))) + (if z_2 = (10 : Int32) then (1 : Int32) else (0 : Int32))) + (if z_3 = (10 : Int32) then (1 : Int32) else (0 : Int32)))), .val (.int (3 : Int32))]) rfl (?_ : Steps p.tables e below (T24.setTop (mkF m 236 #[.val (.int x0), .val (.int x1), .val (.int x2), .val (.int x3), .val (.int z_1), .val (.int z_2), .val (.int z_3), .val (.ref b4), .val (.int (1 : Int32)), .val (.int (if z_1 = (10 : Int32) then (1 : Int32) else (0 : Int32))), .val (.int (if z_2 = (10 : Int32) then (1 : Int32) else (0 : Int32))), .val (.int (if z_3 = (10 : Int32) then (1 : Int32) else (0 : Int32))), .val (.int ((((1 : Int32) + (if z_1 = (10 : Int32) then (1 : Int32) else (0 : Int32))) + (if z_2 = (10 : Int32) then (1 : Int32) else (0 : Int32))) + (if z_3 = (10 : Int32) then (1 : Int32) else (0 : Int32)))), .val (.int (3 : Int32))] [])) _)
              refine XS.goto X24.here hx rfl (pc0 := 236) (pc' := 242) rfl (hb hby at_236) (by decide) (by decide) (?_ : Steps p.tables e below (T24.setTop (mkF m 242 #[.val (.int x0), .val (.int x1), .val (.int x2), .val (.int x3), .val (.int z_1), .val (.int z_2), .val (.int z_3), .val (.ref b4), .val (.int (1 : Int32)), .val (.int (if z_1 = (10 : Int32) then (1 : Int32) else (0 : Int32))), .val (.int (if z_2 = (10 : Int32) then (1 : Int32) else (0 : Int32))), .val (.int (if z_3 = (10 : Int32) then (1 : Int32) else (0 : Int32))), .val (.int ((((1 : Int32) + (if z_1 = (10 : Int32) then (1 : Int32) else (0 : Int32))) + (if z_2 = (10 : Int32) then (1 : Int32) else (0 : Int32))) + (if z_3 = (10 : Int32) then (1 : Int32) else (0 : Int32)))), .val (.int (3 : Int32))] [])) _)
              simpa only [if_pos hc34] using k
            · refine XS.ifYes X24.here hx rfl (pc0 := 230) (pc' := 239) rfl (hb hby at_230) rfl ((if0 _ _).trans (teq (if_neg hc34)).1) (by decide) (by decide) (?_ : Steps p.tables e below (T24.setTop (mkF m 239 #[.val (.int x0), .val (.int x1), .val (.int x2), .val (.int x3), .val (.int z_1), .val (.int z_2), .val (.int z_3), .val (.ref b4), .val (.int (1 : Int32)), .val (.int (if z_1 = (10 : Int32) then (1 : Int32) else (0 : Int32))), .val (.int (if z_2 = (10 : Int32) then (1 : Int32) else (0 : Int32))), .val (.int (if z_3 = (10 : Int32) then (1 : Int32) else (0 : Int32))), .val (.int ((((1 : Int32) + (if z_1 = (10 : Int32) then (1 : Int32) else (0 : Int32))) + (if z_2 = (10 : Int32) then (1 : Int32) else (0 : Int32))) + (if z_3 = (10 : Int32) then (1 : Int32) else (0 : Int32)))), .unset] [])) _)
              refine XS.iconst X24.here hx rfl (hb hby at_239) (?_ : Steps p.tables e below (T24.setTop (mkF m 240 #[.val (.int x0), .val (.int x1), .val (.int x2), .val (.int x3), .val (.int z_1), .val (.int z_2), .val (.int z_3), .val (.ref b4), .val (.int (1 : Int32)), .val (.int (if z_1 = (10 : Int32) then (1 : Int32) else (0 : Int32))), .val (.int (if z_2 = (10 : Int32) then (1 : Int32) else (0 : Int32))), .val (.int (if z_3 = (10 : Int32) then (1 : Int32) else (0 : Int32))), .val (.int ((((1 : Int32) + (if z_1 = (10 : Int32) then (1 : Int32) else (0 : Int32))) + (if z_2 = (10 : Int32) then (1 : Int32) else (0 : Int32))) + (if z_3 = (10 : Int32) then (1 : Int32) else (0 : Int32)))), .unset] [(.int (4 : Int32))])) _)
              refine XS.istore X24.here hx rfl (hb hby at_240) rfl (l' := #[.val (.int x0), .val (.int x1), .val (.int x2), .val (.int x3), .val (.int z_1), .val (.int z_2), .val (.int z_3), .val (.ref b4), .val (.int (1 : Int32)), .val (.int (if z_1 = (10 : Int32) then (1 : Int32) else (0 : Int32))), .val (.int (if z_2 = (10 : Int32) then (1 : Int32) else (0 : Int32))), .val (.int (if z_3 = (10 : Int32) then (1 : Int32) else (0 : Int32))), .val (.int ((((1 : Int32) + (if z_1 = (10 : Int32) then (1 : Int32) else (0 : Int32))) + (if z_2 = (10 : Int32) then (1 : Int32) else (0 : Int32))) + (if z_3 = (10 : Int32) then (1 : Int32) else (0 : Int32)))), .val (.int (4 : Int32))]) rfl (?_ : Steps p.tables e below (T24.setTop (mkF m 242 #[.val (.int x0), .val (.int x1), .val (.int x2), .val (.int x3), .val (.int z_1), .val (.int z_2), .val (.int z_3), .val (.ref b4), .val (.int (1 : Int32)), .val (.int (if z_1 = (10 : Int32) then (1 : Int32) else (0 : Int32))), .val (.int (if z_2 = (10 : Int32) then (1 : Int32) else (0 : Int32))), .val (.int (if z_3 = (10 : Int32) then (1 : Int32) else (0 : Int32))), .val (.int ((((1 : Int32) + (if z_1 = (10 : Int32) then (1 : Int32) else (0 : Int32))) + (if z_2 = (10 : Int32) then (1 : Int32) else (0 : Int32))) + (if z_3 = (10 : Int32) then (1 : Int32) else (0 : Int32)))), .val (.int (4 : Int32))] [])) _)
              simpa only [if_neg hc34] using k
          simpa only [if_neg hc33] using k
      simpa only [if_neg hc32] using k
  refine own_step (st' := T24.setTop (mkF m 244 #[.val (.int x0), .val (.int x1), .val (.int x2), .val (.int x3), .val (.int z_1), .val (.int z_2), .val (.int z_3), .val (.ref b4), .val (.int (1 : Int32)), .val (.int (if z_1 = (10 : Int32) then (1 : Int32) else (0 : Int32))), .val (.int (if z_2 = (10 : Int32) then (1 : Int32) else (0 : Int32))), .val (.int (if z_3 = (10 : Int32) then (1 : Int32) else (0 : Int32))), .val (.int ((((1 : Int32) + (if z_1 = (10 : Int32) then (1 : Int32) else (0 : Int32))) + (if z_2 = (10 : Int32) then (1 : Int32) else (0 : Int32))) + (if z_3 = (10 : Int32) then (1 : Int32) else (0 : Int32)))), .val (.int (if z_3 = (10 : Int32) then (1 : Int32) else (if z_2 = (10 : Int32) then (2 : Int32) else (if z_1 = (10 : Int32) then (3 : Int32) else (4 : Int32)))))] [(.int (1 : Int32))])) (fun t k => XS.iload X24.here hx rfl (hb hby at_242) rfl k) ?_
  refine own_step (st' := T24.setTop (mkF m 247 #[.val (.int x0), .val (.int x1), .val (.int x2), .val (.int x3), .val (.int z_1), .val (.int z_2), .val (.int z_3), .val (.ref b4), .val (.int (1 : Int32)), .val (.int (if z_1 = (10 : Int32) then (1 : Int32) else (0 : Int32))), .val (.int (if z_2 = (10 : Int32) then (1 : Int32) else (0 : Int32))), .val (.int (if z_3 = (10 : Int32) then (1 : Int32) else (0 : Int32))), .val (.int ((((1 : Int32) + (if z_1 = (10 : Int32) then (1 : Int32) else (0 : Int32))) + (if z_2 = (10 : Int32) then (1 : Int32) else (0 : Int32))) + (if z_3 = (10 : Int32) then (1 : Int32) else (0 : Int32)))), .val (.int (if z_3 = (10 : Int32) then (1 : Int32) else (if z_2 = (10 : Int32) then (2 : Int32) else (if z_1 = (10 : Int32) then (3 : Int32) else (4 : Int32)))))] [])) (fun t k => XS.ifNo X24.here hx rfl (hb hby at_244) rfl ((if0 _ _).trans (feq (by decide)).1) k) ?_
  refine own_step (st' := T24.setTop (mkF m 249 #[.val (.int x0), .val (.int x1), .val (.int x2), .val (.int x3), .val (.int z_1), .val (.int z_2), .val (.int z_3), .val (.ref b4), .val (.int (1 : Int32)), .val (.int (if z_1 = (10 : Int32) then (1 : Int32) else (0 : Int32))), .val (.int (if z_2 = (10 : Int32) then (1 : Int32) else (0 : Int32))), .val (.int (if z_3 = (10 : Int32) then (1 : Int32) else (0 : Int32))), .val (.int ((((1 : Int32) + (if z_1 = (10 : Int32) then (1 : Int32) else (0 : Int32))) + (if z_2 = (10 : Int32) then (1 : Int32) else (0 : Int32))) + (if z_3 = (10 : Int32) then (1 : Int32) else (0 : Int32)))), .val (.int (if z_3 = (10 : Int32) then (1 : Int32) else (if z_2 = (10 : Int32) then (2 : Int32) else (if z_1 = (10 : Int32) then (3 : Int32) else (4 : Int32)))))] [(.ref b4)])) (fun t k => XS.aload X24.here hx rfl (hb hby at_247) rfl rfl k) ?_
  obtain ⟨cq35, kq35, q35a, q35b, q35c⟩ := isOf hZ e24 f25
  obtain ⟨_, _, ⟨T35, L35, k35, n35⟩, -, X35, ⟨Lc35, hQ35, l35, y35, z35⟩, st35⟩ := X24.virtualBack hx (y := (⟨"com/example/lookahead/lookahead/core/TextPosition", "line", "()I"⟩ : MethodName)) (z := (⟨"com/example/lookahead/lookahead/core/TextPosition", "line", "()I"⟩ : MethodName)) hown (mvT hZ (hw _ (List.mem_of_getElem? (i := 17) rfl))) (mvT hZ (hw _ (List.mem_of_getElem? (i := 18) rfl))) (notFace_of_selects (args := #[]) (mvT hZ (hw _ (List.mem_of_getElem? (i := 20) rfl)))) (mvT hZ (hw _ (List.mem_of_getElem? (i := 20) rfl))) (mvT hZ (hw _ (List.mem_of_getElem? (i := 19) rfl))) (by decide) (backOf (W := 0) (rm4 l Z a0 hw [] b4 (if z_3 = (10 : Int32) then ((if z_2 = (10 : Int32) then ((if z_1 = (10 : Int32) then ((1 : Int32) + (1 : Int32)) else (1 : Int32)) + (1 : Int32)) else (if z_1 = (10 : Int32) then ((1 : Int32) + (1 : Int32)) else (1 : Int32))) + (1 : Int32)) else (if z_2 = (10 : Int32) then ((if z_1 = (10 : Int32) then ((1 : Int32) + (1 : Int32)) else (1 : Int32)) + (1 : Int32)) else (if z_1 = (10 : Int32) then ((1 : Int32) + (1 : Int32)) else (1 : Int32)))) h24 n0 Z26 pq24_0) hZ (hw _ (List.mem_of_getElem? (i := 21) rfl)) (hw _ (List.mem_of_getElem? (i := 6) rfl)) (by decide) (by decide)) q35a q35c (g := (mkF m 249 #[.val (.int x0), .val (.int x1), .val (.int x2), .val (.int x3), .val (.int z_1), .val (.int z_2), .val (.int z_3), .val (.ref b4), .val (.int (1 : Int32)), .val (.int (if z_1 = (10 : Int32) then (1 : Int32) else (0 : Int32))), .val (.int (if z_2 = (10 : Int32) then (1 : Int32) else (0 : Int32))), .val (.int (if z_3 = (10 : Int32) then (1 : Int32) else (0 : Int32))), .val (.int ((((1 : Int32) + (if z_1 = (10 : Int32) then (1 : Int32) else (0 : Int32))) + (if z_2 = (10 : Int32) then (1 : Int32) else (0 : Int32))) + (if z_3 = (10 : Int32) then (1 : Int32) else (0 : Int32)))), .val (.int (if z_3 = (10 : Int32) then (1 : Int32) else (if z_2 = (10 : Int32) then (2 : Int32) else (if z_1 = (10 : Int32) then (3 : Int32) else (4 : Int32)))))] [(.ref b4)])) rfl (by rw [hml]; rfl) (Steps.refl _) (argsL := []) (rest := []) (lenOf pd_2 rfl) rfl (by show 2 * 0 + _ ≤ _; exact Nat.le_of_eq rfl) (hb hby at_249) (fun _ _ => ⟨rfl, e24, (by decide : 1 + 0 ≤ _), (by decide : 2 + 0 ≤ _)⟩)
  dsimp only [Pt.U, Pt.locs, Pt.cells, Pt.slots] at X35 l35 y35 z35 st35 hQ35
  subst l35 y35 z35
  obtain ⟨rfl, N35q, e35⟩ := hQ35
  have N35 := Fr.app N24 N35q
  refine own_step (st' := T35.setTop (mkF m 252 #[.val (.int x0), .val (.int x1), .val (.int x2), .val (.int x3), .val (.int z_1), .val (.int z_2), .val (.int z_3), .val (.ref b4), .val (.int (1 : Int32)), .val (.int (if z_1 = (10 : Int32) then (1 : Int32) else (0 : Int32))), .val (.int (if z_2 = (10 : Int32) then (1 : Int32) else (0 : Int32))), .val (.int (if z_3 = (10 : Int32) then (1 : Int32) else (0 : Int32))), .val (.int ((((1 : Int32) + (if z_1 = (10 : Int32) then (1 : Int32) else (0 : Int32))) + (if z_2 = (10 : Int32) then (1 : Int32) else (0 : Int32))) + (if z_3 = (10 : Int32) then (1 : Int32) else (0 : Int32)))), .val (.int (if z_3 = (10 : Int32) then (1 : Int32) else (if z_2 = (10 : Int32) then (2 : Int32) else (if z_1 = (10 : Int32) then (3 : Int32) else (4 : Int32)))))] [(.int (if z_3 = (10 : Int32) then ((if z_2 = (10 : Int32) then ((if z_1 = (10 : Int32) then ((1 : Int32) + (1 : Int32)) else (1 : Int32)) + (1 : Int32)) else (if z_1 = (10 : Int32) then ((1 : Int32) + (1 : Int32)) else (1 : Int32))) + (1 : Int32)) else (if z_2 = (10 : Int32) then ((if z_1 = (10 : Int32) then ((1 : Int32) + (1 : Int32)) else (1 : Int32)) + (1 : Int32)) else (if z_1 = (10 : Int32) then ((1 : Int32) + (1 : Int32)) else (1 : Int32)))))])) (fun t k => st35.trans k) ?_
  refine own_step (st' := T35.setTop (mkF m 254 #[.val (.int x0), .val (.int x1), .val (.int x2), .val (.int x3), .val (.int z_1), .val (.int z_2), .val (.int z_3), .val (.ref b4), .val (.int (1 : Int32)), .val (.int (if z_1 = (10 : Int32) then (1 : Int32) else (0 : Int32))), .val (.int (if z_2 = (10 : Int32) then (1 : Int32) else (0 : Int32))), .val (.int (if z_3 = (10 : Int32) then (1 : Int32) else (0 : Int32))), .val (.int ((((1 : Int32) + (if z_1 = (10 : Int32) then (1 : Int32) else (0 : Int32))) + (if z_2 = (10 : Int32) then (1 : Int32) else (0 : Int32))) + (if z_3 = (10 : Int32) then (1 : Int32) else (0 : Int32)))), .val (.int (if z_3 = (10 : Int32) then (1 : Int32) else (if z_2 = (10 : Int32) then (2 : Int32) else (if z_1 = (10 : Int32) then (3 : Int32) else (4 : Int32)))))] [(.int ((((1 : Int32) + (if z_1 = (10 : Int32) then (1 : Int32) else (0 : Int32))) + (if z_2 = (10 : Int32) then (1 : Int32) else (0 : Int32))) + (if z_3 = (10 : Int32) then (1 : Int32) else (0 : Int32)))), (.int (if z_3 = (10 : Int32) then ((if z_2 = (10 : Int32) then ((if z_1 = (10 : Int32) then ((1 : Int32) + (1 : Int32)) else (1 : Int32)) + (1 : Int32)) else (if z_1 = (10 : Int32) then ((1 : Int32) + (1 : Int32)) else (1 : Int32))) + (1 : Int32)) else (if z_2 = (10 : Int32) then ((if z_1 = (10 : Int32) then ((1 : Int32) + (1 : Int32)) else (1 : Int32)) + (1 : Int32)) else (if z_1 = (10 : Int32) then ((1 : Int32) + (1 : Int32)) else (1 : Int32)))))])) (fun t k => XS.iload X35.here hx rfl (hb hby at_252) rfl k) ?_
  refine own_step (st' := T35.setTop (mkF m 257 #[.val (.int x0), .val (.int x1), .val (.int x2), .val (.int x3), .val (.int z_1), .val (.int z_2), .val (.int z_3), .val (.ref b4), .val (.int (1 : Int32)), .val (.int (if z_1 = (10 : Int32) then (1 : Int32) else (0 : Int32))), .val (.int (if z_2 = (10 : Int32) then (1 : Int32) else (0 : Int32))), .val (.int (if z_3 = (10 : Int32) then (1 : Int32) else (0 : Int32))), .val (.int ((((1 : Int32) + (if z_1 = (10 : Int32) then (1 : Int32) else (0 : Int32))) + (if z_2 = (10 : Int32) then (1 : Int32) else (0 : Int32))) + (if z_3 = (10 : Int32) then (1 : Int32) else (0 : Int32)))), .val (.int (if z_3 = (10 : Int32) then (1 : Int32) else (if z_2 = (10 : Int32) then (2 : Int32) else (if z_1 = (10 : Int32) then (3 : Int32) else (4 : Int32)))))] [])) (fun t k => XS.icmpNo X35.here hx rfl (hb hby at_254) rfl (teq (by by_cases q0 : z_1 = (10 : Int32) <;> by_cases q1 : z_2 = (10 : Int32) <;> by_cases q2 : z_3 = (10 : Int32); all_goals simp [q0, q1, q2])).2 k) ?_
  refine own_step (st' := T35.setTop (mkF m 259 #[.val (.int x0), .val (.int x1), .val (.int x2), .val (.int x3), .val (.int z_1), .val (.int z_2), .val (.int z_3), .val (.ref b4), .val (.int (1 : Int32)), .val (.int (if z_1 = (10 : Int32) then (1 : Int32) else (0 : Int32))), .val (.int (if z_2 = (10 : Int32) then (1 : Int32) else (0 : Int32))), .val (.int (if z_3 = (10 : Int32) then (1 : Int32) else (0 : Int32))), .val (.int ((((1 : Int32) + (if z_1 = (10 : Int32) then (1 : Int32) else (0 : Int32))) + (if z_2 = (10 : Int32) then (1 : Int32) else (0 : Int32))) + (if z_3 = (10 : Int32) then (1 : Int32) else (0 : Int32)))), .val (.int (if z_3 = (10 : Int32) then (1 : Int32) else (if z_2 = (10 : Int32) then (2 : Int32) else (if z_1 = (10 : Int32) then (3 : Int32) else (4 : Int32)))))] [(.ref b4)])) (fun t k => XS.aload X35.here hx rfl (hb hby at_257) rfl rfl k) ?_
  obtain ⟨cq36, kq36, q36a, q36b, q36c⟩ := isOf hZ e35 f25
  obtain ⟨_, _, ⟨T36, L36, k36, n36⟩, -, X36, ⟨Lc36, hQ36, l36, y36, z36⟩, st36⟩ := X35.virtualBack hx (y := (⟨"com/example/lookahead/lookahead/core/TextPosition", "column", "()I"⟩ : MethodName)) (z := (⟨"com/example/lookahead/lookahead/core/TextPosition", "column", "()I"⟩ : MethodName)) hown (mvT hZ (hw _ (List.mem_of_getElem? (i := 22) rfl))) (mvT hZ (hw _ (List.mem_of_getElem? (i := 23) rfl))) (notFace_of_selects (args := #[]) (mvT hZ (hw _ (List.mem_of_getElem? (i := 25) rfl)))) (mvT hZ (hw _ (List.mem_of_getElem? (i := 25) rfl))) (mvT hZ (hw _ (List.mem_of_getElem? (i := 24) rfl))) (by decide) (backOf (W := 0) (rm5 l Z a0 hw [] b4 (if z_3 = (10 : Int32) then (1 : Int32) else ((if z_2 = (10 : Int32) then (1 : Int32) else ((if z_1 = (10 : Int32) then (1 : Int32) else ((1 : Int32) + (1 : Int32))) + (1 : Int32))) + (1 : Int32))) h24 n0 Z26 pq24_1) hZ (hw _ (List.mem_of_getElem? (i := 26) rfl)) (hw _ (List.mem_of_getElem? (i := 6) rfl)) (by decide) (by decide)) q36a q36c (g := (mkF m 259 #[.val (.int x0), .val (.int x1), .val (.int x2), .val (.int x3), .val (.int z_1), .val (.int z_2), .val (.int z_3), .val (.ref b4), .val (.int (1 : Int32)), .val (.int (if z_1 = (10 : Int32) then (1 : Int32) else (0 : Int32))), .val (.int (if z_2 = (10 : Int32) then (1 : Int32) else (0 : Int32))), .val (.int (if z_3 = (10 : Int32) then (1 : Int32) else (0 : Int32))), .val (.int ((((1 : Int32) + (if z_1 = (10 : Int32) then (1 : Int32) else (0 : Int32))) + (if z_2 = (10 : Int32) then (1 : Int32) else (0 : Int32))) + (if z_3 = (10 : Int32) then (1 : Int32) else (0 : Int32)))), .val (.int (if z_3 = (10 : Int32) then (1 : Int32) else (if z_2 = (10 : Int32) then (2 : Int32) else (if z_1 = (10 : Int32) then (3 : Int32) else (4 : Int32)))))] [(.ref b4)])) rfl (by rw [hml]; rfl) (Steps.refl _) (argsL := []) (rest := []) (lenOf pd_2 rfl) rfl (by show 2 * 0 + _ ≤ _; exact Nat.le_of_eq rfl) (hb hby at_259) (fun _ _ => ⟨rfl, e35, (by decide : 1 + 0 ≤ _), (by decide : 2 + 0 ≤ _)⟩)
  dsimp only [Pt.U, Pt.locs, Pt.cells, Pt.slots] at X36 l36 y36 z36 st36 hQ36
  subst l36 y36 z36
  obtain ⟨rfl, N36q, e36⟩ := hQ36
  have N36 := Fr.app N35 N36q
  refine own_step (st' := T36.setTop (mkF m 262 #[.val (.int x0), .val (.int x1), .val (.int x2), .val (.int x3), .val (.int z_1), .val (.int z_2), .val (.int z_3), .val (.ref b4), .val (.int (1 : Int32)), .val (.int (if z_1 = (10 : Int32) then (1 : Int32) else (0 : Int32))), .val (.int (if z_2 = (10 : Int32) then (1 : Int32) else (0 : Int32))), .val (.int (if z_3 = (10 : Int32) then (1 : Int32) else (0 : Int32))), .val (.int ((((1 : Int32) + (if z_1 = (10 : Int32) then (1 : Int32) else (0 : Int32))) + (if z_2 = (10 : Int32) then (1 : Int32) else (0 : Int32))) + (if z_3 = (10 : Int32) then (1 : Int32) else (0 : Int32)))), .val (.int (if z_3 = (10 : Int32) then (1 : Int32) else (if z_2 = (10 : Int32) then (2 : Int32) else (if z_1 = (10 : Int32) then (3 : Int32) else (4 : Int32)))))] [(.int (if z_3 = (10 : Int32) then (1 : Int32) else ((if z_2 = (10 : Int32) then (1 : Int32) else ((if z_1 = (10 : Int32) then (1 : Int32) else ((1 : Int32) + (1 : Int32))) + (1 : Int32))) + (1 : Int32))))])) (fun t k => st36.trans k) ?_
  refine own_step (st' := T36.setTop (mkF m 264 #[.val (.int x0), .val (.int x1), .val (.int x2), .val (.int x3), .val (.int z_1), .val (.int z_2), .val (.int z_3), .val (.ref b4), .val (.int (1 : Int32)), .val (.int (if z_1 = (10 : Int32) then (1 : Int32) else (0 : Int32))), .val (.int (if z_2 = (10 : Int32) then (1 : Int32) else (0 : Int32))), .val (.int (if z_3 = (10 : Int32) then (1 : Int32) else (0 : Int32))), .val (.int ((((1 : Int32) + (if z_1 = (10 : Int32) then (1 : Int32) else (0 : Int32))) + (if z_2 = (10 : Int32) then (1 : Int32) else (0 : Int32))) + (if z_3 = (10 : Int32) then (1 : Int32) else (0 : Int32)))), .val (.int (if z_3 = (10 : Int32) then (1 : Int32) else (if z_2 = (10 : Int32) then (2 : Int32) else (if z_1 = (10 : Int32) then (3 : Int32) else (4 : Int32)))))] [(.int (if z_3 = (10 : Int32) then (1 : Int32) else (if z_2 = (10 : Int32) then (2 : Int32) else (if z_1 = (10 : Int32) then (3 : Int32) else (4 : Int32))))), (.int (if z_3 = (10 : Int32) then (1 : Int32) else ((if z_2 = (10 : Int32) then (1 : Int32) else ((if z_1 = (10 : Int32) then (1 : Int32) else ((1 : Int32) + (1 : Int32))) + (1 : Int32))) + (1 : Int32))))])) (fun t k => XS.iload X36.here hx rfl (hb hby at_262) rfl k) ?_
  refine own_step (st' := T36.setTop (mkF m 267 #[.val (.int x0), .val (.int x1), .val (.int x2), .val (.int x3), .val (.int z_1), .val (.int z_2), .val (.int z_3), .val (.ref b4), .val (.int (1 : Int32)), .val (.int (if z_1 = (10 : Int32) then (1 : Int32) else (0 : Int32))), .val (.int (if z_2 = (10 : Int32) then (1 : Int32) else (0 : Int32))), .val (.int (if z_3 = (10 : Int32) then (1 : Int32) else (0 : Int32))), .val (.int ((((1 : Int32) + (if z_1 = (10 : Int32) then (1 : Int32) else (0 : Int32))) + (if z_2 = (10 : Int32) then (1 : Int32) else (0 : Int32))) + (if z_3 = (10 : Int32) then (1 : Int32) else (0 : Int32)))), .val (.int (if z_3 = (10 : Int32) then (1 : Int32) else (if z_2 = (10 : Int32) then (2 : Int32) else (if z_1 = (10 : Int32) then (3 : Int32) else (4 : Int32)))))] [])) (fun t k => XS.icmpNo X36.here hx rfl (hb hby at_264) rfl (teq (by by_cases q0 : z_1 = (10 : Int32) <;> by_cases q1 : z_2 = (10 : Int32) <;> by_cases q2 : z_3 = (10 : Int32); all_goals simp [q0, q1, q2])).2 k) ?_
  refine own_step (st' := T36.setTop (mkF m 268 #[.val (.int x0), .val (.int x1), .val (.int x2), .val (.int x3), .val (.int z_1), .val (.int z_2), .val (.int z_3), .val (.ref b4), .val (.int (1 : Int32)), .val (.int (if z_1 = (10 : Int32) then (1 : Int32) else (0 : Int32))), .val (.int (if z_2 = (10 : Int32) then (1 : Int32) else (0 : Int32))), .val (.int (if z_3 = (10 : Int32) then (1 : Int32) else (0 : Int32))), .val (.int ((((1 : Int32) + (if z_1 = (10 : Int32) then (1 : Int32) else (0 : Int32))) + (if z_2 = (10 : Int32) then (1 : Int32) else (0 : Int32))) + (if z_3 = (10 : Int32) then (1 : Int32) else (0 : Int32)))), .val (.int (if z_3 = (10 : Int32) then (1 : Int32) else (if z_2 = (10 : Int32) then (2 : Int32) else (if z_1 = (10 : Int32) then (3 : Int32) else (4 : Int32)))))] [(.int (1 : Int32))])) (fun t k => XS.iconst X36.here hx rfl (hb hby at_267) k) ?_
  refine own_step (st' := T36.setTop (mkF m 272 #[.val (.int x0), .val (.int x1), .val (.int x2), .val (.int x3), .val (.int z_1), .val (.int z_2), .val (.int z_3), .val (.ref b4), .val (.int (1 : Int32)), .val (.int (if z_1 = (10 : Int32) then (1 : Int32) else (0 : Int32))), .val (.int (if z_2 = (10 : Int32) then (1 : Int32) else (0 : Int32))), .val (.int (if z_3 = (10 : Int32) then (1 : Int32) else (0 : Int32))), .val (.int ((((1 : Int32) + (if z_1 = (10 : Int32) then (1 : Int32) else (0 : Int32))) + (if z_2 = (10 : Int32) then (1 : Int32) else (0 : Int32))) + (if z_3 = (10 : Int32) then (1 : Int32) else (0 : Int32)))), .val (.int (if z_3 = (10 : Int32) then (1 : Int32) else (if z_2 = (10 : Int32) then (2 : Int32) else (if z_1 = (10 : Int32) then (3 : Int32) else (4 : Int32)))))] [(.int (1 : Int32))])) (fun t k => XS.goto X36.here hx rfl (pc0 := 268) (pc' := 272) rfl (hb hby at_268) (by decide) (by decide) k) ?_
  refine own_ret X36 Bd.notSynchronized (some (.int (1 : Int32))) (fun h => by rw [Bd.returns] at h; cases h) (fun fs hr => retN X36 hx (t := .boolean) Bd.returns (by simp) (hb hby at_272) hr) ?_ (by decide) (by decide)
  rw [e36]
  exact ⟨rfl, N36⟩
set_option maxRecDepth 65536 in
set_option maxHeartbeats 40000000 in
theorem comes_1 {Post : Tables → Env → Array Value → State → Outcome → State → Prop} (hpost : ∀ tb e args s v u, (limb_1_1.after args s (.returned v) u = true ∧ limb_1_2.after args s (.returned v) u = true ∧ True) → FrameEnd s (.returned v) u (Jvm.fieldLocs frame_1_writes args s ++ Jvm.arrayLocs frame_1_arrays args s ++ Jvm.staticLocs frame_1_statics s) 16 128 → Post tb e args s (.returned v) u) :
    ArmFor flags0 classFile x code maxLocals ret World_1 tables_1 room_1 Calls_1 rest_1 Pre_1 Post := by
  intro l hfl _ _ p e ha hc hk s m args below hf hA hF happ hP
  obtain ⟨hcalls, hrest, hpre⟩ := hP
  obtain ⟨-, -, -, hnamed, -, -, -, hat⟩ := (Spec.applies_iff hf).mp happ
  obtain ⟨hg, hn⟩ := and_e (Cond.before_iff.mp (show (Jvm.Cond.and given_1 narrow_1).before args s = true from hpre))
  obtain ⟨hcount, hg0⟩ := and_e hg
  obtain ⟨ha0, hg1⟩ := and_e hg0
  obtain ⟨ha1, hg2⟩ := and_e hg1
  obtain ⟨ha2, hg3⟩ := and_e hg2
  obtain ⟨w0, w1, w2, w3, rfl⟩ : ∃ w0 w1 w2 w3 : Value, args = #[w0, w1, w2, w3] := by
    have hs : args.size = 4 := by simpa [Cond.value, given_1] using hcount
    obtain ⟨L⟩ := args
    match L, hs with
    | [w0, w1, w2, w3], _ => exact ⟨w0, w1, w2, w3, rfl⟩
  have hw := fun d (hd : d ∈ tables_1) => atoms_spec (ws := Jvm.Cond.code x code maxLocals ret :: tables_1) hat d (List.mem_cons_of_mem _ hd)
  have hfit : Fit s := fun {y c} hc i hi => by
    obtain ⟨ha, rfl⟩ := Array.getElem?_eq_some_iff.mp hc
    have q := List.all_eq_true.mp ((Array.all_eq_true_iff_forall_mem.mp hF) _ (Array.getElem_mem ha)) i (List.mem_range.mpr hi)
    simpa [Array.getElem?_eq_getElem hi] using q
  obtain ⟨i0, ei0⟩ := is_v ha0
  obtain rfl : w0 = (.int i0) := Option.some.inj ei0
  obtain ⟨i1, ei1⟩ := is_v ha1
  obtain rfl : w1 = (.int i1) := Option.some.inj ei1
  obtain ⟨i2, ei2⟩ := is_v ha2
  obtain rfl : w2 = (.int i2) := Option.some.inj ei2
  obtain ⟨i3, ei3⟩ := is_v hg3
  obtain rfl : w3 = (.int i3) := Option.some.inj ei3
  obtain ⟨n, o, h1, h2, h3, _, L, rfl, ⟨rfl, N⟩, hq⟩ := rm0 l s _ hw tables_1 i0 i1 i2 i3 s.heap s.heap.size (Nat.le_refl _) p e ha hc hk s m _ below hf ((Spec.applies_iff_loose hf).mp happ).1 ⟨rfl, State.Warmed39.refl s, rfl⟩ trivial
  refine ⟨n, _, h1, h2, h3, hpost _ _ _ _ _ _ ⟨Cond.after_iff.mpr rfl, Cond.after_iff.mpr (eq_i res_at (Term.int_eval (1)) rfl), trivial⟩ ⟨hq.1, hq.2.1, (hq.2.2.sift fun y hy => Or.inr (N y hy)).mono (by decide) (by decide)⟩⟩
theorem main_1_1 : Claimed_1_1 := comes_1 fun _ _ _ _ _ _ h hF => ⟨h.1, hF⟩
theorem main_1_2 : Claimed_1_2 := comes_1 fun _ _ _ _ _ _ h hF => ⟨h.2.1, hF⟩
end Jvm.Pilot.@@N@@
namespace Jvm.Pilot.@@N@@
open Jvm Jvm.ClassFile Sem Op Lib Jvm.Free Jvm.Stand Jvm.Pilot.@@N@@.Jvm.D
/-! MADE BY PROGRAM (witnessworld.py) out of the Statement's table words and the real class files: 9 classes; the members and pool entries that the words name. The judged class is class 1, her method 2. -/
namespace start1
open Jvm.ClassFile
def u (s : String) : CpInfo := .utf8 (stringToUtf16 s)
/-- a pool by its gaps: so many unusable entries, then the entry; so many at the end -/
def gap : Nat → List CpInfo → List CpInfo
  | 0, r => r
  | n + 1, r => .unusable :: gap n r
def poolList (es : List (Nat × CpInfo)) (last : Nat) : List CpInfo := es.foldr (fun e r => gap e.1 (e.2 :: r)) (gap last [])
def pool (es : List (Nat × CpInfo)) (last : Nat) : Array CpInfo := ⟨poolList es last⟩
def fileOf (pool : Array CpInfo) (this : Nat) (attrs : Array Attribute := #[]) (ms : Array MethodInfo := #[]) (fl : Nat := 33) (sup : Nat := 0) (ifs : Array Nat := #[]) (fds : Array FieldInfo := #[]) : ClassFile where
  minorVersion := 0
  majorVersion := 65
  constantPool := pool
  accessFlags := fl
  thisClass := this
  superClass := sup
  interfaces := ifs
  fields := fds
  methods := ms
  attributes := attrs
def plain (name : String) (sup : Option ClassId) : Class where
  name := name
  kind := .ordinary
  loader := none
  accessFlags := 33
  super := sup
  interfaces := #[]
  cf := none
  fields := #[]
  methods := #[]
  instanceTypes := #[]
  staticTypes := #[]
  resolved := #[]
  callSites := []
  init := .initialized
  statics := none
  mirror := none

def pool0 : Array CpInfo := pool [(5, u "<init>"), (0, u "()V"), (1, .class_ 10), (1, u "java/lang/Object")] 113

def k0c0 : Code := { maxStack := 0, maxLocals := 1, code := object_method_1_code, exceptionTable := #[], attributes := #[] }
def k0m0 : Method := { name := "<init>", desc := "()V", sig := { parameters := [], returnType := none }, accessFlags := 1, code := some k0c0 }
/-- java/lang/Object -/
def k0 : Class := { plain "java/lang/Object" none with
  accessFlags := 33
  interfaces := #[]
  cf := some (fileOf pool0 8 #[] #[{ accessFlags := 1, nameIndex := 5, descriptorIndex := 6, attributes := #[] }] 33 0 #[] #[])
  fields := #[]
  methods := #[k0m0]
  instanceTypes := #[]
  staticTypes := #[]
  resolved := Array.replicate 124 none
  statics := none }

def pool1 : Array CpInfo := pool [(2, .class_ 4), (0, .nameAndType 5 6), (0, u "java/lang/Object"), (0, u "<init>"), (0, u "()V"), (0, .methodref 8 9), (0, .class_ 10), (0, .nameAndType 11 12), (0, u "com/example/lookahead/lookahead/core/TextPositionPassPinLaw"), (0, u "pick"), (0, u "(II)I"), (0, .class_ 14), (0, u "com/example/lookahead/lookahead/core/TextPosition"), (0, .methodref 13 3), (0, .methodref 13 17), (0, .nameAndType 18 19), (0, u "line"), (0, u "()I"), (0, .methodref 13 21), (0, .nameAndType 22 19), (0, u "column"), (0, .methodref 13 24), (0, .nameAndType 25 26), (0, u "pass"), (0, u "(I)V"), (3, u "law"), (0, u "(IIII)Z")] 2

def k1m0 : Method := { name := "<init>", desc := "()V", sig := { parameters := [], returnType := none }, accessFlags := 1, code := none }
def k1c1 : Code := { maxStack := 2, maxLocals := 3, code := method_2_code, exceptionTable := #[], attributes := #[] }
def k1m1 : Method := { name := "pick", desc := "(II)I", sig := { parameters := [.int, .int], returnType := some .int }, accessFlags := 10, code := some k1c1 }
def k1c2 : Code := { maxStack := 3, maxLocals := 14, code := code, exceptionTable := #[], attributes := #[] }
def k1m2 : Method := { name := "law", desc := "(IIII)Z", sig := { parameters := [.int, .int, .int, .int], returnType := some .boolean }, accessFlags := 9, code := some k1c2 }
/-- com/example/lookahead/lookahead/core/TextPositionPassPinLaw -/
def k1 : Class := { plain "com/example/lookahead/lookahead/core/TextPositionPassPinLaw" (some 0) with
  accessFlags := 49
  interfaces := #[]
  cf := some (fileOf pool1 8 #[] #[{ accessFlags := 1, nameIndex := 5, descriptorIndex := 6, attributes := #[] }, { accessFlags := 10, nameIndex := 11, descriptorIndex := 12, attributes := #[] }, { accessFlags := 9, nameIndex := 30, descriptorIndex := 31, attributes := #[] }] 49 2 #[] #[])
  fields := #[]
  methods := #[k1m0, k1m1, k1m2]
  instanceTypes := #[]
  staticTypes := #[]
  resolved := Array.replicate 34 none
  statics := none }

def pool2 : Array CpInfo := pool [(1, .methodref 2 3), (0, .class_ 4), (0, .nameAndType 5 6), (0, u "java/lang/Object"), (0, u "<init>"), (0, u "()V"), (0, .fieldref 8 9), (0, .class_ 10), (0, .nameAndType 11 12), (0, u "com/example/lookahead/lookahead/core/TextPosition"), (0, u "line"), (0, u "I"), (0, .fieldref 8 14), (0, .nameAndType 15 12), (0, u "column"), (8, u "pass"), (0, u "(I)V"), (8, u "()I")] 2

def k2c0 : Code := { maxStack := 2, maxLocals := 1, code := prog_49_method_1_code, exceptionTable := #[], attributes := #[] }
def k2m0 : Method := { name := "<init>", desc := "()V", sig := { parameters := [], returnType := none }, accessFlags := 1, code := some k2c0 }
def k2c1 : Code := { maxStack := 3, maxLocals := 2, code := prog_49_method_2_code, exceptionTable := #[], attributes := #[] }
def k2m1 : Method := { name := "pass", desc := "(I)V", sig := { parameters := [.int], returnType := none }, accessFlags := 1, code := some k2c1 }
def k2c2 : Code := { maxStack := 1, maxLocals := 1, code := prog_49_method_4_code, exceptionTable := #[], attributes := #[] }
def k2m2 : Method := { name := "line", desc := "()I", sig := { parameters := [], returnType := some .int }, accessFlags := 1, code := some k2c2 }
def k2c3 : Code := { maxStack := 1, maxLocals := 1, code := prog_49_method_5_code, exceptionTable := #[], attributes := #[] }
def k2m3 : Method := { name := "column", desc := "()I", sig := { parameters := [], returnType := some .int }, accessFlags := 1, code := some k2c3 }
/-- com/example/lookahead/lookahead/core/TextPosition -/
def k2 : Class := { plain "com/example/lookahead/lookahead/core/TextPosition" (some 0) with
  accessFlags := 49
  interfaces := #[]
  cf := some (fileOf pool2 8 #[] #[{ accessFlags := 1, nameIndex := 5, descriptorIndex := 6, attributes := #[] }, { accessFlags := 1, nameIndex := 24, descriptorIndex := 25, attributes := #[] }, { accessFlags := 1, nameIndex := 11, descriptorIndex := 34, attributes := #[] }, { accessFlags := 1, nameIndex := 15, descriptorIndex := 34, attributes := #[] }] 49 2 #[] #[{ accessFlags := 2, nameIndex := 11, descriptorIndex := 12, attributes := #[] }, { accessFlags := 2, nameIndex := 15, descriptorIndex := 12, attributes := #[] }])
  fields := #[{ name := "line", type := .int, accessFlags := 2, slot := 0, constantValue := 0 }, { name := "column", type := .int, accessFlags := 2, slot := 1, constantValue := 0 }]
  methods := #[k2m0, k2m1, k2m2, k2m3]
  instanceTypes := #[.int, .int]
  staticTypes := #[]
  resolved := Array.replicate 37 none
  statics := none }

def pool3 : Array CpInfo := pool [(1, u "java/lang/Cloneable"), (0, .class_ 1), (0, u "java/lang/Object"), (0, .class_ 3)] 3

/-- java/lang/Cloneable -/
def k3 : Class := { plain "java/lang/Cloneable" (some 0) with
  accessFlags := 1537
  interfaces := #[]
  cf := some (fileOf pool3 2 #[] #[] 1537 4 #[] #[])
  fields := #[]
  methods := #[]
  instanceTypes := #[]
  staticTypes := #[]
  resolved := Array.replicate 8 none
  statics := none }

def pool4 : Array CpInfo := pool [(1, u "java/io/Serializable"), (0, .class_ 1), (0, u "java/lang/Object"), (0, .class_ 3)] 3

/-- java/io/Serializable -/
def k4 : Class := { plain "java/io/Serializable" (some 0) with
  accessFlags := 1537
  interfaces := #[]
  cf := some (fileOf pool4 2 #[] #[] 1537 4 #[] #[])
  fields := #[]
  methods := #[]
  instanceTypes := #[]
  staticTypes := #[]
  resolved := Array.replicate 8 none
  statics := none }

/-- the primitive byte -/
def k5 : Class := { plain "byte" none with kind := .primitive 'B', accessFlags := 0x411 }
/-- [B -/
def k6 : Class := { plain "[B" (some 0) with kind := .array 5 .byte, interfaces := #[3, 4], accessFlags := 1041 }

/-- the primitive int -/
def k7 : Class := { plain "int" none with kind := .primitive 'I', accessFlags := 0x411 }
/-- [I -/
def k8 : Class := { plain "[I" (some 0) with kind := .array 7 .int, interfaces := #[3, 4], accessFlags := 1041 }

def heap : Heap := #[]
def classes : Array Class := #[k0, k1, k2, k3, k4, k5, k6, k7, k8]
def interned : List (Array UInt16 × Addr) := []
def slotsUsed : Nat := 0
def theMethod : MethodId := ⟨1, 2⟩
def args0 : Array Value := #[.int 5, .int 7, .int 3, .int 2]
def aboutOver (below : List Frame) : State where
  vm := { classes := classes, interned := interned.toArray }
  heap := heap
  slotsUsed := slotsUsed
  threads := #[{ frames := .invoking theMethod args0 :: below }]
def below0 : List Frame := [.native { method := ⟨0, 0⟩, args := #[] }]
def about1 : State := aboutOver below0
def p0 : Program := .bare "" "" ""
def e0 : Env := launch0.env 0 0 0
theorem w_frames : about1.frames = Frame.invoking theMethod args0 :: below0 := rfl
set_option maxRecDepth 65536 in
theorem w_args : argsFit about1.vm theMethod args0 = true := by decide +kernel
set_option maxRecDepth 65536 in
theorem w_heap : heapFits about1 = true := by decide +kernel
set_option maxRecDepth 65536 in
theorem w_runnable : about1.curStatus? = some .runnable := by decide +kernel
set_option maxRecDepth 65536 in
theorem w_alone : about1.alone = true := by decide +kernel
set_option maxRecDepth 65536 in
theorem w_named : about1.methodNamed? x = some theMethod := by decide +kernel
set_option maxRecDepth 65536 in
theorem w_hears : about1.hears theMethod below0 = true := by decide +kernel
set_option maxRecDepth 65536 in
theorem w_ripe : about1.ripe theMethod args0 below0 = true := by decide +kernel
theorem w_running : about1.status = .running := rfl
set_option maxRecDepth 65536 in
theorem w_room : about1.hasRoom e0.platform room_1 = true :=
  launch0.hasRoom_least _ room_1 (by decide +kernel) (by decide +kernel) (by decide +kernel) (by decide +kernel) (by decide +kernel) (by decide +kernel)
theorem allAtoms_all (ts : List Jvm.Cond) (a : Array Jvm.Value) (st : Jvm.State) : (allAtoms ts).before a st = ts.all (fun c => c.before a st) := by
  induction ts with
  | nil => rfl
  | cons c t ih =>
    show (Jvm.Cond.and c (allAtoms t)).before a st = _
    rw [Jvm.Cond.before_and, ih, List.all_cons]
def words1 : List Jvm.Cond := Jvm.Cond.code x code maxLocals ret :: tables_1
/-- a 'code' word, met by the world's own term for the bytes: nothing is compared byte by byte -/
theorem code_word {y : MethodName} {bytes : ByteArray} {mx : Nat} {rt : Option FieldType} {a : Array Value} {s : State} {m : MethodId} {meth : Method} {c : Code} (h1 : s.methodNamed? y = some m) (h2 : s.vm.method? m = some meth) (h3 : meth.code = some c) (h4 : c.code = bytes)
    (h5 : (c.maxLocals == mx && c.exceptionTable.isEmpty && decide (c.maxStack ≤ mostOperands) && decide (meth.sig.returnType = rt) && !meth.locks && decide (parseMethodDescriptor y.desc = some meth.sig)) = true) : (Jvm.Cond.code y bytes mx rt).before a s = true := by
  simp only [Bool.and_eq_true, beq_iff_eq, Bool.not_eq_true', decide_eq_true_eq] at h5
  obtain ⟨⟨⟨⟨⟨g1, g2⟩, g3⟩, g4⟩, g5⟩, g6⟩ := h5
  simp [Cond.before, Cond.holds, Cond.value, h1, h2, h3, h4, g1, g2, g3, g4, g5, g6]
def isCode : Jvm.Cond → Bool
  | .code _ _ _ _ => true
  | _ => false
theorem all_split {L : List Jvm.Cond} {P : Jvm.Cond → Bool} (h1 : L.all (fun c => isCode c || P c) = true) (h2 : ∀ c ∈ L.filter isCode, P c = true) : L.all P = true := by
  refine List.all_eq_true.mpr fun c hc => ?_
  have h := List.all_eq_true.mp h1 c hc
  rcases Bool.eq_false_or_eq_true (isCode c) with hi | hi
  · exact h2 c (List.mem_filter.mpr ⟨hc, hi⟩)
  · simpa [hi] using h
set_option maxRecDepth 65536 in
theorem w_c0 : (Jvm.Cond.code x code maxLocals ret).before args0 about1 = true := code_word (m := ⟨1, 2⟩) (meth := k1m2) (c := k1c2) (by decide +kernel) rfl rfl rfl (by decide +kernel)
set_option maxRecDepth 65536 in
theorem w_c1 : (Jvm.Cond.code ({ cls := "com/example/lookahead/lookahead/core/TextPositionPassPinLaw", name := "pick", desc := "(II)I" } : Jvm.MethodName) method_2_code (3 : Nat) (Option.some Jvm.ClassFile.FieldType.int)).before args0 about1 = true := code_word (m := ⟨1, 1⟩) (meth := k1m1) (c := k1c1) (by decide +kernel) rfl rfl rfl (by decide +kernel)
set_option maxRecDepth 65536 in
theorem w_c2 : (Jvm.Cond.code ({ cls := "com/example/lookahead/lookahead/core/TextPosition", name := "<init>", desc := "()V" } : Jvm.MethodName) prog_49_method_1_code (1 : Nat) (Option.none : Option Jvm.ClassFile.FieldType)).before args0 about1 = true := code_word (m := ⟨2, 0⟩) (meth := k2m0) (c := k2c0) (by decide +kernel) rfl rfl rfl (by decide +kernel)
set_option maxRecDepth 65536 in
theorem w_c3 : (Jvm.Cond.code ({ cls := "java/lang/Object", name := "<init>", desc := "()V" } : Jvm.MethodName) object_method_1_code (1 : Nat) (Option.none : Option Jvm.ClassFile.FieldType)).before args0 about1 = true := code_word (m := ⟨0, 0⟩) (meth := k0m0) (c := k0c0) (by decide +kernel) rfl rfl rfl (by decide +kernel)
set_option maxRecDepth 65536 in
theorem w_c4 : (Jvm.Cond.code ({ cls := "com/example/lookahead/lookahead/core/TextPosition", name := "line", desc := "()I" } : Jvm.MethodName) prog_49_method_4_code (1 : Nat) (Option.some Jvm.ClassFile.FieldType.int)).before args0 about1 = true := code_word (m := ⟨2, 2⟩) (meth := k2m2) (c := k2c2) (by decide +kernel) rfl rfl rfl (by decide +kernel)
set_option maxRecDepth 65536 in
theorem w_c5 : (Jvm.Cond.code ({ cls := "com/example/lookahead/lookahead/core/TextPosition", name := "column", desc := "()I" } : Jvm.MethodName) prog_49_method_5_code (1 : Nat) (Option.some Jvm.ClassFile.FieldType.int)).before args0 about1 = true := code_word (m := ⟨2, 3⟩) (meth := k2m3) (c := k2c3) (by decide +kernel) rfl rfl rfl (by decide +kernel)
set_option maxRecDepth 65536 in
theorem w_c6 : (Jvm.Cond.code ({ cls := "com/example/lookahead/lookahead/core/TextPosition", name := "pass", desc := "(I)V" } : Jvm.MethodName) prog_49_method_2_code (2 : Nat) (Option.none : Option Jvm.ClassFile.FieldType)).before args0 about1 = true := code_word (m := ⟨2, 1⟩) (meth := k2m1) (c := k2c1) (by decide +kernel) rfl rfl rfl (by decide +kernel)
def codes1 : List Jvm.Cond := [Jvm.Cond.code x code maxLocals ret, Jvm.Cond.code ({ cls := "com/example/lookahead/lookahead/core/TextPositionPassPinLaw", name := "pick", desc := "(II)I" } : Jvm.MethodName) method_2_code (3 : Nat) (Option.some Jvm.ClassFile.FieldType.int), Jvm.Cond.code ({ cls := "com/example/lookahead/lookahead/core/TextPosition", name := "<init>", desc := "()V" } : Jvm.MethodName) prog_49_method_1_code (1 : Nat) (Option.none : Option Jvm.ClassFile.FieldType), Jvm.Cond.code ({ cls := "java/lang/Object", name := "<init>", desc := "()V" } : Jvm.MethodName) object_method_1_code (1 : Nat) (Option.none : Option Jvm.ClassFile.FieldType), Jvm.Cond.code ({ cls := "com/example/lookahead/lookahead/core/TextPosition", name := "line", desc := "()I" } : Jvm.MethodName) prog_49_method_4_code (1 : Nat) (Option.some Jvm.ClassFile.FieldType.int), Jvm.Cond.code ({ cls := "com/example/lookahead/lookahead/core/TextPosition", name := "column", desc := "()I" } : Jvm.MethodName) prog_49_method_5_code (1 : Nat) (Option.some Jvm.ClassFile.FieldType.int), Jvm.Cond.code ({ cls := "com/example/lookahead/lookahead/core/TextPosition", name := "pass", desc := "(I)V" } : Jvm.MethodName) prog_49_method_2_code (2 : Nat) (Option.none : Option Jvm.ClassFile.FieldType)]
set_option maxRecDepth 65536 in
theorem codes_eq : words1.filter isCode = codes1 := rfl
theorem w_codes : ∀ c ∈ words1.filter isCode, c.before args0 about1 = true := by
  rw [codes_eq]
  intro c hc
  simp only [codes1, List.mem_cons, List.not_mem_nil, or_false] at hc
  rcases hc with rfl | rfl | rfl | rfl | rfl | rfl | rfl
  · exact w_c0
  · exact w_c1
  · exact w_c2
  · exact w_c3
  · exact w_c4
  · exact w_c5
  · exact w_c6
set_option maxRecDepth 65536 in
theorem w_t1 : (words1.take 24).all (fun c => isCode c || c.before args0 about1) = true := by decide +kernel
set_option maxRecDepth 65536 in
theorem w_t2 : (words1.drop 24).all (fun c => isCode c || c.before args0 about1) = true := by decide +kernel
theorem w_tables : (allAtoms (Jvm.Cond.code x code maxLocals ret :: tables_1)).before args0 about1 = true := by
  rw [allAtoms_all]
  show words1.all (fun c => c.before args0 about1) = true
  refine all_split ?_ w_codes
  rw [← List.take_append_drop 24 words1, List.all_append, w_t1, w_t2]
  rfl
set_option maxRecDepth 65536 in
theorem w_case : (Jvm.Cond.and given_1 narrow_1).before args0 about1 = true := by decide +kernel
theorem w_applies : (headSpec (Jvm.Cond.code x code maxLocals ret :: tables_1) room_1).applies x e0.platform about1 = true :=
  (Spec.applies_iff w_frames).mpr ⟨w_running, w_runnable, w_alone, w_named, w_hears, w_ripe, w_room, w_tables⟩
theorem atStart : AtStart classFile x code maxLocals ret World_1 tables_1 room_1 Calls_1 rest_1 Pre_1 launch0 p0 e0 about1 theMethod args0 below0 :=
  ⟨lists_1, trivial, launch0.admits_env _ _ _, launch0.least_env, fairChoices_fair.cas, fairChoices_fair.clock, w_frames, w_args, w_heap, w_applies, trivial, trivial, w_case⟩
end start1
theorem witness_1 : WitnessClaimed_1 := ⟨start1.p0, start1.e0, start1.about1, start1.theMethod, start1.args0, start1.below0, start1.atStart⟩
end Jvm.Pilot.@@N@@
