import JvmDerived
import JvmDerived.Pilot.@@N@@Statement
import JvmDerived.Pilot.@@N@@Code
set_option linter.unusedVariables false
set_option linter.unusedSimpArgs false
namespace Jvm.RoadKit
open Sem ClassFile Op Lib Jvm.Stand Jvm.Free Jvm.LawKit
section Own
variable {p : Program} {l : Launch} {e : Env} {R : Room} {s : State} {m : MethodId} {args : Array Value} {below : List Frame} {meth : Method} {c : Code} {T : State} {locs : List Loc} {cells slots : Nat} {Z : State} {h : Heap} {a : Addr} {k : ClassId} {n j : Int32} {vs : List Value} {dv : Value} {ty : FieldType}
theorem own_retI (X : Stand p l e R s m args below meth c T locs cells slots) (hx : p.tables.exec = Jvm.exec) {pc : Nat} {Ls : Array Slot} {z : Int32} {rest : List Value} (hret : meth.sig.returnType = some .int) (hd : decode c.code pc = .ok (.ireturn, 1)) {fs : List Frame}
    (hl : ∀ (f : JFrame) (acts : List Action), f.method = m → f.locked = none → f.entered = [] → (doReturn e (T.setTop f) acts (some (.int z))).1 = T.setFrames fs) : Steps p.tables e below (T.setTop (mkF m pc Ls (.int z :: rest))) (T.setFrames fs) :=
  retOut X hx hret rfl (Or.inl ⟨rfl, Or.inl rfl, _, rfl⟩) hd hl
/-- the run from st ends as the contract says -/
def own_Ends (p : Program) (e : Env) (below : List Frame) (s : State) (C S : Nat) (Q : Option Value → Heap → List Loc → Prop) (st : State) : Prop :=
  ∃ s₂ o, Steps p.tables e below st s₂ ∧ s₂.status = .running ∧ Ended s₂ below o ∧ ∃ v L, o = .returned v ∧ Q v s₂.heap L ∧ FrameEnd s o s₂ L C S
theorem own_step {C S : Nat} {Q : Option Value → Heap → List Loc → Prop} {st st' : State} (f : ∀ t, Steps p.tables e below st' t → Steps p.tables e below st t) (h : own_Ends p e below s C S Q st') : own_Ends p e below s C S Q st := by
  obtain ⟨s2, o, h1, h2⟩ := h
  exact ⟨s2, o, f _ h1, h2⟩
theorem own_sstep {st st' t : State} (f : ∀ t, Steps p.tables e below st' t → Steps p.tables e below st t) (h : Steps p.tables e below st' t) : Steps p.tables e below st t := f _ h
theorem own_ret (X : Stand p l e R s m args below meth c T locs cells slots) (hlocks : meth.locks = false) {C S : Nat} {Q : Option Value → Heap → List Loc → Prop} {g : JFrame} (v : Option Value) (hv : meth.sig.returnType = none → v = none)
    (st : ∀ fs, (∀ (f : JFrame) (acts : List Action), f.method = m → f.locked = none → f.entered = [] → (doReturn e (T.setTop f) acts v).1 = T.setFrames fs) → Steps p.tables e below (T.setTop g) (T.setFrames fs))
    (hQ : Q v T.heap locs) (hc : cells ≤ C) (hs : slots ≤ S) : own_Ends p e below s C S Q (T.setTop g) := by
  obtain ⟨fs, hr, hrun, hended, hW, hsame⟩ := X.leave (v := v) hv
  exact ⟨_, _, st fs hr, hrun, hended, _, _, rfl, hQ, ⟨_, rfl⟩, hW, hsame.mono hc hs⟩
theorem own_b1 {P : Prop} [Decidable P] (hp : P) : ¬ ((if P then (1 : Int32) else (0 : Int32)) = 0) := by rw [if_pos hp]; decide
theorem own_b1n {P : Prop} [Decidable P] (hp : ¬ P) : ¬ ((if P then (0 : Int32) else (1 : Int32)) = 0) := by rw [if_neg hp]; decide
theorem own_lrem {tb : Tables} [Ours tb] {target : State} {g : JFrame} (ha : At T m c below) (hx : tb.exec = Jvm.exec) (hg : g.method = m) {x y : Int64} {rest : List Value} (hd : decode c.code g.pc = .ok (.lrem, 1)) (hs : g.stack = .long y :: .long x :: rest) (hy : y ≠ 0) (hr : Steps tb e below (T.setTop { g with pc := g.pc + 1, stack := .long (x % y) :: rest }) target) : Steps tb e below (T.setTop g) target :=
  XS.lrem ha hx hg hd hs hy (by rw [lrem_mod]; exact hr)
theorem own_len (X : Stand p l e R s m args below meth c T locs cells slots) (hx : p.tables.exec = Jvm.exec) (hZ : Z.Warmed39 s.vm) (eT : T.heap = h) (A : Arv Z h a k ty n vs dv) {g : JFrame} (hg : g.method = m) {rest : List Value} (hs : g.stack = .ref a :: rest) (hd : decode c.code g.pc = .ok (.arraylength, 1)) :
    ∀ target, Steps p.tables e below (T.setTop { g with pc := g.pc + 1, stack := .int n :: rest }) target → Steps p.tables e below (T.setTop g) target := by
  obtain ⟨cl, Ar, -, S, N, -, -⟩ := A
  intro t k
  refine X.arraylength hx (by rw [eT]; exact Ar.1) (State.isArrayOf_alike hZ.alike Ar.2.1) hg hs hd t ?_
  rw [len_of S N]; exact k
theorem own_ldI (X : Stand p l e R s m args below meth c T locs cells slots) (hx : p.tables.exec = Jvm.exec) (hZ : Z.Warmed39 s.vm) (eT : T.heap = h) (A : Arv Z h a k .int n vs dv) {j : Int32} {v : Value} (hj : ¬ j < 0 ∧ j < n) (hv : vs.getD j.toNatClampNeg dv = v) {g : JFrame} (hg : g.method = m) {rest : List Value} (hs : g.stack = .int j :: .ref a :: rest) (hd : decode c.code g.pc = .ok (.iaload, 1)) :
    ∀ target, Steps p.tables e below (T.setTop { g with pc := g.pc + 1, stack := v :: rest }) target → Steps p.tables e below (T.setTop g) target := by
  obtain ⟨cl, Ar, -, S, N, H, -⟩ := A
  intro t k
  exact X.iaload hx (by rw [eT]; exact Ar.1) (State.isArrayOf_alike hZ.alike Ar.2.1) Ar.2.2 (inb_of S hj) (H.at (inb_of S hj) hv) hg hs hd t k
theorem own_ldJ (X : Stand p l e R s m args below meth c T locs cells slots) (hx : p.tables.exec = Jvm.exec) (hZ : Z.Warmed39 s.vm) (eT : T.heap = h) (A : Arv Z h a k .long n vs dv) {j : Int32} {v : Value} (hj : ¬ j < 0 ∧ j < n) (hv : vs.getD j.toNatClampNeg dv = v) {g : JFrame} (hg : g.method = m) {rest : List Value} (hs : g.stack = .int j :: .ref a :: rest) (hd : decode c.code g.pc = .ok (.laload, 1)) :
    ∀ target, Steps p.tables e below (T.setTop { g with pc := g.pc + 1, stack := v :: rest }) target → Steps p.tables e below (T.setTop g) target := by
  obtain ⟨cl, Ar, -, S, N, H, -⟩ := A
  intro t k
  exact X.laload hx (by rw [eT]; exact Ar.1) (State.isArrayOf_alike hZ.alike Ar.2.1) Ar.2.2 (inb_of S hj) (H.at (inb_of S hj) hv) hg hs hd t k
theorem own_ldC (X : Stand p l e R s m args below meth c T locs cells slots) (hx : p.tables.exec = Jvm.exec) (hZ : Z.Warmed39 s.vm) (eT : T.heap = h) (A : Arv Z h a k .char n vs dv) {j : Int32} {v : Value} (hj : ¬ j < 0 ∧ j < n) (hv : vs.getD j.toNatClampNeg dv = v) {g : JFrame} (hg : g.method = m) {rest : List Value} (hs : g.stack = .int j :: .ref a :: rest) (hd : decode c.code g.pc = .ok (.caload, 1)) :
    ∀ target, Steps p.tables e below (T.setTop { g with pc := g.pc + 1, stack := v :: rest }) target → Steps p.tables e below (T.setTop g) target := by
  obtain ⟨cl, Ar, -, S, N, H, -⟩ := A
  intro t k
  exact X.caload hx (by rw [eT]; exact Ar.1) (State.isArrayOf_alike hZ.alike Ar.2.1) Ar.2.2 (inb_of S hj) (H.at (inb_of S hj) hv) hg hs hd t k
theorem own_ldB (X : Stand p l e R s m args below meth c T locs cells slots) (hx : p.tables.exec = Jvm.exec) (hZ : Z.Warmed39 s.vm) (eT : T.heap = h) (A : Arv Z h a k .byte n vs dv) {j : Int32} {v : Value} (hj : ¬ j < 0 ∧ j < n) (hv : vs.getD j.toNatClampNeg dv = v) {g : JFrame} (hg : g.method = m) {rest : List Value} (hs : g.stack = .int j :: .ref a :: rest) (hd : decode c.code g.pc = .ok (.baload, 1)) :
    ∀ target, Steps p.tables e below (T.setTop { g with pc := g.pc + 1, stack := v :: rest }) target → Steps p.tables e below (T.setTop g) target := by
  obtain ⟨cl, Ar, -, S, N, H, -⟩ := A
  intro t k
  exact X.baloadBytes hx (by rw [eT]; exact Ar.1) (State.isArrayOf_alike hZ.alike Ar.2.1) Ar.2.2 (inb_of S hj) (H.at (inb_of S hj) hv) hg hs hd t k
theorem own_stI (X : Stand p l e R s m args below meth c T locs cells slots) (hx : p.tables.exec = Jvm.exec) (hZ : Z.Warmed39 s.vm) (eT : T.heap = h) (A : Arv Z h a k .int n vs dv) {j x : Int32} {i : Nat} (hj : ¬ j < 0 ∧ j < n) (hi : j.toNatClampNeg = i) (hl : i < vs.length) {g : JFrame} (hg : g.method = m) {rest : List Value} (hs : g.stack = .int x :: .int j :: .ref a :: rest) (hd : decode c.code g.pc = .ok (.iastore, 1)) :
    ∃ T' h', Stand p l e R s m args below meth c T' (locs ++ [⟨a, j.toNatClampNeg⟩]) cells slots ∧ T'.heap = h' ∧ Wr h h' a j.toNatClampNeg (.int x) ∧ Arv Z h' a k .int n (vs.set i (.int x)) dv ∧ ∀ target, Steps p.tables e below (T'.setTop { g with pc := g.pc + 1, stack := rest }) target → Steps p.tables e below (T.setTop g) target := by
  obtain ⟨cl, Ar, q, S, N, H, G⟩ := A
  obtain ⟨T', h', X', e', W, st⟩ := stI X hx hZ eT Ar (inb_of S hj) hg hs hd
  exact ⟨T', h', X', e', W, Arv.set Ar q S N H G rfl W i hi hl, st⟩
theorem own_stJ (X : Stand p l e R s m args below meth c T locs cells slots) (hx : p.tables.exec = Jvm.exec) (hZ : Z.Warmed39 s.vm) (eT : T.heap = h) (A : Arv Z h a k .long n vs dv) {j : Int32} {x : Int64} {i : Nat} (hj : ¬ j < 0 ∧ j < n) (hi : j.toNatClampNeg = i) (hl : i < vs.length) {g : JFrame} (hg : g.method = m) {rest : List Value} (hs : g.stack = .long x :: .int j :: .ref a :: rest) (hd : decode c.code g.pc = .ok (.lastore, 1)) :
    ∃ T' h', Stand p l e R s m args below meth c T' (locs ++ [⟨a, j.toNatClampNeg⟩]) cells slots ∧ T'.heap = h' ∧ Wr h h' a j.toNatClampNeg (.long x) ∧ Arv Z h' a k .long n (vs.set i (.long x)) dv ∧ ∀ target, Steps p.tables e below (T'.setTop { g with pc := g.pc + 1, stack := rest }) target → Steps p.tables e below (T.setTop g) target := by
  obtain ⟨cl, Ar, q, S, N, H, G⟩ := A
  obtain ⟨T', h', X', e', W, st⟩ := stJ X hx hZ eT Ar (inb_of S hj) hg hs hd
  exact ⟨T', h', X', e', W, Arv.set Ar q S N H G rfl W i hi hl, st⟩
theorem own_stB (X : Stand p l e R s m args below meth c T locs cells slots) (hx : p.tables.exec = Jvm.exec) (hZ : Z.Warmed39 s.vm) (eT : T.heap = h) (A : Arv Z h a k .byte n vs dv) {j x : Int32} {i : Nat} (hj : ¬ j < 0 ∧ j < n) (hi : j.toNatClampNeg = i) (hl : i < vs.length) {g : JFrame} (hg : g.method = m) {rest : List Value} (hs : g.stack = .int x :: .int j :: .ref a :: rest) (hd : decode c.code g.pc = .ok (.bastore, 1)) :
    ∃ T' h', Stand p l e R s m args below meth c T' (locs ++ [⟨a, j.toNatClampNeg⟩]) cells slots ∧ T'.heap = h' ∧ Wr h h' a j.toNatClampNeg (.int x.toInt8.toInt32) ∧ Arv Z h' a k .byte n (vs.set i (.int x.toInt8.toInt32)) dv ∧ ∀ target, Steps p.tables e below (T'.setTop { g with pc := g.pc + 1, stack := rest }) target → Steps p.tables e below (T.setTop g) target := by
  obtain ⟨cl, Ar, q, S, N, H, G⟩ := A
  obtain ⟨T', h', X', e', W, st⟩ := stB X hx hZ eT Ar (inb_of S hj) hg hs hd
  exact ⟨T', h', X', e', W, Arv.set Ar q S N H G (fits_nar_byte x) W i hi hl, st⟩
theorem own_stC (X : Stand p l e R s m args below meth c T locs cells slots) (hx : p.tables.exec = Jvm.exec) (hZ : Z.Warmed39 s.vm) (eT : T.heap = h) (A : Arv Z h a k .char n vs dv) {j x : Int32} {i : Nat} (hj : ¬ j < 0 ∧ j < n) (hi : j.toNatClampNeg = i) (hl : i < vs.length) {g : JFrame} (hg : g.method = m) {rest : List Value} (hs : g.stack = .int x :: .int j :: .ref a :: rest) (hd : decode c.code g.pc = .ok (.castore, 1)) :
    ∃ T' h', Stand p l e R s m args below meth c T' (locs ++ [⟨a, j.toNatClampNeg⟩]) cells slots ∧ T'.heap = h' ∧ Wr h h' a j.toNatClampNeg (.int x.toUInt32.toUInt16.toUInt32.toInt32) ∧ Arv Z h' a k .char n (vs.set i (.int x.toUInt32.toUInt16.toUInt32.toInt32)) dv ∧ ∀ target, Steps p.tables e below (T'.setTop { g with pc := g.pc + 1, stack := rest }) target → Steps p.tables e below (T.setTop g) target := by
  obtain ⟨cl, Ar, q, S, N, H, G⟩ := A
  obtain ⟨T', h', X', e', W, st⟩ := stC X hx hZ eT Ar (inb_of S hj) hg hs hd
  exact ⟨T', h', X', e', W, Arv.set Ar q S N H G (fits_nar_char x) W i hi hl, st⟩
theorem own_eqI {t : Term} {q : Int32} (hq : (Jvm.Cond.eq t (.int q)).value args s none s [] = some true) : t.eval args s none [] s = some (.int q) := by
  obtain ⟨x, y, ha, hb, k1, k2⟩ := cmp_v (Or.inl hq)
  rw [Term.int_eval] at hb
  cases hb
  obtain ⟨z, rfl⟩ := k2
  simp [Cond.value, ha, Term.eval] at hq
  rw [ha, hq]
theorem own_eqR {t u : Term} {b : Addr} (hq : (Jvm.Cond.eq t u).value args s none s [] = some true) (hu : u.eval args s none [] s = some (.ref b)) : t.eval args s none [] s = some (.ref b) := by
  obtain ⟨x, y, ha, hb, k1, k2⟩ := cmp_v (Or.inl hq)
  cases hu.symm.trans hb
  have q := gotT (eq_R ha hb k2.2 rfl) hq
  rw [ha, q]
theorem own_lenA {t : Term} {cl : Cell} {q : Int32} (ht : t.eval args s none [] s = some (.ref a)) (A : Arr s s.heap a cl ty) (hq : (Term.length t).eval args s none [] s = some (.int q)) : cl.slots.size < 2 ^ 31 ∧ cl.slots.size.toInt32 = q := by
  have ha := Arr.fin (U := s) (Vm.Alike.refl _) A
  by_cases hl : cl.slots.size < 2 ^ 31
  · rw [len_f ht ha hl] at hq
    exact ⟨hl, Value.int.inj (Option.some.inj hq)⟩
  · simp [Term.eval, ht, ha, hl] at hq
theorem own_ldR (X : Stand p l e R s m args below meth c T locs cells slots) (hx : p.tables.exec = Jvm.exec) (hZ : Z.Warmed39 s.vm) (eT : T.heap = h) (A : Arv Z h a k ty n vs dv) (hr : ty.isReference = true) {j : Int32} {v : Value} (hj : ¬ j < 0 ∧ j < n) (hv : vs.getD j.toNatClampNeg dv = v) {g : JFrame} (hg : g.method = m) {rest : List Value} (hs : g.stack = .int j :: .ref a :: rest) (hd : decode c.code g.pc = .ok (.aaload, 1)) :
    ∀ target, Steps p.tables e below (T.setTop { g with pc := g.pc + 1, stack := v :: rest }) target → Steps p.tables e below (T.setTop g) target := by
  obtain ⟨cl, Ar, -, S, N, H, -⟩ := A
  intro t k
  exact X.aaload hx (by rw [eT]; exact Ar.1) (State.isArrayOf_alike hZ.alike Ar.2.1) hr Ar.2.2 (inb_of S hj) (H.at (inb_of S hj) hv) hg hs hd t k
theorem own_nf {y y' : MethodName} (hc : y'.cls = y.cls) (w : (Jvm.Cond.instanceMethod y).before args s = true) (hn : NotFace s y) : NotFace s y' := fun r0 h0 => by
  obtain ⟨mk, methM, hnamed, -⟩ := Cond.instanceMethod_spec w
  obtain ⟨kr, h1, h2⟩ := hn mk hnamed
  have q1 := findClass_of_methodNamed hnamed
  have q2 := findClass_of_methodNamed h0
  rw [hc] at q2
  have q3 : mk.cls = r0.cls := Option.some.inj (q1.symm.trans q2)
  exact ⟨kr, q3 ▸ h1, h2⟩
theorem own_selp {y : MethodName} (w : (Jvm.Cond.instanceMethod y).before args s = true) (hn : NotFace s y) (hp : s.PrivateAt y) (hy : y.cls ≠ "java/lang/invoke/MethodHandle" ∧ y.cls ≠ "java/lang/invoke/VarHandle") : (Jvm.Cond.selects y.cls y y).before args s = true := by
  obtain ⟨mk, methM, hnamed, -⟩ := Cond.instanceMethod_spec w
  obtain ⟨kr, h1, h2⟩ := hn mk hnamed
  exact selects_self_of_private (findClass_of_methodNamed hnamed) h1 h2 hp w hy
theorem own_same {y : MethodName} (w : (Jvm.Cond.instanceMethod y).before args s = true) (hn : NotFace s y) (hy : y.cls ≠ "java/lang/invoke/MethodHandle" ∧ y.cls ≠ "java/lang/invoke/VarHandle") : (Jvm.Cond.sameMethod y.cls y.cls y.name y.desc).before args s = true := by
  obtain ⟨mk, methM, hnamed, -⟩ := Cond.instanceMethod_spec w
  obtain ⟨kr, h1, h2⟩ := hn mk hnamed
  have q1 := findClass_of_methodNamed hnamed
  have q2 := State.methodFound?_of_named hnamed hy
  have q3 : s.methodNamed? ⟨y.cls, y.name, y.desc⟩ = some mk := hnamed
  simp [Cond.before, Cond.holds, Cond.value, q1, q2, q3, h1, h2]
theorem own_stR (X : Stand p l e R s m args below meth c T locs cells slots) (hx : p.tables.exec = Jvm.exec) (hZ : Z.Warmed39 s.vm) (eT : T.heap = h) (A : Arv Z h a k ty n vs dv) (hr : ty.isReference = true) {j : Int32} {v : Value} {i : Nat} (F : Sto Z h a v) (hf : fits ty v = true) (hj : ¬ j < 0 ∧ j < n) (hi : j.toNatClampNeg = i) (hl : i < vs.length) {g : JFrame} (hg : g.method = m) {rest : List Value} (hs : g.stack = v :: .int j :: .ref a :: rest) (hd : decode c.code g.pc = .ok (.aastore, 1)) :
    ∃ T' h', Stand p l e R s m args below meth c T' (locs ++ [⟨a, j.toNatClampNeg⟩]) cells slots ∧ T'.heap = h' ∧ Wr h h' a j.toNatClampNeg v ∧ Arv Z h' a k ty n (vs.set i v) dv ∧ ∀ target, Steps p.tables e below (T'.setTop { g with pc := g.pc + 1, stack := rest }) target → Steps p.tables e below (T.setTop g) target := by
  obtain ⟨cl, Ar, q, S, N, H, G⟩ := A
  obtain ⟨T', h', X', e', W, st⟩ := stR X hx hZ eT Ar (inb_of S hj) hr F hg hs hd
  exact ⟨T', h', X', e', W, Arv.set Ar q S N H G hf W i hi hl, st⟩
theorem own_stoA {y : Addr} {C : String} {t0 : FieldType} (A : Arv Z h a k t0 n vs dv) (O : OvrA Z k ty C) (I : Ins Z h y C true) : Sto Z h a (.ref y) := by
  obtain ⟨cl, Ar, q, -⟩ := A
  exact Sto.ofVA Ar q O I
theorem own_stoV {y : Addr} {C : String} {t0 : FieldType} (A : Arv Z h a k t0 n vs dv) (O : Ovr Z k C) (I : Ins Z h y C true) : Sto Z h a (.ref y) := by
  obtain ⟨cl, Ar, q, -⟩ := A
  exact Sto.ofV Ar q O I
theorem own_getD_cp (vs vd : List Value) (dv dd : Value) (sp dp nn i : Nat) : ((vd ++ List.replicate (dp + nn) dd).take dp ++ ((List.range nn).map fun i => vs.getD (sp + i) dv) ++ (vd ++ List.replicate (dp + nn) dd).drop (dp + nn)).getD i dd = if dp ≤ i ∧ i < dp + nn then vs.getD (sp + (i - dp)) dv else vd.getD i dd := by
  have hlen : dp ≤ (vd ++ List.replicate (dp + nn) dd).length := by simp; omega
  have hpad := pad_rep vd dd (dp + nn) i
  by_cases h1 : i < dp
  · rw [if_neg (by omega), ← hpad]
    have e1 : ((vd ++ List.replicate (dp + nn) dd).take dp).length = dp := by rw [List.length_take]; omega
    rw [List.getD_eq_getElem?_getD, List.append_assoc, List.getElem?_append_left (by rw [e1]; exact h1), List.getElem?_take, if_pos h1, List.getD_eq_getElem?_getD]
  · by_cases h2 : i < dp + nn
    · rw [if_pos ⟨by omega, h2⟩]
      have e1 : ((vd ++ List.replicate (dp + nn) dd).take dp).length = dp := by rw [List.length_take]; omega
      rw [List.getD_eq_getElem?_getD, List.append_assoc, List.getElem?_append_right (by rw [e1]; omega), e1, List.getElem?_append_left (by simp; omega)]
      simp [show i - dp < nn by omega]
    · rw [if_neg (by omega), ← hpad]
      have e1 : ((vd ++ List.replicate (dp + nn) dd).take dp).length = dp := by rw [List.length_take]; omega
      rw [List.getD_eq_getElem?_getD, List.getElem?_append_right (by rw [List.length_append, e1]; simp; omega), List.getElem?_drop, List.getD_eq_getElem?_getD]
      congr 2
      rw [List.length_append, e1]; simp; omega
theorem own_cp {b : Addr} {a0 : Array Value} (X : Stand p l e R s m args below meth c T locs cells slots) (hx : p.tables.exec = Jvm.exec) (hZ : Z.Warmed39 s.vm) {own : String} {index : Nat} (hown : s.vm.findClass own = some m.cls)
    (w1 : (Cond.methodLink own index Jvm.Stand.acN).before a0 Z = true) (w2 : (Cond.native Jvm.Stand.acN).before a0 Z = true) (w3 : (Cond.static Jvm.Stand.acN).before a0 Z = true) (w4 : (Cond.initialized "java/lang/System").before a0 Z = true) (eT : T.heap = h)
    {k' : ClassId} {z z' sp dp nn : Int32} {vd : List Value} {dd : Value} (A : Arv Z h a k ty z vs dv) (B : Arv Z h b k' ty z' vd dd) (hty : refKind ty = false)
    (h1 : 0 ≤ sp.toInt) (h2 : 0 ≤ dp.toInt) (h3 : 0 ≤ nn.toInt) (h4 : sp.toInt + nn.toInt ≤ z.toInt) (h5 : dp.toInt + nn.toInt ≤ z'.toInt) {n0 : Nat} (N : Fr n0 locs) (ge : n0 ≤ b)
    {g : JFrame} (hg : g.method = m) (hsize : g.locals.size = c.maxLocals) {rest : List Value} (hs : g.stack = .int nn :: .int dp :: .ref b :: .int sp :: .ref a :: rest) (hd : decode c.code g.pc = .ok (.invokestatic index, 3))
    (hf : 1 ≤ R.frames) {W : Nat} (hW : 2 * g.monitorRoom + (rest.map fun v => v.category).sum ≤ W) (hlo : W + 18 ≤ R.locals) :
    ∃ T' h' L vd', Stand p l e R s m args below meth c T' L cells slots ∧ T'.heap = h' ∧ Fr n0 L ∧ Keep h h' [b] ∧ Arv Z h' b k' ty z' vd' dd ∧ (∀ i : Nat, vd'.getD i dd = if dp.toNatClampNeg ≤ i ∧ i < dp.toNatClampNeg + nn.toNatClampNeg then vs.getD (sp.toNatClampNeg + (i - dp.toNatClampNeg)) dv else vd.getD i dd) ∧
      ∀ target, Steps p.tables e below (T'.setTop { g with pc := g.pc + 3, stack := rest }) target → Steps p.tables e below (T.setTop g) target := by
  have e0 : (0 : Int32).toInt = 0 := by decide
  have lt : ∀ {x : Int32}, 0 ≤ x.toInt → ¬ x < 0 := fun q => by rw [Int32.lt_iff_toInt_lt]; omega
  have nz : ¬ z < 0 := lt (by omega)
  have nz' : ¬ z' < 0 := lt (by omega)
  have c1 := nat_of (lt h1); have c2 := nat_of (lt h2); have c3 := nat_of (lt h3); have c4 := nat_of nz; have c5 := nat_of nz'
  obtain ⟨T', h', L, X', e', N', K', V', st⟩ := cpA X hx hZ hown w1 w2 w3 w4 eT A (B.pad (pad_rep vd dd (dp.toNatClampNeg + nn.toNatClampNeg))) (us := _) (Or.inl ⟨rfl, hty⟩) (lt h1) (lt h2) (lt h3) (by omega) (by omega) rfl (by simp) N ge hg hsize hs hd hf hW (by exact hlo)
  exact ⟨T', h', L, _, X', e', N', K', V', fun i => own_getD_cp vs vd dv dd _ _ _ i, st⟩
end Own
end Jvm.RoadKit

namespace Jvm.Pilot.@@N@@
open Jvm Jvm.ClassFile Sem Op Lib Jvm.Free Jvm.Stand Jvm.LawKit Jvm.RoadKit Bundle Jvm.Pilot.@@N@@.Jvm.D
theorem pd_0 : parseMethodDescriptor "(J)V" = some ⟨[.long], none⟩ := by decide +kernel
theorem pd_1 : parseMethodDescriptor "()V" = some ⟨[], none⟩ := by decide +kernel
theorem pd_2 : parseMethodDescriptor "()J" = some ⟨[], some .long⟩ := by decide +kernel
theorem pd_3 : parseMethodDescriptor "(JJI)J" = some ⟨[.long, .long, .int], some .long⟩ := by decide +kernel
theorem pd_4 : parseMethodDescriptor "(J)Z" = some ⟨[.long], some .boolean⟩ := by decide +kernel
theorem pd_5 : parseMethodDescriptor "(JJ)J" = some ⟨[.long, .long], some .long⟩ := by decide +kernel

theorem own_succ {x : Int64} (h : x < (9223372036854775807 : Int64)) : x < x + (1 : Int64) := by
  rw [Int64.lt_iff_toInt_lt] at h ⊢
  have a := c_ladd x 1
  have b := rng64 x
  have d := rng64 (x + 1)
  have e1 : (1 : Int64).toInt = 1 := by decide
  have e2 : (9223372036854775807 : Int64).toInt = 9223372036854775807 := by decide
  omega

theorem d1_0 : decode prog_37_method_1_code 0 = .ok (.aload_n 0, 1) := by decide +kernel
theorem d1_1 : decode prog_37_method_1_code 1 = .ok (.invokespecial 1, 3) := by decide +kernel
theorem d1_4 : decode prog_37_method_1_code 4 = .ok (.aload_n 0, 1) := by decide +kernel
theorem d1_5 : decode prog_37_method_1_code 5 = .ok (.lload_n 1, 1) := by decide +kernel
theorem d1_6 : decode prog_37_method_1_code 6 = .ok (.putfield 7, 3) := by decide +kernel
theorem d1_9 : decode prog_37_method_1_code 9 = .ok (.aload_n 0, 1) := by decide +kernel
theorem d1_10 : decode prog_37_method_1_code 10 = .ok (.lload_n 1, 1) := by decide +kernel
theorem d1_11 : decode prog_37_method_1_code 11 = .ok (.putfield 13, 3) := by decide +kernel
theorem d1_14 : decode prog_37_method_1_code 14 = .ok (.return_, 1) := by decide +kernel
theorem pn_0 : plainName "com/example/alert_tree/alerttree/protocol/Room" = true := by first | (simp [plainName, overriddenIn]; done) | decide +kernel
theorem ef_1_RJ (m : MethodId) (x0 : Addr) (x1 : Int64) : entryFrame m #[(.ref x0), (.long x1)] 3 = mkF m 0 #[.val (.ref x0), .val (.long x1), .second] [] := by first | (simp [entryFrame, mkF, argsToLocals, Value.category]; done) | rfl
def Q_rm1 (Z : State) (x0 : Addr) (x1 : Int64) (h0 : Heap) (n0 : Nat) (v : Option Value) (h : Heap) (L : List Loc) : Prop := v = none ∧ Fr n0 L ∧ Keep h0 h [x0] ∧ Fld Z h x0 "com/example/alert_tree/alerttree/protocol/Room" "capacity" "J" (.long x1) ∧ Fld Z h x0 "com/example/alert_tree/alerttree/protocol/Room" "left" "J" (.long x1)
set_option maxRecDepth 65536 in
set_option maxHeartbeats 40000000 in
theorem rm1 (l : Launch) (Z : State) (a0 : Array Value) (hw : ∀ d ∈ tables_1, d.before a0 Z = true) (ws : List Jvm.Cond) (x0 : Addr) (x1 : Int64) (h0 : Heap) (n0 : Nat) (Z0 : n0 ≤ h0.size) (p_0 : Fld Z h0 x0 "com/example/alert_tree/alerttree/protocol/Room" "capacity" "J" (.long (0 : Int64))) (p_1 : Fld Z h0 x0 "com/example/alert_tree/alerttree/protocol/Room" "left" "J" (.long (0 : Int64))) (p_2 : Exa Z h0 x0 "com/example/alert_tree/alerttree/protocol/Room") (p_3 : n0 ≤ x0) :
    MetFree l (⟨"com/example/alert_tree/alerttree/protocol/Room", "<init>", "(J)V"⟩ : MethodName) (head1 (Jvm.Cond.code (⟨"com/example/alert_tree/alerttree/protocol/Room", "<init>", "(J)V"⟩ : MethodName) prog_37_method_1_code 3 none :: ws) ({ frames := 1, cells := 0, slots := 0, locals := 12 } : Room)) (fun a U => a = #[(.ref x0), (.long x1)] ∧ Z.Warmed39 U.vm ∧ U.heap = h0) (fun _ _ _ _ _ => True) (fun _ U o U' => ∃ v L, o = .returned v ∧ Q_rm1 Z x0 x1 h0 n0 v U'.heap L ∧ FrameEnd U o U' L ({ frames := 1, cells := 0, slots := 0, locals := 12 } : Room).cells ({ frames := 1, cells := 0, slots := 0, locals := 12 } : Room).slots) := by
  refine MetFree.of_bodySF (plainFor_of_name pn_0) hisR ?_
  intro p e s m args below meth c s₁ Bd hml0 hP hK
  obtain ⟨rfl, hZ, hh⟩ := hP
  have hx := Bd.exec
  have hby := Bd.bytes
  have hml : c.maxLocals = 3 := hml0
  have hown : s.vm.findClass "com/example/alert_tree/alerttree/protocol/Room" = some m.cls := findClass_of_methodNamed Bd.named
  have hnm := (name_of_methodNamed Bd.named Bd.method).1
  have X0 : Stand p l e ({ frames := 1, cells := 0, slots := 0, locals := 12 } : Room) s m #[(.ref x0), (.long x1)] below meth c s₁ [] 0 0 := Stand.of_body Bd
  have e0 : s₁.heap = h0 := by rw [← hh, Bd.state]; rfl
  have N0 := Fr.nil n0
  show own_Ends p e below s ({ frames := 1, cells := 0, slots := 0, locals := 12 } : Room).cells ({ frames := 1, cells := 0, slots := 0, locals := 12 } : Room).slots (Q_rm1 Z x0 x1 h0 n0) (s₁.setTop (entryFrame m #[(.ref x0), (.long x1)] 3))
  rw [ef_1_RJ]
  refine own_step (st' := s₁.setTop (mkF m 1 #[.val (.ref x0), .val (.long x1), .second] [(.ref x0)])) (fun t k => XS.aloadN X0.here hx rfl (hb hby d1_0) rfl rfl k) ?_
  obtain ⟨T1, X1, e1, st1⟩ := initO X0 hx hZ hown (hw _ (List.mem_of_getElem? (i := 7) rfl)) (hw _ (List.mem_of_getElem? (i := 8) rfl)) (hw _ (List.mem_of_getElem? (i := 9) rfl)) e0 (g := (mkF m 1 #[.val (.ref x0), .val (.long x1), .second] [(.ref x0)])) rfl (by rw [hml]; rfl) rfl (hb hby d1_1) (by decide) (W := 0) (by show 2 * 0 + _ ≤ _; exact Nat.le_of_eq rfl) (by decide)
  refine own_step (st' := T1.setTop (mkF m 4 #[.val (.ref x0), .val (.long x1), .second] [])) st1 ?_
  refine own_step (st' := T1.setTop (mkF m 5 #[.val (.ref x0), .val (.long x1), .second] [(.ref x0)])) (fun t k => XS.aloadN X1.here hx rfl (hb hby d1_4) rfl rfl k) ?_
  refine own_step (st' := T1.setTop (mkF m 6 #[.val (.ref x0), .val (.long x1), .second] [(.long x1), (.ref x0)])) (fun t k => XS.lloadN X1.here hx rfl (hb hby d1_5) rfl k) ?_
  obtain ⟨T2, h2, X2, e2, W2, st2⟩ := putF X1 hx hZ hown (host := "") (Or.inl (hw _ (List.mem_of_getElem? (i := 10) rfl))) Via.refl e1 p_0 p_2 (Or.inr ⟨(hw _ (List.mem_of_getElem? (i := 11) rfl)), rfl, hnm⟩) (hw _ (List.mem_of_getElem? (i := 2) rfl)) (ty := .long) (by decide) rfl rfl (g := (mkF m 6 #[.val (.ref x0), .val (.long x1), .second] [(.long x1), (.ref x0)])) rfl rfl (hb hby d1_6)
  have F2 := p_0.same W2
  have f3 := p_1.other W2 (Or.inr (slot_ne (Or.inl (hw _ (List.mem_of_getElem? (i := 13) rfl))) (Or.inr (hw _ (List.mem_of_getElem? (i := 11) rfl))) (by decide) (t := .long) (t' := .long) (by decide) (by decide)))
  have f4 := p_2.wr W2
  have K5 : Keep h0 h2 [x0] := (Keep.refl h0 [x0]).wr W2 (Or.inl (List.mem_of_getElem? (i := 0) rfl))
  have Z6 : n0 ≤ h2.size := Nat.le_trans Z0 (Keep.of_wr W2).1
  have N7 := Fr.snoc X2 N0 p_3
  refine own_step (st' := T2.setTop (mkF m 9 #[.val (.ref x0), .val (.long x1), .second] [])) st2 ?_
  refine own_step (st' := T2.setTop (mkF m 10 #[.val (.ref x0), .val (.long x1), .second] [(.ref x0)])) (fun t k => XS.aloadN X2.here hx rfl (hb hby d1_9) rfl rfl k) ?_
  refine own_step (st' := T2.setTop (mkF m 11 #[.val (.ref x0), .val (.long x1), .second] [(.long x1), (.ref x0)])) (fun t k => XS.lloadN X2.here hx rfl (hb hby d1_10) rfl k) ?_
  obtain ⟨T8, h8, X8, e8, W8, st8⟩ := putF X2 hx hZ hown (host := "") (Or.inl (hw _ (List.mem_of_getElem? (i := 12) rfl))) Via.refl e2 f3 f4 (Or.inl (hw _ (List.mem_of_getElem? (i := 13) rfl))) (hw _ (List.mem_of_getElem? (i := 2) rfl)) (ty := .long) (by decide) rfl rfl (g := (mkF m 11 #[.val (.ref x0), .val (.long x1), .second] [(.long x1), (.ref x0)])) rfl rfl (hb hby d1_11)
  have F8 := f3.same W8
  have f9 := f4.wr W8
  have f10 := F2.other W8 (Or.inr (slot_ne (Or.inr (hw _ (List.mem_of_getElem? (i := 11) rfl))) (Or.inl (hw _ (List.mem_of_getElem? (i := 13) rfl))) (by decide) (t := .long) (t' := .long) (by decide) (by decide)))
  have K11 : Keep h0 h8 [x0] := K5.wr W8 (Or.inl (List.mem_of_getElem? (i := 0) rfl))
  have Z12 : n0 ≤ h8.size := Nat.le_trans Z6 (Keep.of_wr W8).1
  have N13 := Fr.snoc X8 N7 p_3
  refine own_step (st' := T8.setTop (mkF m 14 #[.val (.ref x0), .val (.long x1), .second] [])) st8 ?_
  refine own_ret X8 Bd.notSynchronized (none) (fun _ => rfl) (fun fs hr => X8.returnOut hx Bd.returns (hb hby d1_14) hr) ?_ (by decide) (by decide)
  rw [e8]
  exact ⟨rfl, N13, K11, f10, F8⟩
theorem d3_0 : decode prog_37_method_2_code 0 = .ok (.aload_n 0, 1) := by decide +kernel
theorem d3_1 : decode prog_37_method_2_code 1 = .ok (.getfield 7, 3) := by decide +kernel
theorem d3_4 : decode prog_37_method_2_code 4 = .ok (.lreturn, 1) := by decide +kernel
theorem ef_3_R (m : MethodId) (x0 : Addr) : entryFrame m #[(.ref x0)] 1 = mkF m 0 #[.val (.ref x0)] [] := by first | (simp [entryFrame, mkF, argsToLocals, Value.category]; done) | rfl
def Q_rm3 (Z : State) (x0 : Addr) (n : Int64) (h0 : Heap) (n0 : Nat) (v : Option Value) (h : Heap) (L : List Loc) : Prop := v = some (.long n) ∧ Fr n0 L ∧ h = h0
set_option maxRecDepth 65536 in
set_option maxHeartbeats 40000000 in
theorem rm3 (l : Launch) (Z : State) (a0 : Array Value) (hw : ∀ d ∈ tables_1, d.before a0 Z = true) (ws : List Jvm.Cond) (x0 : Addr) (n : Int64) (h0 : Heap) (n0 : Nat) (Z0 : n0 ≤ h0.size) (p_0 : Fld Z h0 x0 "com/example/alert_tree/alerttree/protocol/Room" "capacity" "J" (.long n)) :
    MetFree l (⟨"com/example/alert_tree/alerttree/protocol/Room", "capacity", "()J"⟩ : MethodName) (head1 (Jvm.Cond.code (⟨"com/example/alert_tree/alerttree/protocol/Room", "capacity", "()J"⟩ : MethodName) prog_37_method_2_code 1 (some .long) :: ws) ({ frames := 0, cells := 0, slots := 0, locals := 0 } : Room)) (fun a U => a = #[(.ref x0)] ∧ Z.Warmed39 U.vm ∧ U.heap = h0) (fun _ _ _ _ _ => True) (fun _ U o U' => ∃ v L, o = .returned v ∧ Q_rm3 Z x0 n h0 n0 v U'.heap L ∧ FrameEnd U o U' L ({ frames := 0, cells := 0, slots := 0, locals := 0 } : Room).cells ({ frames := 0, cells := 0, slots := 0, locals := 0 } : Room).slots) := by
  refine MetFree.of_bodySF (plainFor_of_name pn_0) hisR ?_
  intro p e s m args below meth c s₁ Bd hml0 hP hK
  obtain ⟨rfl, hZ, hh⟩ := hP
  have hx := Bd.exec
  have hby := Bd.bytes
  have hml : c.maxLocals = 1 := hml0
  have hown : s.vm.findClass "com/example/alert_tree/alerttree/protocol/Room" = some m.cls := findClass_of_methodNamed Bd.named
  have hnm := (name_of_methodNamed Bd.named Bd.method).1
  have X0 : Stand p l e ({ frames := 0, cells := 0, slots := 0, locals := 0 } : Room) s m #[(.ref x0)] below meth c s₁ [] 0 0 := Stand.of_body Bd
  have e0 : s₁.heap = h0 := by rw [← hh, Bd.state]; rfl
  have N0 := Fr.nil n0
  show own_Ends p e below s ({ frames := 0, cells := 0, slots := 0, locals := 0 } : Room).cells ({ frames := 0, cells := 0, slots := 0, locals := 0 } : Room).slots (Q_rm3 Z x0 n h0 n0) (s₁.setTop (entryFrame m #[(.ref x0)] 1))
  rw [ef_3_R]
  refine own_step (st' := s₁.setTop (mkF m 1 #[.val (.ref x0)] [(.ref x0)])) (fun t k => XS.aloadN X0.here hx rfl (hb hby d3_0) rfl rfl k) ?_
  obtain ⟨T1, X1, e1, st1⟩ := getF X0 hx hZ hown (host := "") (Or.inl (hw _ (List.mem_of_getElem? (i := 10) rfl))) Via.refl e0 p_0 (g := (mkF m 1 #[.val (.ref x0)] [(.ref x0)])) rfl rfl (hb hby d3_1)
  refine own_step (st' := T1.setTop (mkF m 4 #[.val (.ref x0)] [(.long n)])) st1 ?_
  refine own_ret X1 Bd.notSynchronized (some (.long n)) (fun h => by rw [Bd.returns] at h; cases h) (fun fs hr => retOut X1 hx Bd.returns rfl (Or.inr (Or.inl ⟨rfl, rfl, _, rfl⟩)) (hb hby d3_4) hr) ?_ (by decide) (by decide)
  rw [e1]
  exact ⟨rfl, N0, rfl⟩
theorem d6_0 : decode jdk_29_method_66_code 0 = .ok (.lload_n 0, 1) := by decide +kernel
theorem d6_1 : decode jdk_29_method_66_code 1 = .ok (.lload_n 2, 1) := by decide +kernel
theorem d6_2 : decode jdk_29_method_66_code 2 = .ok (.lcmp, 1) := by decide +kernel
theorem d6_3 : decode jdk_29_method_66_code 3 = .ok (.ifCond .lt 7, 3) := by decide +kernel
theorem d6_6 : decode jdk_29_method_66_code 6 = .ok (.lload_n 0, 1) := by decide +kernel
theorem d6_7 : decode jdk_29_method_66_code 7 = .ok (.goto 4, 3) := by decide +kernel
theorem d6_10 : decode jdk_29_method_66_code 10 = .ok (.lload_n 2, 1) := by decide +kernel
theorem d6_11 : decode jdk_29_method_66_code 11 = .ok (.lreturn, 1) := by decide +kernel
theorem ef_6_JJ (m : MethodId) (x0 : Int64) (x1 : Int64) : entryFrame m #[(.long x0), (.long x1)] 4 = mkF m 0 #[.val (.long x0), .second, .val (.long x1), .second] [] := by first | (simp [entryFrame, mkF, argsToLocals, Value.category]; done) | rfl
def Q_rm6 (Z : State) (x0 : Int64) (x1 : Int64) (h0 : Heap) (n0 : Nat) (v : Option Value) (h : Heap) (L : List Loc) : Prop := ∃ z : Int64, v = some (.long z) ∧ Fr n0 L ∧ h = h0
set_option maxRecDepth 65536 in
set_option maxHeartbeats 40000000 in
theorem rm6 (l : Launch) (Z : State) (a0 : Array Value) (hw : ∀ d ∈ tables_1, d.before a0 Z = true) (ws : List Jvm.Cond) (x0 : Int64) (x1 : Int64) (h0 : Heap) (n0 : Nat) (Z0 : n0 ≤ h0.size) :
    MetFree l (⟨"java/lang/Math", "max", "(JJ)J"⟩ : MethodName) (head1 (Jvm.Cond.code (⟨"java/lang/Math", "max", "(JJ)J"⟩ : MethodName) jdk_29_method_66_code 4 (some .long) :: ws) ({ frames := 0, cells := 0, slots := 0, locals := 0 } : Room)) (fun a U => a = #[(.long x0), (.long x1)] ∧ Z.Warmed39 U.vm ∧ U.heap = h0) (fun _ _ _ _ _ => True) (fun _ U o U' => ∃ v L, o = .returned v ∧ Q_rm6 Z x0 x1 h0 n0 v U'.heap L ∧ FrameEnd U o U' L ({ frames := 0, cells := 0, slots := 0, locals := 0 } : Room).cells ({ frames := 0, cells := 0, slots := 0, locals := 0 } : Room).slots) := by
  refine MetFree.of_bodySF (Jvm.Free.JP.mathPlain rfl (by decide +kernel)) hisR ?_
  intro p e s m args below meth c s₁ Bd hml0 hP hK
  obtain ⟨rfl, hZ, hh⟩ := hP
  have hx := Bd.exec
  have hby := Bd.bytes
  have hml : c.maxLocals = 4 := hml0
  have hown : s.vm.findClass "java/lang/Math" = some m.cls := findClass_of_methodNamed Bd.named
  have hnm := (name_of_methodNamed Bd.named Bd.method).1
  have X0 : Stand p l e ({ frames := 0, cells := 0, slots := 0, locals := 0 } : Room) s m #[(.long x0), (.long x1)] below meth c s₁ [] 0 0 := Stand.of_body Bd
  have e0 : s₁.heap = h0 := by rw [← hh, Bd.state]; rfl
  have N0 := Fr.nil n0
  show own_Ends p e below s ({ frames := 0, cells := 0, slots := 0, locals := 0 } : Room).cells ({ frames := 0, cells := 0, slots := 0, locals := 0 } : Room).slots (Q_rm6 Z x0 x1 h0 n0) (s₁.setTop (entryFrame m #[(.long x0), (.long x1)] 4))
  rw [ef_6_JJ]
  refine own_step (st' := s₁.setTop (mkF m 1 #[.val (.long x0), .second, .val (.long x1), .second] [(.long x0)])) (fun t k => XS.lloadN X0.here hx rfl (hb hby d6_0) rfl k) ?_
  refine own_step (st' := s₁.setTop (mkF m 2 #[.val (.long x0), .second, .val (.long x1), .second] [(.long x1), (.long x0)])) (fun t k => XS.lloadN X0.here hx rfl (hb hby d6_1) rfl k) ?_
  refine own_step (st' := s₁.setTop (mkF m 3 #[.val (.long x0), .second, .val (.long x1), .second] [(.int (lcmpW x0 x1))])) (fun t k => XS.lcmp X0.here hx rfl (hb hby d6_2) rfl k) ?_
  by_cases hc1 : x0 < x1
  · refine own_step (st' := s₁.setTop (mkF m 10 #[.val (.long x0), .second, .val (.long x1), .second] [])) (fun t k => XS.ifYes X0.here hx rfl (pc0 := 3) (pc' := 10) rfl (hb hby d6_3) rfl ((if0 _ _).trans (tlt ((lw_lt _ _).mpr hc1)).1) (by decide) (by decide) k) ?_
    refine own_step (st' := s₁.setTop (mkF m 11 #[.val (.long x0), .second, .val (.long x1), .second] [(.long x1)])) (fun t k => XS.lloadN X0.here hx rfl (hb hby d6_10) rfl k) ?_
    refine own_ret X0 Bd.notSynchronized (some (.long x1)) (fun h => by rw [Bd.returns] at h; cases h) (fun fs hr => retOut X0 hx Bd.returns rfl (Or.inr (Or.inl ⟨rfl, rfl, _, rfl⟩)) (hb hby d6_11) hr) ?_ (by decide) (by decide)
    rw [e0]
    exact ⟨x1, rfl, N0, rfl⟩
  · refine own_step (st' := s₁.setTop (mkF m 6 #[.val (.long x0), .second, .val (.long x1), .second] [])) (fun t k => XS.ifNo X0.here hx rfl (hb hby d6_3) rfl ((if0 _ _).trans (flt (fun q => hc1 ((lw_lt _ _).mp q))).1) k) ?_
    refine own_step (st' := s₁.setTop (mkF m 7 #[.val (.long x0), .second, .val (.long x1), .second] [(.long x0)])) (fun t k => XS.lloadN X0.here hx rfl (hb hby d6_6) rfl k) ?_
    refine own_step (st' := s₁.setTop (mkF m 11 #[.val (.long x0), .second, .val (.long x1), .second] [(.long x0)])) (fun t k => XS.goto X0.here hx rfl (pc0 := 7) (pc' := 11) rfl (hb hby d6_7) (by decide) (by decide) k) ?_
    refine own_ret X0 Bd.notSynchronized (some (.long x0)) (fun h => by rw [Bd.returns] at h; cases h) (fun fs hr => retOut X0 hx Bd.returns rfl (Or.inr (Or.inl ⟨rfl, rfl, _, rfl⟩)) (hb hby d6_11) hr) ?_ (by decide) (by decide)
    rw [e0]
    exact ⟨x0, rfl, N0, rfl⟩
theorem d4_0 : decode method_3_code 0 = .ok (.iload 4, 2) := by decide +kernel
theorem d4_2 : decode method_3_code 2 = .ok (.iconst 1, 1) := by decide +kernel
theorem d4_3 : decode method_3_code 3 = .ok (.if_icmp .ne 15, 3) := by decide +kernel
theorem d4_6 : decode method_3_code 6 = .ok (.lconst 0, 1) := by decide +kernel
theorem d4_7 : decode method_3_code 7 = .ok (.lload_n 2, 1) := by decide +kernel
theorem d4_8 : decode method_3_code 8 = .ok (.lload_n 0, 1) := by decide +kernel
theorem d4_9 : decode method_3_code 9 = .ok (.ldc2_w 30, 3) := by decide +kernel
theorem d4_12 : decode method_3_code 12 = .ok (.land, 1) := by decide +kernel
theorem d4_13 : decode method_3_code 13 = .ok (.lsub, 1) := by decide +kernel
theorem d4_14 : decode method_3_code 14 = .ok (.invokestatic 32, 3) := by decide +kernel
theorem d4_17 : decode method_3_code 17 = .ok (.lreturn, 1) := by decide +kernel
theorem d4_18 : decode method_3_code 18 = .ok (.iload 4, 2) := by decide +kernel
theorem d4_20 : decode method_3_code 20 = .ok (.iconst 2, 1) := by decide +kernel
theorem d4_21 : decode method_3_code 21 = .ok (.if_icmp .ne 23, 3) := by decide +kernel
theorem d4_24 : decode method_3_code 24 = .ok (.lload_n 2, 1) := by decide +kernel
theorem d4_25 : decode method_3_code 25 = .ok (.ldc2_w 38, 3) := by decide +kernel
theorem d4_28 : decode method_3_code 28 = .ok (.lcmp, 1) := by decide +kernel
theorem d4_29 : decode method_3_code 29 = .ok (.ifCond .gt 13, 3) := by decide +kernel
theorem d4_32 : decode method_3_code 32 = .ok (.lload_n 2, 1) := by decide +kernel
theorem d4_33 : decode method_3_code 33 = .ok (.lload_n 0, 1) := by decide +kernel
theorem d4_34 : decode method_3_code 34 = .ok (.ldc2_w 30, 3) := by decide +kernel
theorem d4_37 : decode method_3_code 37 = .ok (.land, 1) := by decide +kernel
theorem d4_38 : decode method_3_code 38 = .ok (.ladd, 1) := by decide +kernel
theorem d4_39 : decode method_3_code 39 = .ok (.goto 4, 3) := by decide +kernel
theorem d4_42 : decode method_3_code 42 = .ok (.lload_n 0, 1) := by decide +kernel
theorem d4_43 : decode method_3_code 43 = .ok (.lreturn, 1) := by decide +kernel
theorem d4_44 : decode method_3_code 44 = .ok (.iload 4, 2) := by decide +kernel
theorem d4_46 : decode method_3_code 46 = .ok (.iconst 3, 1) := by decide +kernel
theorem d4_47 : decode method_3_code 47 = .ok (.if_icmp .ne 17, 3) := by decide +kernel
theorem d4_50 : decode method_3_code 50 = .ok (.lload_n 2, 1) := by decide +kernel
theorem d4_51 : decode method_3_code 51 = .ok (.lconst 0, 1) := by decide +kernel
theorem d4_52 : decode method_3_code 52 = .ok (.lcmp, 1) := by decide +kernel
theorem d4_53 : decode method_3_code 53 = .ok (.ifCond .ne 7, 3) := by decide +kernel
theorem d4_56 : decode method_3_code 56 = .ok (.lconst 0, 1) := by decide +kernel
theorem d4_57 : decode method_3_code 57 = .ok (.goto 6, 3) := by decide +kernel
theorem d4_60 : decode method_3_code 60 = .ok (.lload_n 0, 1) := by decide +kernel
theorem d4_61 : decode method_3_code 61 = .ok (.lload_n 2, 1) := by decide +kernel
theorem d4_62 : decode method_3_code 62 = .ok (.lrem, 1) := by decide +kernel
theorem d4_63 : decode method_3_code 63 = .ok (.lreturn, 1) := by decide +kernel
theorem d4_64 : decode method_3_code 64 = .ok (.lload_n 0, 1) := by decide +kernel
theorem d4_65 : decode method_3_code 65 = .ok (.lreturn, 1) := by decide +kernel
theorem pn_1 : plainName "com/example/alert_tree/alerttree/protocol/RoomTakePinLaw" = true := by first | (simp [plainName, overriddenIn]; done) | decide +kernel
theorem ef_4_JJI (m : MethodId) (x0 : Int64) (x1 : Int64) (x2 : Int32) : entryFrame m #[(.long x0), (.long x1), (.int x2)] 5 = mkF m 0 #[.val (.long x0), .second, .val (.long x1), .second, .val (.int x2)] [] := by first | (simp [entryFrame, mkF, argsToLocals, Value.category]; done) | rfl
def Q_rm4 (Z : State) (x0 : Int64) (x1 : Int64) (x2 : Int32) (h0 : Heap) (n0 : Nat) (v : Option Value) (h : Heap) (L : List Loc) : Prop := ∃ z : Int64, v = some (.long z) ∧ Fr n0 L ∧ h = h0
set_option maxRecDepth 65536 in
set_option maxHeartbeats 40000000 in
theorem rm4 (l : Launch) (Z : State) (a0 : Array Value) (hw : ∀ d ∈ tables_1, d.before a0 Z = true) (ws : List Jvm.Cond) (x0 : Int64) (x1 : Int64) (x2 : Int32) (h0 : Heap) (n0 : Nat) (Z0 : n0 ≤ h0.size) :
    MetFree l (⟨"com/example/alert_tree/alerttree/protocol/RoomTakePinLaw", "pick", "(JJI)J"⟩ : MethodName) (head1 (Jvm.Cond.code (⟨"com/example/alert_tree/alerttree/protocol/RoomTakePinLaw", "pick", "(JJI)J"⟩ : MethodName) method_3_code 5 (some .long) :: ws) ({ frames := 1, cells := 0, slots := 0, locals := 15 } : Room)) (fun a U => a = #[(.long x0), (.long x1), (.int x2)] ∧ Z.Warmed39 U.vm ∧ U.heap = h0) (fun _ _ _ _ _ => True) (fun _ U o U' => ∃ v L, o = .returned v ∧ Q_rm4 Z x0 x1 x2 h0 n0 v U'.heap L ∧ FrameEnd U o U' L ({ frames := 1, cells := 0, slots := 0, locals := 15 } : Room).cells ({ frames := 1, cells := 0, slots := 0, locals := 15 } : Room).slots) := by
  refine MetFree.of_bodySF (plainFor_of_name pn_1) hisR ?_
  intro p e s m args below meth c s₁ Bd hml0 hP hK
  obtain ⟨rfl, hZ, hh⟩ := hP
  have hx := Bd.exec
  have hby := Bd.bytes
  have hml : c.maxLocals = 5 := hml0
  have hown : s.vm.findClass "com/example/alert_tree/alerttree/protocol/RoomTakePinLaw" = some m.cls := findClass_of_methodNamed Bd.named
  have hnm := (name_of_methodNamed Bd.named Bd.method).1
  have X0 : Stand p l e ({ frames := 1, cells := 0, slots := 0, locals := 15 } : Room) s m #[(.long x0), (.long x1), (.int x2)] below meth c s₁ [] 0 0 := Stand.of_body Bd
  have e0 : s₁.heap = h0 := by rw [← hh, Bd.state]; rfl
  have N0 := Fr.nil n0
  show own_Ends p e below s ({ frames := 1, cells := 0, slots := 0, locals := 15 } : Room).cells ({ frames := 1, cells := 0, slots := 0, locals := 15 } : Room).slots (Q_rm4 Z x0 x1 x2 h0 n0) (s₁.setTop (entryFrame m #[(.long x0), (.long x1), (.int x2)] 5))
  rw [ef_4_JJI]
  refine own_step (st' := s₁.setTop (mkF m 2 #[.val (.long x0), .second, .val (.long x1), .second, .val (.int x2)] [(.int x2)])) (fun t k => XS.iload X0.here hx rfl (hb hby d4_0) rfl k) ?_
  refine own_step (st' := s₁.setTop (mkF m 3 #[.val (.long x0), .second, .val (.long x1), .second, .val (.int x2)] [(.int (1 : Int32)), (.int x2)])) (fun t k => XS.iconst X0.here hx rfl (hb hby d4_2) k) ?_
  by_cases hc1 : x2 = (1 : Int32)
  · refine own_step (st' := s₁.setTop (mkF m 6 #[.val (.long x0), .second, .val (.long x1), .second, .val (.int x2)] [])) (fun t k => XS.icmpNo X0.here hx rfl (hb hby d4_3) rfl (teq hc1).2 k) ?_
    refine own_step (st' := s₁.setTop (mkF m 7 #[.val (.long x0), .second, .val (.long x1), .second, .val (.int x2)] [(.long (0 : Int64))])) (fun t k => XS.lconst X0.here hx rfl (hb hby d4_6) k) ?_
    refine own_step (st' := s₁.setTop (mkF m 8 #[.val (.long x0), .second, .val (.long x1), .second, .val (.int x2)] [(.long x1), (.long (0 : Int64))])) (fun t k => XS.lloadN X0.here hx rfl (hb hby d4_7) rfl k) ?_
    refine own_step (st' := s₁.setTop (mkF m 9 #[.val (.long x0), .second, .val (.long x1), .second, .val (.int x2)] [(.long x0), (.long x1), (.long (0 : Int64))])) (fun t k => XS.lloadN X0.here hx rfl (hb hby d4_8) rfl k) ?_
    refine own_step (st' := s₁.setTop (mkF m 12 #[.val (.long x0), .second, .val (.long x1), .second, .val (.int x2)] [(.long (3 : Int64)), (.long x0), (.long x1), (.long (0 : Int64))])) (fun t k => X0.ldc2Long hx hown (mvT hZ (hw _ (List.mem_of_getElem? (i := 24) rfl))) (g := (mkF m 9 #[.val (.long x0), .second, .val (.long x1), .second, .val (.int x2)] [(.long x0), (.long x1), (.long (0 : Int64))])) rfl (hb hby d4_9) t k) ?_
    refine own_step (st' := s₁.setTop (mkF m 13 #[.val (.long x0), .second, .val (.long x1), .second, .val (.int x2)] [(.long (x0 &&& (3 : Int64))), (.long x1), (.long (0 : Int64))])) (fun t k => XS.land X0.here hx rfl (hb hby d4_12) rfl k) ?_
    refine own_step (st' := s₁.setTop (mkF m 14 #[.val (.long x0), .second, .val (.long x1), .second, .val (.int x2)] [(.long (x1 - (x0 &&& (3 : Int64)))), (.long (0 : Int64))])) (fun t k => XS.lsub X0.here hx rfl (hb hby d4_13) rfl k) ?_
    obtain ⟨_, _, ⟨T2, L2, k2, n2⟩, -, X2, ⟨Lc2, hQ2, l2, y2, z2⟩, st2⟩ := Jvm.LawKit.callS X0 hx (y := (⟨"java/lang/Math", "max", "(JJ)J"⟩ : MethodName)) hown (mvT hZ (hw _ (List.mem_of_getElem? (i := 30) rfl))) (mvT hZ (hw _ (List.mem_of_getElem? (i := 31) rfl))) (mvT hZ (hw _ (List.mem_of_getElem? (i := 32) rfl))) (mvT hZ (hw _ (List.mem_of_getElem? (i := 33) rfl))) (by decide) (backOf (W := 0) (rm6 l Z a0 hw [] (0 : Int64) (x1 - (x0 &&& (3 : Int64))) h0 n0 Z0) hZ (hw _ (List.mem_of_getElem? (i := 33) rfl)) (hw _ (List.mem_of_getElem? (i := 32) rfl)) (by decide) (by decide)) (g := (mkF m 14 #[.val (.long x0), .second, .val (.long x1), .second, .val (.int x2)] [(.long (x1 - (x0 &&& (3 : Int64)))), (.long (0 : Int64))])) rfl (by rw [hml]; rfl) (argsL := [(.long (0 : Int64)), (.long (x1 - (x0 &&& (3 : Int64))))]) (rest := []) (lenOf pd_5 rfl) rfl (by show 2 * 0 + _ ≤ _; exact Nat.le_of_eq rfl) (hb hby d4_14) (fun _ _ => ⟨rfl, e0, (by decide : 0 + 0 ≤ _), (by decide : 0 + 0 ≤ _)⟩)
    dsimp only [Pt.U, Pt.locs, Pt.cells, Pt.slots] at X2 l2 y2 z2 st2 hQ2
    subst l2 y2 z2
    obtain ⟨z_2, rfl, N2q, e2⟩ := hQ2
    have N2 := Fr.app N0 N2q
    refine own_step (st' := T2.setTop (mkF m 17 #[.val (.long x0), .second, .val (.long x1), .second, .val (.int x2)] [(.long z_2)])) st2 ?_
    refine own_ret X2 Bd.notSynchronized (some (.long z_2)) (fun h => by rw [Bd.returns] at h; cases h) (fun fs hr => retOut X2 hx Bd.returns rfl (Or.inr (Or.inl ⟨rfl, rfl, _, rfl⟩)) (hb hby d4_17) hr) ?_ (by decide) (by decide)
    rw [e2]
    exact ⟨z_2, rfl, N2, rfl⟩
  · refine own_step (st' := s₁.setTop (mkF m 18 #[.val (.long x0), .second, .val (.long x1), .second, .val (.int x2)] [])) (fun t k => XS.icmpYes X0.here hx rfl (pc0 := 3) (pc' := 18) rfl (hb hby d4_3) rfl (feq hc1).2 (by decide) (by decide) k) ?_
    refine own_step (st' := s₁.setTop (mkF m 20 #[.val (.long x0), .second, .val (.long x1), .second, .val (.int x2)] [(.int x2)])) (fun t k => XS.iload X0.here hx rfl (hb hby d4_18) rfl k) ?_
    refine own_step (st' := s₁.setTop (mkF m 21 #[.val (.long x0), .second, .val (.long x1), .second, .val (.int x2)] [(.int (2 : Int32)), (.int x2)])) (fun t k => XS.iconst X0.here hx rfl (hb hby d4_20) k) ?_
    by_cases hc3 : x2 = (2 : Int32)
    · refine own_step (st' := s₁.setTop (mkF m 24 #[.val (.long x0), .second, .val (.long x1), .second, .val (.int x2)] [])) (fun t k => XS.icmpNo X0.here hx rfl (hb hby d4_21) rfl (teq hc3).2 k) ?_
      refine own_step (st' := s₁.setTop (mkF m 25 #[.val (.long x0), .second, .val (.long x1), .second, .val (.int x2)] [(.long x1)])) (fun t k => XS.lloadN X0.here hx rfl (hb hby d4_24) rfl k) ?_
      refine own_step (st' := s₁.setTop (mkF m 28 #[.val (.long x0), .second, .val (.long x1), .second, .val (.int x2)] [(.long (9223372036854775804 : Int64)), (.long x1)])) (fun t k => X0.ldc2Long hx hown (mvT hZ (hw _ (List.mem_of_getElem? (i := 23) rfl))) (g := (mkF m 25 #[.val (.long x0), .second, .val (.long x1), .second, .val (.int x2)] [(.long x1)])) rfl (hb hby d4_25) t k) ?_
      refine own_step (st' := s₁.setTop (mkF m 29 #[.val (.long x0), .second, .val (.long x1), .second, .val (.int x2)] [(.int (lcmpW x1 (9223372036854775804 : Int64)))])) (fun t k => XS.lcmp X0.here hx rfl (hb hby d4_28) rfl k) ?_
      by_cases hc4 : (9223372036854775804 : Int64) < x1
      · refine own_step (st' := s₁.setTop (mkF m 42 #[.val (.long x0), .second, .val (.long x1), .second, .val (.int x2)] [])) (fun t k => XS.ifYes X0.here hx rfl (pc0 := 29) (pc' := 42) rfl (hb hby d4_29) rfl ((if0 _ _).trans (tlt ((lw_gt _ _).mpr hc4)).2.2.1) (by decide) (by decide) k) ?_
        refine own_step (st' := s₁.setTop (mkF m 43 #[.val (.long x0), .second, .val (.long x1), .second, .val (.int x2)] [(.long x0)])) (fun t k => XS.lloadN X0.here hx rfl (hb hby d4_42) rfl k) ?_
        refine own_ret X0 Bd.notSynchronized (some (.long x0)) (fun h => by rw [Bd.returns] at h; cases h) (fun fs hr => retOut X0 hx Bd.returns rfl (Or.inr (Or.inl ⟨rfl, rfl, _, rfl⟩)) (hb hby d4_43) hr) ?_ (by decide) (by decide)
        rw [e0]
        exact ⟨x0, rfl, N0, rfl⟩
      · refine own_step (st' := s₁.setTop (mkF m 32 #[.val (.long x0), .second, .val (.long x1), .second, .val (.int x2)] [])) (fun t k => XS.ifNo X0.here hx rfl (hb hby d4_29) rfl ((if0 _ _).trans (flt (fun q => hc4 ((lw_gt _ _).mp q))).2.2.1) k) ?_
        refine own_step (st' := s₁.setTop (mkF m 33 #[.val (.long x0), .second, .val (.long x1), .second, .val (.int x2)] [(.long x1)])) (fun t k => XS.lloadN X0.here hx rfl (hb hby d4_32) rfl k) ?_
        refine own_step (st' := s₁.setTop (mkF m 34 #[.val (.long x0), .second, .val (.long x1), .second, .val (.int x2)] [(.long x0), (.long x1)])) (fun t k => XS.lloadN X0.here hx rfl (hb hby d4_33) rfl k) ?_
        refine own_step (st' := s₁.setTop (mkF m 37 #[.val (.long x0), .second, .val (.long x1), .second, .val (.int x2)] [(.long (3 : Int64)), (.long x0), (.long x1)])) (fun t k => X0.ldc2Long hx hown (mvT hZ (hw _ (List.mem_of_getElem? (i := 24) rfl))) (g := (mkF m 34 #[.val (.long x0), .second, .val (.long x1), .second, .val (.int x2)] [(.long x0), (.long x1)])) rfl (hb hby d4_34) t k) ?_
        refine own_step (st' := s₁.setTop (mkF m 38 #[.val (.long x0), .second, .val (.long x1), .second, .val (.int x2)] [(.long (x0 &&& (3 : Int64))), (.long x1)])) (fun t k => XS.land X0.here hx rfl (hb hby d4_37) rfl k) ?_
        refine own_step (st' := s₁.setTop (mkF m 39 #[.val (.long x0), .second, .val (.long x1), .second, .val (.int x2)] [(.long (x1 + (x0 &&& (3 : Int64))))])) (fun t k => XS.ladd X0.here hx rfl (hb hby d4_38) rfl k) ?_
        refine own_step (st' := s₁.setTop (mkF m 43 #[.val (.long x0), .second, .val (.long x1), .second, .val (.int x2)] [(.long (x1 + (x0 &&& (3 : Int64))))])) (fun t k => XS.goto X0.here hx rfl (pc0 := 39) (pc' := 43) rfl (hb hby d4_39) (by decide) (by decide) k) ?_
        refine own_ret X0 Bd.notSynchronized (some (.long (x1 + (x0 &&& (3 : Int64))))) (fun h => by rw [Bd.returns] at h; cases h) (fun fs hr => retOut X0 hx Bd.returns rfl (Or.inr (Or.inl ⟨rfl, rfl, _, rfl⟩)) (hb hby d4_43) hr) ?_ (by decide) (by decide)
        rw [e0]
        exact ⟨(x1 + (x0 &&& (3 : Int64))), rfl, N0, rfl⟩
    · refine own_step (st' := s₁.setTop (mkF m 44 #[.val (.long x0), .second, .val (.long x1), .second, .val (.int x2)] [])) (fun t k => XS.icmpYes X0.here hx rfl (pc0 := 21) (pc' := 44) rfl (hb hby d4_21) rfl (feq hc3).2 (by decide) (by decide) k) ?_
      refine own_step (st' := s₁.setTop (mkF m 46 #[.val (.long x0), .second, .val (.long x1), .second, .val (.int x2)] [(.int x2)])) (fun t k => XS.iload X0.here hx rfl (hb hby d4_44) rfl k) ?_
      refine own_step (st' := s₁.setTop (mkF m 47 #[.val (.long x0), .second, .val (.long x1), .second, .val (.int x2)] [(.int (3 : Int32)), (.int x2)])) (fun t k => XS.iconst X0.here hx rfl (hb hby d4_46) k) ?_
      by_cases hc5 : x2 = (3 : Int32)
      · refine own_step (st' := s₁.setTop (mkF m 50 #[.val (.long x0), .second, .val (.long x1), .second, .val (.int x2)] [])) (fun t k => XS.icmpNo X0.here hx rfl (hb hby d4_47) rfl (teq hc5).2 k) ?_
        refine own_step (st' := s₁.setTop (mkF m 51 #[.val (.long x0), .second, .val (.long x1), .second, .val (.int x2)] [(.long x1)])) (fun t k => XS.lloadN X0.here hx rfl (hb hby d4_50) rfl k) ?_
        refine own_step (st' := s₁.setTop (mkF m 52 #[.val (.long x0), .second, .val (.long x1), .second, .val (.int x2)] [(.long (0 : Int64)), (.long x1)])) (fun t k => XS.lconst X0.here hx rfl (hb hby d4_51) k) ?_
        refine own_step (st' := s₁.setTop (mkF m 53 #[.val (.long x0), .second, .val (.long x1), .second, .val (.int x2)] [(.int (lcmpW x1 (0 : Int64)))])) (fun t k => XS.lcmp X0.here hx rfl (hb hby d4_52) rfl k) ?_
        by_cases hc6 : x1 = (0 : Int64)
        · refine own_step (st' := s₁.setTop (mkF m 56 #[.val (.long x0), .second, .val (.long x1), .second, .val (.int x2)] [])) (fun t k => XS.ifNo X0.here hx rfl (hb hby d4_53) rfl ((if0 _ _).trans (teq ((lw_eq _ _).mpr hc6)).2) k) ?_
          refine own_step (st' := s₁.setTop (mkF m 57 #[.val (.long x0), .second, .val (.long x1), .second, .val (.int x2)] [(.long (0 : Int64))])) (fun t k => XS.lconst X0.here hx rfl (hb hby d4_56) k) ?_
          refine own_step (st' := s₁.setTop (mkF m 63 #[.val (.long x0), .second, .val (.long x1), .second, .val (.int x2)] [(.long (0 : Int64))])) (fun t k => XS.goto X0.here hx rfl (pc0 := 57) (pc' := 63) rfl (hb hby d4_57) (by decide) (by decide) k) ?_
          refine own_ret X0 Bd.notSynchronized (some (.long (0 : Int64))) (fun h => by rw [Bd.returns] at h; cases h) (fun fs hr => retOut X0 hx Bd.returns rfl (Or.inr (Or.inl ⟨rfl, rfl, _, rfl⟩)) (hb hby d4_63) hr) ?_ (by decide) (by decide)
          rw [e0]
          exact ⟨(0 : Int64), rfl, N0, rfl⟩
        · refine own_step (st' := s₁.setTop (mkF m 60 #[.val (.long x0), .second, .val (.long x1), .second, .val (.int x2)] [])) (fun t k => XS.ifYes X0.here hx rfl (pc0 := 53) (pc' := 60) rfl (hb hby d4_53) rfl ((if0 _ _).trans (feq (fun q => hc6 ((lw_eq _ _).mp q))).2) (by decide) (by decide) k) ?_
          refine own_step (st' := s₁.setTop (mkF m 61 #[.val (.long x0), .second, .val (.long x1), .second, .val (.int x2)] [(.long x0)])) (fun t k => XS.lloadN X0.here hx rfl (hb hby d4_60) rfl k) ?_
          refine own_step (st' := s₁.setTop (mkF m 62 #[.val (.long x0), .second, .val (.long x1), .second, .val (.int x2)] [(.long x1), (.long x0)])) (fun t k => XS.lloadN X0.here hx rfl (hb hby d4_61) rfl k) ?_
          refine own_step (st' := s₁.setTop (mkF m 63 #[.val (.long x0), .second, .val (.long x1), .second, .val (.int x2)] [(.long (x0 % x1))])) (fun t k => own_lrem X0.here hx rfl (hb hby d4_62) rfl hc6 k) ?_
          refine own_ret X0 Bd.notSynchronized (some (.long (x0 % x1))) (fun h => by rw [Bd.returns] at h; cases h) (fun fs hr => retOut X0 hx Bd.returns rfl (Or.inr (Or.inl ⟨rfl, rfl, _, rfl⟩)) (hb hby d4_63) hr) ?_ (by decide) (by decide)
          rw [e0]
          exact ⟨(x0 % x1), rfl, N0, rfl⟩
      · refine own_step (st' := s₁.setTop (mkF m 64 #[.val (.long x0), .second, .val (.long x1), .second, .val (.int x2)] [])) (fun t k => XS.icmpYes X0.here hx rfl (pc0 := 47) (pc' := 64) rfl (hb hby d4_47) rfl (feq hc5).2 (by decide) (by decide) k) ?_
        refine own_step (st' := s₁.setTop (mkF m 65 #[.val (.long x0), .second, .val (.long x1), .second, .val (.int x2)] [(.long x0)])) (fun t k => XS.lloadN X0.here hx rfl (hb hby d4_64) rfl k) ?_
        refine own_ret X0 Bd.notSynchronized (some (.long x0)) (fun h => by rw [Bd.returns] at h; cases h) (fun fs hr => retOut X0 hx Bd.returns rfl (Or.inr (Or.inl ⟨rfl, rfl, _, rfl⟩)) (hb hby d4_65) hr) ?_ (by decide) (by decide)
        rw [e0]
        exact ⟨x0, rfl, N0, rfl⟩
theorem d5_0 : decode prog_37_method_3_code 0 = .ok (.lload_n 1, 1) := by decide +kernel
theorem d5_1 : decode prog_37_method_3_code 1 = .ok (.aload_n 0, 1) := by decide +kernel
theorem d5_2 : decode prog_37_method_3_code 2 = .ok (.getfield 13, 3) := by decide +kernel
theorem d5_5 : decode prog_37_method_3_code 5 = .ok (.lcmp, 1) := by decide +kernel
theorem d5_6 : decode prog_37_method_3_code 6 = .ok (.ifCond .gt 7, 3) := by decide +kernel
theorem d5_9 : decode prog_37_method_3_code 9 = .ok (.iconst 1, 1) := by decide +kernel
theorem d5_10 : decode prog_37_method_3_code 10 = .ok (.goto 4, 3) := by decide +kernel
theorem d5_13 : decode prog_37_method_3_code 13 = .ok (.iconst 0, 1) := by decide +kernel
theorem d5_14 : decode prog_37_method_3_code 14 = .ok (.istore_n 3, 1) := by decide +kernel
theorem d5_15 : decode prog_37_method_3_code 15 = .ok (.iload_n 3, 1) := by decide +kernel
theorem d5_16 : decode prog_37_method_3_code 16 = .ok (.ifCond .eq 13, 3) := by decide +kernel
theorem d5_19 : decode prog_37_method_3_code 19 = .ok (.aload_n 0, 1) := by decide +kernel
theorem d5_20 : decode prog_37_method_3_code 20 = .ok (.dup, 1) := by decide +kernel
theorem d5_21 : decode prog_37_method_3_code 21 = .ok (.getfield 13, 3) := by decide +kernel
theorem d5_24 : decode prog_37_method_3_code 24 = .ok (.lload_n 1, 1) := by decide +kernel
theorem d5_25 : decode prog_37_method_3_code 25 = .ok (.lsub, 1) := by decide +kernel
theorem d5_26 : decode prog_37_method_3_code 26 = .ok (.putfield 13, 3) := by decide +kernel
theorem d5_29 : decode prog_37_method_3_code 29 = .ok (.iload_n 3, 1) := by decide +kernel
theorem d5_30 : decode prog_37_method_3_code 30 = .ok (.ireturn, 1) := by decide +kernel
theorem ef_5_RJ (m : MethodId) (x0 : Addr) (x1 : Int64) : entryFrame m #[(.ref x0), (.long x1)] 4 = mkF m 0 #[.val (.ref x0), .val (.long x1), .second, .unset] [] := by first | (simp [entryFrame, mkF, argsToLocals, Value.category]; done) | rfl
def Q_rm5 (Z : State) (x0 : Addr) (x1 : Int64) (n : Int64) (q : Int64) (h0 : Heap) (n0 : Nat) (v : Option Value) (h : Heap) (L : List Loc) : Prop := v = some (.int (if n < x1 then (0 : Int32) else (1 : Int32))) ∧ Fr n0 L ∧ Keep h0 h [x0] ∧ Fld Z h x0 "com/example/alert_tree/alerttree/protocol/Room" "left" "J" (.long (if n < x1 then n else (n - x1))) ∧ Fld Z h x0 "com/example/alert_tree/alerttree/protocol/Room" "capacity" "J" (.long q)
set_option maxRecDepth 65536 in
set_option maxHeartbeats 40000000 in
theorem rm5 (l : Launch) (Z : State) (a0 : Array Value) (hw : ∀ d ∈ tables_1, d.before a0 Z = true) (ws : List Jvm.Cond) (x0 : Addr) (x1 : Int64) (n : Int64) (q : Int64) (h0 : Heap) (n0 : Nat) (Z0 : n0 ≤ h0.size) (p_0 : Fld Z h0 x0 "com/example/alert_tree/alerttree/protocol/Room" "left" "J" (.long n)) (p_1 : Fld Z h0 x0 "com/example/alert_tree/alerttree/protocol/Room" "capacity" "J" (.long q)) (p_2 : Exa Z h0 x0 "com/example/alert_tree/alerttree/protocol/Room") (p_3 : n0 ≤ x0) :
    MetFree l (⟨"com/example/alert_tree/alerttree/protocol/Room", "take", "(J)Z"⟩ : MethodName) (head1 (Jvm.Cond.code (⟨"com/example/alert_tree/alerttree/protocol/Room", "take", "(J)Z"⟩ : MethodName) prog_37_method_3_code 4 (some .boolean) :: ws) ({ frames := 0, cells := 0, slots := 0, locals := 0 } : Room)) (fun a U => a = #[(.ref x0), (.long x1)] ∧ Z.Warmed39 U.vm ∧ U.heap = h0) (fun _ _ _ _ _ => True) (fun _ U o U' => ∃ v L, o = .returned v ∧ Q_rm5 Z x0 x1 n q h0 n0 v U'.heap L ∧ FrameEnd U o U' L ({ frames := 0, cells := 0, slots := 0, locals := 0 } : Room).cells ({ frames := 0, cells := 0, slots := 0, locals := 0 } : Room).slots) := by
  refine MetFree.of_bodySF (plainFor_of_name pn_0) hisR ?_
  intro p e s m args below meth c s₁ Bd hml0 hP hK
  obtain ⟨rfl, hZ, hh⟩ := hP
  have hx := Bd.exec
  have hby := Bd.bytes
  have hml : c.maxLocals = 4 := hml0
  have hown : s.vm.findClass "com/example/alert_tree/alerttree/protocol/Room" = some m.cls := findClass_of_methodNamed Bd.named
  have hnm := (name_of_methodNamed Bd.named Bd.method).1
  have X0 : Stand p l e ({ frames := 0, cells := 0, slots := 0, locals := 0 } : Room) s m #[(.ref x0), (.long x1)] below meth c s₁ [] 0 0 := Stand.of_body Bd
  have e0 : s₁.heap = h0 := by rw [← hh, Bd.state]; rfl
  have N0 := Fr.nil n0
  show own_Ends p e below s ({ frames := 0, cells := 0, slots := 0, locals := 0 } : Room).cells ({ frames := 0, cells := 0, slots := 0, locals := 0 } : Room).slots (Q_rm5 Z x0 x1 n q h0 n0) (s₁.setTop (entryFrame m #[(.ref x0), (.long x1)] 4))
  rw [ef_5_RJ]
  refine own_step (st' := s₁.setTop (mkF m 1 #[.val (.ref x0), .val (.long x1), .second, .unset] [(.long x1)])) (fun t k => XS.lloadN X0.here hx rfl (hb hby d5_0) rfl k) ?_
  refine own_step (st' := s₁.setTop (mkF m 2 #[.val (.ref x0), .val (.long x1), .second, .unset] [(.ref x0), (.long x1)])) (fun t k => XS.aloadN X0.here hx rfl (hb hby d5_1) rfl rfl k) ?_
  obtain ⟨T1, X1, e1, st1⟩ := getF X0 hx hZ hown (host := "") (Or.inl (hw _ (List.mem_of_getElem? (i := 12) rfl))) Via.refl e0 p_0 (g := (mkF m 2 #[.val (.ref x0), .val (.long x1), .second, .unset] [(.ref x0), (.long x1)])) rfl rfl (hb hby d5_2)
  refine own_step (st' := T1.setTop (mkF m 5 #[.val (.ref x0), .val (.long x1), .second, .unset] [(.long n), (.long x1)])) st1 ?_
  refine own_step (st' := T1.setTop (mkF m 6 #[.val (.ref x0), .val (.long x1), .second, .unset] [(.int (lcmpW x1 n))])) (fun t k => XS.lcmp X1.here hx rfl (hb hby d5_5) rfl k) ?_
  refine own_step (st' := T1.setTop (mkF m 14 #[.val (.ref x0), .val (.long x1), .second, .unset] [(.int (if n < x1 then (0 : Int32) else (1 : Int32)))])) (fun t k => ?_) ?_
  · by_cases hc2 : n < x1
    · refine XS.ifYes X1.here hx rfl (pc0 := 6) (pc' := 13) rfl (hb hby d5_6) rfl ((if0 _ _).trans (tlt ((lw_gt _ _).mpr hc2)).2.2.1) (by decide) (by decide) (?_ : Steps p.tables e below (T1.setTop (mkF m 13 #[.val (.ref x0), .val (.long x1), .second, .unset] [])) _)
      refine XS.iconst X1.here hx rfl (hb hby d5_13) (?_ : Steps p.tables e below (T1.setTop (mkF m 14 #[.val (.ref x0), .val (.long x1), .second, .unset] [(.int (0 : Int32))])) _)
      simpa only [if_pos hc2] using k
    · refine XS.ifNo X1.here hx rfl (hb hby d5_6) rfl ((if0 _ _).trans (flt (fun q => hc2 ((lw_gt _ _).mp q))).2.2.1) (?_ : Steps p.tables e below (T1.setTop (mkF m 9 #[.val (.ref x0), .val (.long x1), .second, .unset] [])) _)
      refine XS.iconst X1.here hx rfl (hb hby d5_9) (?_ : Steps p.tables e below (T1.setTop (mkF m 10 #[.val (.ref x0), .val (.long x1), .second, .unset] [(.int (1 : Int32))])) _)
      refine XS.goto X1.here hx rfl (pc0 := 10) (pc' := 14) rfl (hb hby d5_10) (by decide) (by decide) (?_ : Steps p.tables e below (T1.setTop (mkF m 14 #[.val (.ref x0), .val (.long x1), .second, .unset] [(.int (1 : Int32))])) _)
      simpa only [if_neg hc2] using k
  refine own_step (st' := T1.setTop (mkF m 15 #[.val (.ref x0), .val (.long x1), .second, .val (.int (if n < x1 then (0 : Int32) else (1 : Int32)))] [])) (fun t k => XS.istoreN X1.here hx rfl (hb hby d5_14) rfl (l' := #[.val (.ref x0), .val (.long x1), .second, .val (.int (if n < x1 then (0 : Int32) else (1 : Int32)))]) rfl k) ?_
  refine own_step (st' := T1.setTop (mkF m 16 #[.val (.ref x0), .val (.long x1), .second, .val (.int (if n < x1 then (0 : Int32) else (1 : Int32)))] [(.int (if n < x1 then (0 : Int32) else (1 : Int32)))])) (fun t k => XS.iloadN X1.here hx rfl (hb hby d5_15) rfl k) ?_
  by_cases hc3 : n < x1
  · refine own_step (st' := T1.setTop (mkF m 29 #[.val (.ref x0), .val (.long x1), .second, .val (.int (if n < x1 then (0 : Int32) else (1 : Int32)))] [])) (fun t k => XS.ifYes X1.here hx rfl (pc0 := 16) (pc' := 29) rfl (hb hby d5_16) rfl ((if0 _ _).trans (teq (if_pos hc3)).1) (by decide) (by decide) k) ?_
    refine own_step (st' := T1.setTop (mkF m 30 #[.val (.ref x0), .val (.long x1), .second, .val (.int (if n < x1 then (0 : Int32) else (1 : Int32)))] [(.int (if n < x1 then (0 : Int32) else (1 : Int32)))])) (fun t k => XS.iloadN X1.here hx rfl (hb hby d5_29) rfl k) ?_
    refine own_ret X1 Bd.notSynchronized (some (.int (nar .boolean (if n < x1 then (0 : Int32) else (1 : Int32))))) (fun h => by rw [Bd.returns] at h; cases h) (fun fs hr => retN X1 hx (t := .boolean) Bd.returns (by simp) (hb hby d5_30) hr) ?_ (by decide) (by decide)
    rw [e1]
    exact ⟨(by first | rfl | (simp only [if_pos hc3]; done) | (simp only [if_pos hc3]; rfl)), N0, (Keep.refl h0 [x0]), (by simpa only [if_pos hc3] using p_0), p_1⟩
  · refine own_step (st' := T1.setTop (mkF m 19 #[.val (.ref x0), .val (.long x1), .second, .val (.int (if n < x1 then (0 : Int32) else (1 : Int32)))] [])) (fun t k => XS.ifNo X1.here hx rfl (hb hby d5_16) rfl ((if0 _ _).trans (feq (own_b1n hc3)).1) k) ?_
    refine own_step (st' := T1.setTop (mkF m 20 #[.val (.ref x0), .val (.long x1), .second, .val (.int (if n < x1 then (0 : Int32) else (1 : Int32)))] [(.ref x0)])) (fun t k => XS.aloadN X1.here hx rfl (hb hby d5_19) rfl rfl k) ?_
    refine own_step (st' := T1.setTop (mkF m 21 #[.val (.ref x0), .val (.long x1), .second, .val (.int (if n < x1 then (0 : Int32) else (1 : Int32)))] [(.ref x0), (.ref x0)])) (fun t k => XS.dup X1.here hx rfl (hb hby d5_20) rfl rfl k) ?_
    obtain ⟨T4, X4, e4, st4⟩ := getF X1 hx hZ hown (host := "") (Or.inl (hw _ (List.mem_of_getElem? (i := 12) rfl))) Via.refl e1 p_0 (g := (mkF m 21 #[.val (.ref x0), .val (.long x1), .second, .val (.int (if n < x1 then (0 : Int32) else (1 : Int32)))] [(.ref x0), (.ref x0)])) rfl rfl (hb hby d5_21)
    refine own_step (st' := T4.setTop (mkF m 24 #[.val (.ref x0), .val (.long x1), .second, .val (.int (if n < x1 then (0 : Int32) else (1 : Int32)))] [(.long n), (.ref x0)])) st4 ?_
    refine own_step (st' := T4.setTop (mkF m 25 #[.val (.ref x0), .val (.long x1), .second, .val (.int (if n < x1 then (0 : Int32) else (1 : Int32)))] [(.long x1), (.long n), (.ref x0)])) (fun t k => XS.lloadN X4.here hx rfl (hb hby d5_24) rfl k) ?_
    refine own_step (st' := T4.setTop (mkF m 26 #[.val (.ref x0), .val (.long x1), .second, .val (.int (if n < x1 then (0 : Int32) else (1 : Int32)))] [(.long (n - x1)), (.ref x0)])) (fun t k => XS.lsub X4.here hx rfl (hb hby d5_25) rfl k) ?_
    obtain ⟨T5, h5, X5, e5, W5, st5⟩ := putF X4 hx hZ hown (host := "") (Or.inl (hw _ (List.mem_of_getElem? (i := 12) rfl))) Via.refl e4 p_0 p_2 (Or.inl (hw _ (List.mem_of_getElem? (i := 13) rfl))) (hw _ (List.mem_of_getElem? (i := 2) rfl)) (ty := .long) (by decide) rfl rfl (g := (mkF m 26 #[.val (.ref x0), .val (.long x1), .second, .val (.int (if n < x1 then (0 : Int32) else (1 : Int32)))] [(.long (n - x1)), (.ref x0)])) rfl rfl (hb hby d5_26)
    have F5 := p_0.same W5
    have f6 := p_1.other W5 (Or.inr (slot_ne (Or.inr (hw _ (List.mem_of_getElem? (i := 11) rfl))) (Or.inl (hw _ (List.mem_of_getElem? (i := 13) rfl))) (by decide) (t := .long) (t' := .long) (by decide) (by decide)))
    have f7 := p_2.wr W5
    have K8 : Keep h0 h5 [x0] := (Keep.refl h0 [x0]).wr W5 (Or.inl (List.mem_of_getElem? (i := 0) rfl))
    have Z9 : n0 ≤ h5.size := Nat.le_trans Z0 (Keep.of_wr W5).1
    have N10 := Fr.snoc X5 N0 p_3
    refine own_step (st' := T5.setTop (mkF m 29 #[.val (.ref x0), .val (.long x1), .second, .val (.int (if n < x1 then (0 : Int32) else (1 : Int32)))] [])) st5 ?_
    refine own_step (st' := T5.setTop (mkF m 30 #[.val (.ref x0), .val (.long x1), .second, .val (.int (if n < x1 then (0 : Int32) else (1 : Int32)))] [(.int (if n < x1 then (0 : Int32) else (1 : Int32)))])) (fun t k => XS.iloadN X5.here hx rfl (hb hby d5_29) rfl k) ?_
    refine own_ret X5 Bd.notSynchronized (some (.int (nar .boolean (if n < x1 then (0 : Int32) else (1 : Int32))))) (fun h => by rw [Bd.returns] at h; cases h) (fun fs hr => retN X5 hx (t := .boolean) Bd.returns (by simp) (hb hby d5_30) hr) ?_ (by decide) (by decide)
    rw [e5]
    exact ⟨(by first | rfl | (simp only [if_neg hc3]; done) | (simp only [if_neg hc3]; rfl)), N10, K8, (by simpa only [if_neg hc3] using F5), f6⟩
theorem ef_0_JJJI (m : MethodId) (x0 : Int64) (x1 : Int64) (x2 : Int64) (x3 : Int32) : entryFrame m #[(.long x0), (.long x1), (.long x2), (.int x3)] maxLocals = mkF m 0 #[.val (.long x0), .second, .val (.long x1), .second, .val (.long x2), .second, .val (.int x3), .unset, .unset, .unset, .unset, .unset, .unset, .unset, .unset, .unset, .unset, .unset, .unset, .unset] [] := by first | (simp [entryFrame, mkF, argsToLocals, Value.category, maxLocals]; done) | rfl
def Q_rm0 (Z : State) (x0 : Int64) (x1 : Int64) (x2 : Int64) (x3 : Int32) (h0 : Heap) (n0 : Nat) (v : Option Value) (h : Heap) (L : List Loc) : Prop := v = some (.int (1 : Int32)) ∧ Fr n0 L
set_option maxRecDepth 65536 in
set_option maxHeartbeats 40000000 in
theorem rm0 (l : Launch) (Z : State) (a0 : Array Value) (hw : ∀ d ∈ tables_1, d.before a0 Z = true) (ws : List Jvm.Cond) (x0 : Int64) (x1 : Int64) (x2 : Int64) (x3 : Int32) (h0 : Heap) (n0 : Nat) (Z0 : n0 ≤ h0.size) :
    MetFree l x (head1 (Jvm.Cond.code x code maxLocals ret :: ws) room_1) (fun a U => a = #[(.long x0), (.long x1), (.long x2), (.int x3)] ∧ Z.Warmed39 U.vm ∧ U.heap = h0) (fun _ _ _ _ _ => True) (fun _ U o U' => ∃ v L, o = .returned v ∧ Q_rm0 Z x0 x1 x2 x3 h0 n0 v U'.heap L ∧ FrameEnd U o U' L room_1.cells room_1.slots) := by
  refine MetFree.of_bodySF (plainFor_of_name pn_1) hisR ?_
  intro p e s m args below meth c s₁ Bd hml0 hP hK
  obtain ⟨rfl, hZ, hh⟩ := hP
  have hx := Bd.exec
  have hby := Bd.bytes
  have hml : c.maxLocals = 20 := hml0
  have hown : s.vm.findClass "com/example/alert_tree/alerttree/protocol/RoomTakePinLaw" = some m.cls := findClass_of_methodNamed Bd.named
  have hnm := (name_of_methodNamed Bd.named Bd.method).1
  have X0 : Stand p l e room_1 s m #[(.long x0), (.long x1), (.long x2), (.int x3)] below meth c s₁ [] 0 0 := Stand.of_body Bd
  have e0 : s₁.heap = h0 := by rw [← hh, Bd.state]; rfl
  have N0 := Fr.nil n0
  show own_Ends p e below s room_1.cells room_1.slots (Q_rm0 Z x0 x1 x2 x3 h0 n0) (s₁.setTop (entryFrame m #[(.long x0), (.long x1), (.long x2), (.int x3)] maxLocals))
  rw [ef_0_JJJI]
  refine own_step (st' := s₁.setTop (mkF m 1 #[.val (.long x0), .second, .val (.long x1), .second, .val (.long x2), .second, .val (.int x3), .unset, .unset, .unset, .unset, .unset, .unset, .unset, .unset, .unset, .unset, .unset, .unset, .unset] [(.long x0)])) (fun t k => XS.lloadN X0.here hx rfl (hb hby at_0) rfl k) ?_
  refine own_step (st' := s₁.setTop (mkF m 4 #[.val (.long x0), .second, .val (.long x1), .second, .val (.long x2), .second, .val (.int x3), .unset, .unset, .unset, .unset, .unset, .unset, .unset, .unset, .unset, .unset, .unset, .unset, .unset] [(.long (9223372036854775807 : Int64)), (.long x0)])) (fun t k => X0.ldc2Long hx hown (mvT hZ (hw _ (List.mem_of_getElem? (i := 0) rfl))) (g := (mkF m 1 #[.val (.long x0), .second, .val (.long x1), .second, .val (.long x2), .second, .val (.int x3), .unset, .unset, .unset, .unset, .unset, .unset, .unset, .unset, .unset, .unset, .unset, .unset, .unset] [(.long x0)])) rfl (hb hby at_1) t k) ?_
  refine own_step (st' := s₁.setTop (mkF m 5 #[.val (.long x0), .second, .val (.long x1), .second, .val (.long x2), .second, .val (.int x3), .unset, .unset, .unset, .unset, .unset, .unset, .unset, .unset, .unset, .unset, .unset, .unset, .unset] [(.long (x0 &&& (9223372036854775807 : Int64)))])) (fun t k => XS.land X0.here hx rfl (hb hby at_4) rfl k) ?_
  obtain ⟨cc, e_cc⟩ : ∃ z : Int64, z = (x0 &&& (9223372036854775807 : Int64)) := ⟨_, rfl⟩
  rw [← e_cc]
  refine own_step (st' := s₁.setTop (mkF m 7 #[.val (.long x0), .second, .val (.long x1), .second, .val (.long x2), .second, .val (.int x3), .val (.long cc), .second, .unset, .unset, .unset, .unset, .unset, .unset, .unset, .unset, .unset, .unset, .unset] [])) (fun t k => XS.lstore X0.here hx rfl (hb hby at_5) rfl (l' := #[.val (.long x0), .second, .val (.long x1), .second, .val (.long x2), .second, .val (.int x3), .val (.long cc), .second, .unset, .unset, .unset, .unset, .unset, .unset, .unset, .unset, .unset, .unset, .unset]) rfl k) ?_
  obtain ⟨T1, h1, X1, e1, E1, A1, D1, -, st1⟩ := newO X0 hx hZ hown (hw _ (List.mem_of_getElem? (i := 1) rfl)) (hw _ (List.mem_of_getElem? (i := 2) rfl)) (hw _ (List.mem_of_getElem? (i := 3) rfl)) e0 (g := (mkF m 7 #[.val (.long x0), .second, .val (.long x1), .second, .val (.long x2), .second, .val (.int x3), .val (.long cc), .second, .unset, .unset, .unset, .unset, .unset, .unset, .unset, .unset, .unset, .unset, .unset] [])) rfl (hb hby at_7) (by decide) (by decide)
  obtain ⟨b1, g1⟩ : ∃ z, z = h0.size := ⟨_, rfl⟩
  rw [← g1] at A1 D1 st1
  have g_b1 : n0 ≤ b1 := Nat.le_trans Z0 (Nat.le_of_eq g1.symm)
  have Z2 : n0 ≤ h1.size := Nat.le_trans Z0 E1.1
  have f3 : Fld Z h1 b1 "com/example/alert_tree/alerttree/protocol/Room" "capacity" "J" (.long (0 : Int64)) := D1 (Or.inr (hw _ (List.mem_of_getElem? (i := 11) rfl))) (ty := .long) (by decide)
  have f4 : Fld Z h1 b1 "com/example/alert_tree/alerttree/protocol/Room" "left" "J" (.long (0 : Int64)) := D1 (Or.inl (hw _ (List.mem_of_getElem? (i := 13) rfl))) (ty := .long) (by decide)
  refine own_step (st' := T1.setTop (mkF m 10 #[.val (.long x0), .second, .val (.long x1), .second, .val (.long x2), .second, .val (.int x3), .val (.long cc), .second, .unset, .unset, .unset, .unset, .unset, .unset, .unset, .unset, .unset, .unset, .unset] [(.ref b1)])) st1 ?_
  refine own_step (st' := T1.setTop (mkF m 11 #[.val (.long x0), .second, .val (.long x1), .second, .val (.long x2), .second, .val (.int x3), .val (.long cc), .second, .unset, .unset, .unset, .unset, .unset, .unset, .unset, .unset, .unset, .unset, .unset] [(.ref b1), (.ref b1)])) (fun t k => XS.dup X1.here hx rfl (hb hby at_10) rfl rfl k) ?_
  refine own_step (st' := T1.setTop (mkF m 13 #[.val (.long x0), .second, .val (.long x1), .second, .val (.long x2), .second, .val (.int x3), .val (.long cc), .second, .unset, .unset, .unset, .unset, .unset, .unset, .unset, .unset, .unset, .unset, .unset] [(.long cc), (.ref b1), (.ref b1)])) (fun t k => XS.lload X1.here hx rfl (hb hby at_11) rfl k) ?_
  obtain ⟨_, _, ⟨T5, L5, k5, n5⟩, -, X5, ⟨Lc5, hQ5, l5, y5, z5⟩, st5⟩ := X1.specialBack hx (y := (⟨"com/example/alert_tree/alerttree/protocol/Room", "<init>", "(J)V"⟩ : MethodName)) rfl hown (mvT hZ (hw _ (List.mem_of_getElem? (i := 4) rfl))) (mvT hZ (hw _ (List.mem_of_getElem? (i := 5) rfl))) (mvT hZ (hw _ (List.mem_of_getElem? (i := 6) rfl))) (by decide) (backOf (W := 1) (rm1 l Z a0 hw [] b1 cc h1 n0 Z2 f3 f4 A1 g_b1) hZ (hw _ (List.mem_of_getElem? (i := 6) rfl)) (hw _ (List.mem_of_getElem? (i := 3) rfl)) (by decide) (by decide)) (g := (mkF m 13 #[.val (.long x0), .second, .val (.long x1), .second, .val (.long x2), .second, .val (.int x3), .val (.long cc), .second, .unset, .unset, .unset, .unset, .unset, .unset, .unset, .unset, .unset, .unset, .unset] [(.long cc), (.ref b1), (.ref b1)])) rfl (by rw [hml]; rfl) (Steps.refl _) (a := b1) (argsL := [(.long cc)]) (rest := [(.ref b1)]) (lenOf pd_0 rfl) rfl (by show 2 * 0 + _ ≤ _; exact Nat.le_of_eq rfl) (hb hby at_13) (fun _ _ => ⟨rfl, e1, (by decide : 1 + 0 ≤ _), (by decide : 2 + 0 ≤ _)⟩)
  dsimp only [Pt.U, Pt.locs, Pt.cells, Pt.slots] at X5 l5 y5 z5 st5 hQ5
  subst l5 y5 z5
  obtain ⟨rfl, N5q, K5, pq5_0, pq5_1⟩ := hQ5
  have N5 := Fr.app N0 N5q
  obtain ⟨h5, e5⟩ : ∃ z, T5.heap = z := ⟨_, rfl⟩
  rw [e5] at K5 pq5_0 pq5_1
  have f6 := A1.keep K5
  have Z7 : n0 ≤ h5.size := Nat.le_trans Z2 K5.1
  refine own_step (st' := T5.setTop (mkF m 16 #[.val (.long x0), .second, .val (.long x1), .second, .val (.long x2), .second, .val (.int x3), .val (.long cc), .second, .unset, .unset, .unset, .unset, .unset, .unset, .unset, .unset, .unset, .unset, .unset] [(.ref b1)])) (fun t k => st5.trans k) ?_
  refine own_step (st' := T5.setTop (mkF m 18 #[.val (.long x0), .second, .val (.long x1), .second, .val (.long x2), .second, .val (.int x3), .val (.long cc), .second, .val (.ref b1), .unset, .unset, .unset, .unset, .unset, .unset, .unset, .unset, .unset, .unset] [])) (fun t k => XS.astore X5.here hx rfl (hb hby at_16) rfl rfl (l' := #[.val (.long x0), .second, .val (.long x1), .second, .val (.long x2), .second, .val (.int x3), .val (.long cc), .second, .val (.ref b1), .unset, .unset, .unset, .unset, .unset, .unset, .unset, .unset, .unset, .unset]) rfl k) ?_
  refine own_step (st' := T5.setTop (mkF m 20 #[.val (.long x0), .second, .val (.long x1), .second, .val (.long x2), .second, .val (.int x3), .val (.long cc), .second, .val (.ref b1), .unset, .unset, .unset, .unset, .unset, .unset, .unset, .unset, .unset, .unset] [(.ref b1)])) (fun t k => XS.aload X5.here hx rfl (hb hby at_18) rfl rfl k) ?_
  obtain ⟨cq8, kq8, q8a, q8b, q8c⟩ := isOf hZ e5 f6
  obtain ⟨_, _, ⟨T8, L8, k8, n8⟩, -, X8, ⟨Lc8, hQ8, l8, y8, z8⟩, st8⟩ := X5.virtualBack hx (y := (⟨"com/example/alert_tree/alerttree/protocol/Room", "capacity", "()J"⟩ : MethodName)) (z := (⟨"com/example/alert_tree/alerttree/protocol/Room", "capacity", "()J"⟩ : MethodName)) hown (mvT hZ (hw _ (List.mem_of_getElem? (i := 14) rfl))) (mvT hZ (hw _ (List.mem_of_getElem? (i := 15) rfl))) (notFace_of_selects (args := #[]) (mvT hZ (hw _ (List.mem_of_getElem? (i := 17) rfl)))) (mvT hZ (hw _ (List.mem_of_getElem? (i := 17) rfl))) (mvT hZ (hw _ (List.mem_of_getElem? (i := 16) rfl))) (by decide) (backOf (W := 0) (rm3 l Z a0 hw [] b1 cc h5 n0 Z7 pq5_0) hZ (hw _ (List.mem_of_getElem? (i := 18) rfl)) (hw _ (List.mem_of_getElem? (i := 3) rfl)) (by decide) (by decide)) q8a q8c (g := (mkF m 20 #[.val (.long x0), .second, .val (.long x1), .second, .val (.long x2), .second, .val (.int x3), .val (.long cc), .second, .val (.ref b1), .unset, .unset, .unset, .unset, .unset, .unset, .unset, .unset, .unset, .unset] [(.ref b1)])) rfl (by rw [hml]; rfl) (Steps.refl _) (argsL := []) (rest := []) (lenOf pd_2 rfl) rfl (by show 2 * 0 + _ ≤ _; exact Nat.le_of_eq rfl) (hb hby at_20) (fun _ _ => ⟨rfl, e5, (by decide : 1 + 0 ≤ _), (by decide : 2 + 0 ≤ _)⟩)
  dsimp only [Pt.U, Pt.locs, Pt.cells, Pt.slots] at X8 l8 y8 z8 st8 hQ8
  subst l8 y8 z8
  obtain ⟨rfl, N8q, e8⟩ := hQ8
  have N8 := Fr.app N5 N8q
  refine own_step (st' := T8.setTop (mkF m 23 #[.val (.long x0), .second, .val (.long x1), .second, .val (.long x2), .second, .val (.int x3), .val (.long cc), .second, .val (.ref b1), .unset, .unset, .unset, .unset, .unset, .unset, .unset, .unset, .unset, .unset] [(.long cc)])) (fun t k => st8.trans k) ?_
  refine own_step (st' := T8.setTop (mkF m 25 #[.val (.long x0), .second, .val (.long x1), .second, .val (.long x2), .second, .val (.int x3), .val (.long cc), .second, .val (.ref b1), .unset, .unset, .unset, .unset, .unset, .unset, .unset, .unset, .unset, .unset] [(.long cc), (.long cc)])) (fun t k => XS.lload X8.here hx rfl (hb hby at_23) rfl k) ?_
  refine own_step (st' := T8.setTop (mkF m 26 #[.val (.long x0), .second, .val (.long x1), .second, .val (.long x2), .second, .val (.int x3), .val (.long cc), .second, .val (.ref b1), .unset, .unset, .unset, .unset, .unset, .unset, .unset, .unset, .unset, .unset] [(.int (lcmpW cc cc))])) (fun t k => XS.lcmp X8.here hx rfl (hb hby at_25) rfl k) ?_
  refine own_step (st' := T8.setTop (mkF m 31 #[.val (.long x0), .second, .val (.long x1), .second, .val (.long x2), .second, .val (.int x3), .val (.long cc), .second, .val (.ref b1), .unset, .unset, .unset, .unset, .unset, .unset, .unset, .unset, .unset, .unset] [])) (fun t k => XS.ifYes X8.here hx rfl (pc0 := 26) (pc' := 31) rfl (hb hby at_26) rfl ((if0 _ _).trans (teq ((lw_eq _ _).mpr rfl)).1) (by decide) (by decide) k) ?_
  refine own_step (st' := T8.setTop (mkF m 32 #[.val (.long x0), .second, .val (.long x1), .second, .val (.long x2), .second, .val (.int x3), .val (.long cc), .second, .val (.ref b1), .unset, .unset, .unset, .unset, .unset, .unset, .unset, .unset, .unset, .unset] [(.long x1)])) (fun t k => XS.lloadN X8.here hx rfl (hb hby at_31) rfl k) ?_
  refine own_step (st' := T8.setTop (mkF m 35 #[.val (.long x0), .second, .val (.long x1), .second, .val (.long x2), .second, .val (.int x3), .val (.long cc), .second, .val (.ref b1), .unset, .unset, .unset, .unset, .unset, .unset, .unset, .unset, .unset, .unset] [(.long (9223372036854775807 : Int64)), (.long x1)])) (fun t k => X8.ldc2Long hx hown (mvT hZ (hw _ (List.mem_of_getElem? (i := 0) rfl))) (g := (mkF m 32 #[.val (.long x0), .second, .val (.long x1), .second, .val (.long x2), .second, .val (.int x3), .val (.long cc), .second, .val (.ref b1), .unset, .unset, .unset, .unset, .unset, .unset, .unset, .unset, .unset, .unset] [(.long x1)])) rfl (hb hby at_32) t k) ?_
  refine own_step (st' := T8.setTop (mkF m 36 #[.val (.long x0), .second, .val (.long x1), .second, .val (.long x2), .second, .val (.int x3), .val (.long cc), .second, .val (.ref b1), .unset, .unset, .unset, .unset, .unset, .unset, .unset, .unset, .unset, .unset] [(.long (x1 &&& (9223372036854775807 : Int64)))])) (fun t k => XS.land X8.here hx rfl (hb hby at_35) rfl k) ?_
  refine own_step (st' := T8.setTop (mkF m 38 #[.val (.long x0), .second, .val (.long x1), .second, .val (.long x2), .second, .val (.int x3), .val (.long cc), .second, .val (.ref b1), .unset, .unset, .unset, .unset, .unset, .unset, .unset, .unset, .unset, .unset] [(.long cc), (.long (x1 &&& (9223372036854775807 : Int64)))])) (fun t k => XS.lload X8.here hx rfl (hb hby at_36) rfl k) ?_
  refine own_step (st' := T8.setTop (mkF m 40 #[.val (.long x0), .second, .val (.long x1), .second, .val (.long x2), .second, .val (.int x3), .val (.long cc), .second, .val (.ref b1), .unset, .unset, .unset, .unset, .unset, .unset, .unset, .unset, .unset, .unset] [(.int x3), (.long cc), (.long (x1 &&& (9223372036854775807 : Int64)))])) (fun t k => XS.iload X8.here hx rfl (hb hby at_38) rfl k) ?_
  refine own_step (st' := T8.setTop (mkF m 41 #[.val (.long x0), .second, .val (.long x1), .second, .val (.long x2), .second, .val (.int x3), .val (.long cc), .second, .val (.ref b1), .unset, .unset, .unset, .unset, .unset, .unset, .unset, .unset, .unset, .unset] [(.int (3 : Int32)), (.int x3), (.long cc), (.long (x1 &&& (9223372036854775807 : Int64)))])) (fun t k => XS.iconst X8.here hx rfl (hb hby at_40) k) ?_
  refine own_step (st' := T8.setTop (mkF m 42 #[.val (.long x0), .second, .val (.long x1), .second, .val (.long x2), .second, .val (.int x3), .val (.long cc), .second, .val (.ref b1), .unset, .unset, .unset, .unset, .unset, .unset, .unset, .unset, .unset, .unset] [(.int (x3 &&& (3 : Int32))), (.long cc), (.long (x1 &&& (9223372036854775807 : Int64)))])) (fun t k => XS.iand X8.here hx rfl (hb hby at_41) rfl k) ?_
  obtain ⟨_, _, ⟨T9, L9, k9, n9⟩, -, X9, ⟨Lc9, hQ9, l9, y9, z9⟩, st9⟩ := Jvm.LawKit.callS X8 hx (y := (⟨"com/example/alert_tree/alerttree/protocol/RoomTakePinLaw", "pick", "(JJI)J"⟩ : MethodName)) hown (mvT hZ (hw _ (List.mem_of_getElem? (i := 19) rfl))) (mvT hZ (hw _ (List.mem_of_getElem? (i := 20) rfl))) (mvT hZ (hw _ (List.mem_of_getElem? (i := 21) rfl))) (mvT hZ (hw _ (List.mem_of_getElem? (i := 22) rfl))) (by decide) (backOf (W := 0) (rm4 l Z a0 hw [] (x1 &&& (9223372036854775807 : Int64)) cc (x3 &&& (3 : Int32)) h5 n0 Z7) hZ (hw _ (List.mem_of_getElem? (i := 22) rfl)) (hw _ (List.mem_of_getElem? (i := 21) rfl)) (by decide) (by decide)) (g := (mkF m 42 #[.val (.long x0), .second, .val (.long x1), .second, .val (.long x2), .second, .val (.int x3), .val (.long cc), .second, .val (.ref b1), .unset, .unset, .unset, .unset, .unset, .unset, .unset, .unset, .unset, .unset] [(.int (x3 &&& (3 : Int32))), (.long cc), (.long (x1 &&& (9223372036854775807 : Int64)))])) rfl (by rw [hml]; rfl) (argsL := [(.long (x1 &&& (9223372036854775807 : Int64))), (.long cc), (.int (x3 &&& (3 : Int32)))]) (rest := []) (lenOf pd_3 rfl) rfl (by show 2 * 0 + _ ≤ _; exact Nat.le_of_eq rfl) (hb hby at_42) (fun _ _ => ⟨rfl, e8, (by decide : 1 + 0 ≤ _), (by decide : 2 + 0 ≤ _)⟩)
  dsimp only [Pt.U, Pt.locs, Pt.cells, Pt.slots] at X9 l9 y9 z9 st9 hQ9
  subst l9 y9 z9
  obtain ⟨z_9, rfl, N9q, e9⟩ := hQ9
  have N9 := Fr.app N8 N9q
  refine own_step (st' := T9.setTop (mkF m 45 #[.val (.long x0), .second, .val (.long x1), .second, .val (.long x2), .second, .val (.int x3), .val (.long cc), .second, .val (.ref b1), .unset, .unset, .unset, .unset, .unset, .unset, .unset, .unset, .unset, .unset] [(.long z_9)])) st9 ?_
  refine own_step (st' := T9.setTop (mkF m 47 #[.val (.long x0), .second, .val (.long x1), .second, .val (.long x2), .second, .val (.int x3), .val (.long cc), .second, .val (.ref b1), .val (.long z_9), .second, .unset, .unset, .unset, .unset, .unset, .unset, .unset, .unset] [])) (fun t k => XS.lstore X9.here hx rfl (hb hby at_45) rfl (l' := #[.val (.long x0), .second, .val (.long x1), .second, .val (.long x2), .second, .val (.int x3), .val (.long cc), .second, .val (.ref b1), .val (.long z_9), .second, .unset, .unset, .unset, .unset, .unset, .unset, .unset, .unset]) rfl k) ?_
  refine own_step (st' := T9.setTop (mkF m 49 #[.val (.long x0), .second, .val (.long x1), .second, .val (.long x2), .second, .val (.int x3), .val (.long cc), .second, .val (.ref b1), .val (.long z_9), .second, .unset, .unset, .unset, .unset, .unset, .unset, .unset, .unset] [(.ref b1)])) (fun t k => XS.aload X9.here hx rfl (hb hby at_47) rfl rfl k) ?_
  refine own_step (st' := T9.setTop (mkF m 51 #[.val (.long x0), .second, .val (.long x1), .second, .val (.long x2), .second, .val (.int x3), .val (.long cc), .second, .val (.ref b1), .val (.long z_9), .second, .unset, .unset, .unset, .unset, .unset, .unset, .unset, .unset] [(.long z_9), (.ref b1)])) (fun t k => XS.lload X9.here hx rfl (hb hby at_49) rfl k) ?_
  obtain ⟨cq10, kq10, q10a, q10b, q10c⟩ := isOf hZ e9 f6
  obtain ⟨_, _, ⟨T10, L10, k10, n10⟩, -, X10, ⟨Lc10, hQ10, l10, y10, z10⟩, st10⟩ := X9.virtualBack hx (y := (⟨"com/example/alert_tree/alerttree/protocol/Room", "take", "(J)Z"⟩ : MethodName)) (z := (⟨"com/example/alert_tree/alerttree/protocol/Room", "take", "(J)Z"⟩ : MethodName)) hown (mvT hZ (hw _ (List.mem_of_getElem? (i := 25) rfl))) (mvT hZ (hw _ (List.mem_of_getElem? (i := 26) rfl))) (notFace_of_selects (args := #[]) (mvT hZ (hw _ (List.mem_of_getElem? (i := 28) rfl)))) (mvT hZ (hw _ (List.mem_of_getElem? (i := 28) rfl))) (mvT hZ (hw _ (List.mem_of_getElem? (i := 27) rfl))) (by decide) (backOf (W := 0) (rm5 l Z a0 hw [] b1 z_9 cc cc h5 n0 Z7 pq5_1 pq5_0 f6 g_b1) hZ (hw _ (List.mem_of_getElem? (i := 29) rfl)) (hw _ (List.mem_of_getElem? (i := 3) rfl)) (by decide) (by decide)) q10a q10c (g := (mkF m 51 #[.val (.long x0), .second, .val (.long x1), .second, .val (.long x2), .second, .val (.int x3), .val (.long cc), .second, .val (.ref b1), .val (.long z_9), .second, .unset, .unset, .unset, .unset, .unset, .unset, .unset, .unset] [(.long z_9), (.ref b1)])) rfl (by rw [hml]; rfl) (Steps.refl _) (argsL := [(.long z_9)]) (rest := []) (lenOf pd_4 rfl) rfl (by show 2 * 0 + _ ≤ _; exact Nat.le_of_eq rfl) (hb hby at_51) (fun _ _ => ⟨rfl, e9, (by decide : 1 + 0 ≤ _), (by decide : 2 + 0 ≤ _)⟩)
  dsimp only [Pt.U, Pt.locs, Pt.cells, Pt.slots] at X10 l10 y10 z10 st10 hQ10
  subst l10 y10 z10
  obtain ⟨rfl, N10q, K10, pq10_0, pq10_1⟩ := hQ10
  have N10 := Fr.app N9 N10q
  obtain ⟨h10, e10⟩ : ∃ z, T10.heap = z := ⟨_, rfl⟩
  rw [e10] at K10 pq10_0 pq10_1
  have f11 := f6.keep K10
  have Z12 : n0 ≤ h10.size := Nat.le_trans Z7 K10.1
  refine own_step (st' := T10.setTop (mkF m 54 #[.val (.long x0), .second, .val (.long x1), .second, .val (.long x2), .second, .val (.int x3), .val (.long cc), .second, .val (.ref b1), .val (.long z_9), .second, .unset, .unset, .unset, .unset, .unset, .unset, .unset, .unset] [(.int (if cc < z_9 then (0 : Int32) else (1 : Int32)))])) (fun t k => st10.trans k) ?_
  refine own_step (st' := T10.setTop (mkF m 56 #[.val (.long x0), .second, .val (.long x1), .second, .val (.long x2), .second, .val (.int x3), .val (.long cc), .second, .val (.ref b1), .val (.long z_9), .second, .val (.int (if cc < z_9 then (0 : Int32) else (1 : Int32))), .unset, .unset, .unset, .unset, .unset, .unset, .unset] [])) (fun t k => XS.istore X10.here hx rfl (hb hby at_54) rfl (l' := #[.val (.long x0), .second, .val (.long x1), .second, .val (.long x2), .second, .val (.int x3), .val (.long cc), .second, .val (.ref b1), .val (.long z_9), .second, .val (.int (if cc < z_9 then (0 : Int32) else (1 : Int32))), .unset, .unset, .unset, .unset, .unset, .unset, .unset]) rfl k) ?_
  refine own_step (st' := T10.setTop (mkF m 58 #[.val (.long x0), .second, .val (.long x1), .second, .val (.long x2), .second, .val (.int x3), .val (.long cc), .second, .val (.ref b1), .val (.long z_9), .second, .val (.int (if cc < z_9 then (0 : Int32) else (1 : Int32))), .unset, .unset, .unset, .unset, .unset, .unset, .unset] [(.int (if cc < z_9 then (0 : Int32) else (1 : Int32)))])) (fun t k => XS.iload X10.here hx rfl (hb hby at_56) rfl k) ?_
  refine own_step (st' := T10.setTop (mkF m 60 #[.val (.long x0), .second, .val (.long x1), .second, .val (.long x2), .second, .val (.int x3), .val (.long cc), .second, .val (.ref b1), .val (.long z_9), .second, .val (.int (if cc < z_9 then (0 : Int32) else (1 : Int32))), .unset, .unset, .unset, .unset, .unset, .unset, .unset] [(.long z_9), (.int (if cc < z_9 then (0 : Int32) else (1 : Int32)))])) (fun t k => XS.lload X10.here hx rfl (hb hby at_58) rfl k) ?_
  refine own_step (st' := T10.setTop (mkF m 62 #[.val (.long x0), .second, .val (.long x1), .second, .val (.long x2), .second, .val (.int x3), .val (.long cc), .second, .val (.ref b1), .val (.long z_9), .second, .val (.int (if cc < z_9 then (0 : Int32) else (1 : Int32))), .unset, .unset, .unset, .unset, .unset, .unset, .unset] [(.long cc), (.long z_9), (.int (if cc < z_9 then (0 : Int32) else (1 : Int32)))])) (fun t k => XS.lload X10.here hx rfl (hb hby at_60) rfl k) ?_
  refine own_step (st' := T10.setTop (mkF m 63 #[.val (.long x0), .second, .val (.long x1), .second, .val (.long x2), .second, .val (.int x3), .val (.long cc), .second, .val (.ref b1), .val (.long z_9), .second, .val (.int (if cc < z_9 then (0 : Int32) else (1 : Int32))), .unset, .unset, .unset, .unset, .unset, .unset, .unset] [(.int (lcmpW z_9 cc)), (.int (if cc < z_9 then (0 : Int32) else (1 : Int32)))])) (fun t k => XS.lcmp X10.here hx rfl (hb hby at_62) rfl k) ?_
  refine own_step (st' := T10.setTop (mkF m 71 #[.val (.long x0), .second, .val (.long x1), .second, .val (.long x2), .second, .val (.int x3), .val (.long cc), .second, .val (.ref b1), .val (.long z_9), .second, .val (.int (if cc < z_9 then (0 : Int32) else (1 : Int32))), .unset, .unset, .unset, .unset, .unset, .unset, .unset] [(.int (if cc < z_9 then (0 : Int32) else (1 : Int32))), (.int (if cc < z_9 then (0 : Int32) else (1 : Int32)))])) (fun t k => ?_) ?_
  · by_cases hc13 : cc < z_9
    · refine XS.ifYes X10.here hx rfl (pc0 := 63) (pc' := 70) rfl (hb hby at_63) rfl ((if0 _ _).trans (tlt ((lw_gt _ _).mpr hc13)).2.2.1) (by decide) (by decide) (?_ : Steps p.tables e below (T10.setTop (mkF m 70 #[.val (.long x0), .second, .val (.long x1), .second, .val (.long x2), .second, .val (.int x3), .val (.long cc), .second, .val (.ref b1), .val (.long z_9), .second, .val (.int (if cc < z_9 then (0 : Int32) else (1 : Int32))), .unset, .unset, .unset, .unset, .unset, .unset, .unset] [(.int (if cc < z_9 then (0 : Int32) else (1 : Int32)))])) _)
      refine XS.iconst X10.here hx rfl (hb hby at_70) (?_ : Steps p.tables e below (T10.setTop (mkF m 71 #[.val (.long x0), .second, .val (.long x1), .second, .val (.long x2), .second, .val (.int x3), .val (.long cc), .second, .val (.ref b1), .val (.long z_9), .second, .val (.int (if cc < z_9 then (0 : Int32) else (1 : Int32))), .unset, .unset, .unset, .unset, .unset, .unset, .unset] [(.int (0 : Int32)), (.int (if cc < z_9 then (0 : Int32) else (1 : Int32)))])) _)
      simpa only [if_pos hc13] using k
    · refine XS.ifNo X10.here hx rfl (hb hby at_63) rfl ((if0 _ _).trans (flt (fun q => hc13 ((lw_gt _ _).mp q))).2.2.1) (?_ : Steps p.tables e below (T10.setTop (mkF m 66 #[.val (.long x0), .second, .val (.long x1), .second, .val (.long x2), .second, .val (.int x3), .val (.long cc), .second, .val (.ref b1), .val (.long z_9), .second, .val (.int (if cc < z_9 then (0 : Int32) else (1 : Int32))), .unset, .unset, .unset, .unset, .unset, .unset, .unset] [(.int (if cc < z_9 then (0 : Int32) else (1 : Int32)))])) _)
      refine XS.iconst X10.here hx rfl (hb hby at_66) (?_ : Steps p.tables e below (T10.setTop (mkF m 67 #[.val (.long x0), .second, .val (.long x1), .second, .val (.long x2), .second, .val (.int x3), .val (.long cc), .second, .val (.ref b1), .val (.long z_9), .second, .val (.int (if cc < z_9 then (0 : Int32) else (1 : Int32))), .unset, .unset, .unset, .unset, .unset, .unset, .unset] [(.int (1 : Int32)), (.int (if cc < z_9 then (0 : Int32) else (1 : Int32)))])) _)
      refine XS.goto X10.here hx rfl (pc0 := 67) (pc' := 71) rfl (hb hby at_67) (by decide) (by decide) (?_ : Steps p.tables e below (T10.setTop (mkF m 71 #[.val (.long x0), .second, .val (.long x1), .second, .val (.long x2), .second, .val (.int x3), .val (.long cc), .second, .val (.ref b1), .val (.long z_9), .second, .val (.int (if cc < z_9 then (0 : Int32) else (1 : Int32))), .unset, .unset, .unset, .unset, .unset, .unset, .unset] [(.int (1 : Int32)), (.int (if cc < z_9 then (0 : Int32) else (1 : Int32)))])) _)
      simpa only [if_neg hc13] using k
  refine own_step (st' := T10.setTop (mkF m 76 #[.val (.long x0), .second, .val (.long x1), .second, .val (.long x2), .second, .val (.int x3), .val (.long cc), .second, .val (.ref b1), .val (.long z_9), .second, .val (.int (if cc < z_9 then (0 : Int32) else (1 : Int32))), .unset, .unset, .unset, .unset, .unset, .unset, .unset] [])) (fun t k => XS.icmpYes X10.here hx rfl (pc0 := 71) (pc' := 76) rfl (hb hby at_71) rfl (teq rfl).1 (by decide) (by decide) k) ?_
  refine own_step (st' := T10.setTop (mkF m 78 #[.val (.long x0), .second, .val (.long x1), .second, .val (.long x2), .second, .val (.int x3), .val (.long cc), .second, .val (.ref b1), .val (.long z_9), .second, .val (.int (if cc < z_9 then (0 : Int32) else (1 : Int32))), .unset, .unset, .unset, .unset, .unset, .unset, .unset] [(.int (if cc < z_9 then (0 : Int32) else (1 : Int32)))])) (fun t k => XS.iload X10.here hx rfl (hb hby at_76) rfl k) ?_
  refine own_step (st' := T10.setTop (mkF m 91 #[.val (.long x0), .second, .val (.long x1), .second, .val (.long x2), .second, .val (.int x3), .val (.long cc), .second, .val (.ref b1), .val (.long z_9), .second, .val (.int (if cc < z_9 then (0 : Int32) else (1 : Int32))), .unset, .unset, .unset, .unset, .unset, .unset, .unset] [(.long (if cc < z_9 then cc else (cc - z_9)))])) (fun t k => ?_) ?_
  · by_cases hc14 : cc < z_9
    · refine XS.ifYes X10.here hx rfl (pc0 := 78) (pc' := 89) rfl (hb hby at_78) rfl ((if0 _ _).trans (teq (if_pos hc14)).1) (by decide) (by decide) (?_ : Steps p.tables e below (T10.setTop (mkF m 89 #[.val (.long x0), .second, .val (.long x1), .second, .val (.long x2), .second, .val (.int x3), .val (.long cc), .second, .val (.ref b1), .val (.long z_9), .second, .val (.int (if cc < z_9 then (0 : Int32) else (1 : Int32))), .unset, .unset, .unset, .unset, .unset, .unset, .unset] [])) _)
      refine XS.lload X10.here hx rfl (hb hby at_89) rfl (?_ : Steps p.tables e below (T10.setTop (mkF m 91 #[.val (.long x0), .second, .val (.long x1), .second, .val (.long x2), .second, .val (.int x3), .val (.long cc), .second, .val (.ref b1), .val (.long z_9), .second, .val (.int (if cc < z_9 then (0 : Int32) else (1 : Int32))), .unset, .unset, .unset, .unset, .unset, .unset, .unset] [(.long cc)])) _)
      simpa only [if_pos hc14] using k
    · refine XS.ifNo X10.here hx rfl (hb hby at_78) rfl ((if0 _ _).trans (feq (own_b1n hc14)).1) (?_ : Steps p.tables e below (T10.setTop (mkF m 81 #[.val (.long x0), .second, .val (.long x1), .second, .val (.long x2), .second, .val (.int x3), .val (.long cc), .second, .val (.ref b1), .val (.long z_9), .second, .val (.int (if cc < z_9 then (0 : Int32) else (1 : Int32))), .unset, .unset, .unset, .unset, .unset, .unset, .unset] [])) _)
      refine XS.lload X10.here hx rfl (hb hby at_81) rfl (?_ : Steps p.tables e below (T10.setTop (mkF m 83 #[.val (.long x0), .second, .val (.long x1), .second, .val (.long x2), .second, .val (.int x3), .val (.long cc), .second, .val (.ref b1), .val (.long z_9), .second, .val (.int (if cc < z_9 then (0 : Int32) else (1 : Int32))), .unset, .unset, .unset, .unset, .unset, .unset, .unset] [(.long cc)])) _)
      refine XS.lload X10.here hx rfl (hb hby at_83) rfl (?_ : Steps p.tables e below (T10.setTop (mkF m 85 #[.val (.long x0), .second, .val (.long x1), .second, .val (.long x2), .second, .val (.int x3), .val (.long cc), .second, .val (.ref b1), .val (.long z_9), .second, .val (.int (if cc < z_9 then (0 : Int32) else (1 : Int32))), .unset, .unset, .unset, .unset, .unset, .unset, .unset] [(.long z_9), (.long cc)])) _)
      refine XS.lsub X10.here hx rfl (hb hby at_85) rfl (?_ : Steps p.tables e below (T10.setTop (mkF m 86 #[.val (.long x0), .second, .val (.long x1), .second, .val (.long x2), .second, .val (.int x3), .val (.long cc), .second, .val (.ref b1), .val (.long z_9), .second, .val (.int (if cc < z_9 then (0 : Int32) else (1 : Int32))), .unset, .unset, .unset, .unset, .unset, .unset, .unset] [(.long (cc - z_9))])) _)
      refine XS.goto X10.here hx rfl (pc0 := 86) (pc' := 91) rfl (hb hby at_86) (by decide) (by decide) (?_ : Steps p.tables e below (T10.setTop (mkF m 91 #[.val (.long x0), .second, .val (.long x1), .second, .val (.long x2), .second, .val (.int x3), .val (.long cc), .second, .val (.ref b1), .val (.long z_9), .second, .val (.int (if cc < z_9 then (0 : Int32) else (1 : Int32))), .unset, .unset, .unset, .unset, .unset, .unset, .unset] [(.long (cc - z_9))])) _)
      simpa only [if_neg hc14] using k
  obtain ⟨l1, e_l1⟩ : ∃ z : Int64, z = (if cc < z_9 then cc else (cc - z_9)) := ⟨_, rfl⟩
  rw [← e_l1]
  rw [← e_l1] at pq10_0
  refine own_step (st' := T10.setTop (mkF m 93 #[.val (.long x0), .second, .val (.long x1), .second, .val (.long x2), .second, .val (.int x3), .val (.long cc), .second, .val (.ref b1), .val (.long z_9), .second, .val (.int (if cc < z_9 then (0 : Int32) else (1 : Int32))), .val (.long l1), .second, .unset, .unset, .unset, .unset, .unset] [])) (fun t k => XS.lstore X10.here hx rfl (hb hby at_91) rfl (l' := #[.val (.long x0), .second, .val (.long x1), .second, .val (.long x2), .second, .val (.int x3), .val (.long cc), .second, .val (.ref b1), .val (.long z_9), .second, .val (.int (if cc < z_9 then (0 : Int32) else (1 : Int32))), .val (.long l1), .second, .unset, .unset, .unset, .unset, .unset]) rfl k) ?_
  refine own_step (st' := T10.setTop (mkF m 95 #[.val (.long x0), .second, .val (.long x1), .second, .val (.long x2), .second, .val (.int x3), .val (.long cc), .second, .val (.ref b1), .val (.long z_9), .second, .val (.int (if cc < z_9 then (0 : Int32) else (1 : Int32))), .val (.long l1), .second, .unset, .unset, .unset, .unset, .unset] [(.long x2)])) (fun t k => XS.lload X10.here hx rfl (hb hby at_93) rfl k) ?_
  refine own_step (st' := T10.setTop (mkF m 98 #[.val (.long x0), .second, .val (.long x1), .second, .val (.long x2), .second, .val (.int x3), .val (.long cc), .second, .val (.ref b1), .val (.long z_9), .second, .val (.int (if cc < z_9 then (0 : Int32) else (1 : Int32))), .val (.long l1), .second, .unset, .unset, .unset, .unset, .unset] [(.long (9223372036854775807 : Int64)), (.long x2)])) (fun t k => X10.ldc2Long hx hown (mvT hZ (hw _ (List.mem_of_getElem? (i := 0) rfl))) (g := (mkF m 95 #[.val (.long x0), .second, .val (.long x1), .second, .val (.long x2), .second, .val (.int x3), .val (.long cc), .second, .val (.ref b1), .val (.long z_9), .second, .val (.int (if cc < z_9 then (0 : Int32) else (1 : Int32))), .val (.long l1), .second, .unset, .unset, .unset, .unset, .unset] [(.long x2)])) rfl (hb hby at_95) t k) ?_
  refine own_step (st' := T10.setTop (mkF m 99 #[.val (.long x0), .second, .val (.long x1), .second, .val (.long x2), .second, .val (.int x3), .val (.long cc), .second, .val (.ref b1), .val (.long z_9), .second, .val (.int (if cc < z_9 then (0 : Int32) else (1 : Int32))), .val (.long l1), .second, .unset, .unset, .unset, .unset, .unset] [(.long (x2 &&& (9223372036854775807 : Int64)))])) (fun t k => XS.land X10.here hx rfl (hb hby at_98) rfl k) ?_
  refine own_step (st' := T10.setTop (mkF m 101 #[.val (.long x0), .second, .val (.long x1), .second, .val (.long x2), .second, .val (.int x3), .val (.long cc), .second, .val (.ref b1), .val (.long z_9), .second, .val (.int (if cc < z_9 then (0 : Int32) else (1 : Int32))), .val (.long l1), .second, .unset, .unset, .unset, .unset, .unset] [(.long l1), (.long (x2 &&& (9223372036854775807 : Int64)))])) (fun t k => XS.lload X10.here hx rfl (hb hby at_99) rfl k) ?_
  refine own_step (st' := T10.setTop (mkF m 103 #[.val (.long x0), .second, .val (.long x1), .second, .val (.long x2), .second, .val (.int x3), .val (.long cc), .second, .val (.ref b1), .val (.long z_9), .second, .val (.int (if cc < z_9 then (0 : Int32) else (1 : Int32))), .val (.long l1), .second, .unset, .unset, .unset, .unset, .unset] [(.int x3), (.long l1), (.long (x2 &&& (9223372036854775807 : Int64)))])) (fun t k => XS.iload X10.here hx rfl (hb hby at_101) rfl k) ?_
  refine own_step (st' := T10.setTop (mkF m 104 #[.val (.long x0), .second, .val (.long x1), .second, .val (.long x2), .second, .val (.int x3), .val (.long cc), .second, .val (.ref b1), .val (.long z_9), .second, .val (.int (if cc < z_9 then (0 : Int32) else (1 : Int32))), .val (.long l1), .second, .unset, .unset, .unset, .unset, .unset] [(.int (2 : Int32)), (.int x3), (.long l1), (.long (x2 &&& (9223372036854775807 : Int64)))])) (fun t k => XS.iconst X10.here hx rfl (hb hby at_103) k) ?_
  refine own_step (st' := T10.setTop (mkF m 105 #[.val (.long x0), .second, .val (.long x1), .second, .val (.long x2), .second, .val (.int x3), .val (.long cc), .second, .val (.ref b1), .val (.long z_9), .second, .val (.int (if cc < z_9 then (0 : Int32) else (1 : Int32))), .val (.long l1), .second, .unset, .unset, .unset, .unset, .unset] [(.int ((x3.toUInt32 >>> ((2 : Int32) &&& 31).toUInt32).toInt32)), (.long l1), (.long (x2 &&& (9223372036854775807 : Int64)))])) (fun t k => XS.iushr X10.here hx rfl (hb hby at_104) rfl k) ?_
  refine own_step (st' := T10.setTop (mkF m 106 #[.val (.long x0), .second, .val (.long x1), .second, .val (.long x2), .second, .val (.int x3), .val (.long cc), .second, .val (.ref b1), .val (.long z_9), .second, .val (.int (if cc < z_9 then (0 : Int32) else (1 : Int32))), .val (.long l1), .second, .unset, .unset, .unset, .unset, .unset] [(.int (3 : Int32)), (.int ((x3.toUInt32 >>> ((2 : Int32) &&& 31).toUInt32).toInt32)), (.long l1), (.long (x2 &&& (9223372036854775807 : Int64)))])) (fun t k => XS.iconst X10.here hx rfl (hb hby at_105) k) ?_
  refine own_step (st' := T10.setTop (mkF m 107 #[.val (.long x0), .second, .val (.long x1), .second, .val (.long x2), .second, .val (.int x3), .val (.long cc), .second, .val (.ref b1), .val (.long z_9), .second, .val (.int (if cc < z_9 then (0 : Int32) else (1 : Int32))), .val (.long l1), .second, .unset, .unset, .unset, .unset, .unset] [(.int (((x3.toUInt32 >>> ((2 : Int32) &&& 31).toUInt32).toInt32) &&& (3 : Int32))), (.long l1), (.long (x2 &&& (9223372036854775807 : Int64)))])) (fun t k => XS.iand X10.here hx rfl (hb hby at_106) rfl k) ?_
  obtain ⟨_, _, ⟨T15, L15, k15, n15⟩, -, X15, ⟨Lc15, hQ15, l15, y15, z15⟩, st15⟩ := Jvm.LawKit.callS X10 hx (y := (⟨"com/example/alert_tree/alerttree/protocol/RoomTakePinLaw", "pick", "(JJI)J"⟩ : MethodName)) hown (mvT hZ (hw _ (List.mem_of_getElem? (i := 19) rfl))) (mvT hZ (hw _ (List.mem_of_getElem? (i := 20) rfl))) (mvT hZ (hw _ (List.mem_of_getElem? (i := 21) rfl))) (mvT hZ (hw _ (List.mem_of_getElem? (i := 22) rfl))) (by decide) (backOf (W := 0) (rm4 l Z a0 hw [] (x2 &&& (9223372036854775807 : Int64)) l1 (((x3.toUInt32 >>> ((2 : Int32) &&& 31).toUInt32).toInt32) &&& (3 : Int32)) h10 n0 Z12) hZ (hw _ (List.mem_of_getElem? (i := 22) rfl)) (hw _ (List.mem_of_getElem? (i := 21) rfl)) (by decide) (by decide)) (g := (mkF m 107 #[.val (.long x0), .second, .val (.long x1), .second, .val (.long x2), .second, .val (.int x3), .val (.long cc), .second, .val (.ref b1), .val (.long z_9), .second, .val (.int (if cc < z_9 then (0 : Int32) else (1 : Int32))), .val (.long l1), .second, .unset, .unset, .unset, .unset, .unset] [(.int (((x3.toUInt32 >>> ((2 : Int32) &&& 31).toUInt32).toInt32) &&& (3 : Int32))), (.long l1), (.long (x2 &&& (9223372036854775807 : Int64)))])) rfl (by rw [hml]; rfl) (argsL := [(.long (x2 &&& (9223372036854775807 : Int64))), (.long l1), (.int (((x3.toUInt32 >>> ((2 : Int32) &&& 31).toUInt32).toInt32) &&& (3 : Int32)))]) (rest := []) (lenOf pd_3 rfl) rfl (by show 2 * 0 + _ ≤ _; exact Nat.le_of_eq rfl) (hb hby at_107) (fun _ _ => ⟨rfl, e10, (by decide : 1 + 0 ≤ _), (by decide : 2 + 0 ≤ _)⟩)
  dsimp only [Pt.U, Pt.locs, Pt.cells, Pt.slots] at X15 l15 y15 z15 st15 hQ15
  subst l15 y15 z15
  obtain ⟨z_15, rfl, N15q, e15⟩ := hQ15
  have N15 := Fr.app N10 N15q
  refine own_step (st' := T15.setTop (mkF m 110 #[.val (.long x0), .second, .val (.long x1), .second, .val (.long x2), .second, .val (.int x3), .val (.long cc), .second, .val (.ref b1), .val (.long z_9), .second, .val (.int (if cc < z_9 then (0 : Int32) else (1 : Int32))), .val (.long l1), .second, .unset, .unset, .unset, .unset, .unset] [(.long z_15)])) st15 ?_
  refine own_step (st' := T15.setTop (mkF m 112 #[.val (.long x0), .second, .val (.long x1), .second, .val (.long x2), .second, .val (.int x3), .val (.long cc), .second, .val (.ref b1), .val (.long z_9), .second, .val (.int (if cc < z_9 then (0 : Int32) else (1 : Int32))), .val (.long l1), .second, .val (.long z_15), .second, .unset, .unset, .unset] [])) (fun t k => XS.lstore X15.here hx rfl (hb hby at_110) rfl (l' := #[.val (.long x0), .second, .val (.long x1), .second, .val (.long x2), .second, .val (.int x3), .val (.long cc), .second, .val (.ref b1), .val (.long z_9), .second, .val (.int (if cc < z_9 then (0 : Int32) else (1 : Int32))), .val (.long l1), .second, .val (.long z_15), .second, .unset, .unset, .unset]) rfl k) ?_
  refine own_step (st' := T15.setTop (mkF m 114 #[.val (.long x0), .second, .val (.long x1), .second, .val (.long x2), .second, .val (.int x3), .val (.long cc), .second, .val (.ref b1), .val (.long z_9), .second, .val (.int (if cc < z_9 then (0 : Int32) else (1 : Int32))), .val (.long l1), .second, .val (.long z_15), .second, .unset, .unset, .unset] [(.ref b1)])) (fun t k => XS.aload X15.here hx rfl (hb hby at_112) rfl rfl k) ?_
  refine own_step (st' := T15.setTop (mkF m 116 #[.val (.long x0), .second, .val (.long x1), .second, .val (.long x2), .second, .val (.int x3), .val (.long cc), .second, .val (.ref b1), .val (.long z_9), .second, .val (.int (if cc < z_9 then (0 : Int32) else (1 : Int32))), .val (.long l1), .second, .val (.long z_15), .second, .unset, .unset, .unset] [(.long z_15), (.ref b1)])) (fun t k => XS.lload X15.here hx rfl (hb hby at_114) rfl k) ?_
  obtain ⟨cq16, kq16, q16a, q16b, q16c⟩ := isOf hZ e15 f11
  obtain ⟨_, _, ⟨T16, L16, k16, n16⟩, -, X16, ⟨Lc16, hQ16, l16, y16, z16⟩, st16⟩ := X15.virtualBack hx (y := (⟨"com/example/alert_tree/alerttree/protocol/Room", "take", "(J)Z"⟩ : MethodName)) (z := (⟨"com/example/alert_tree/alerttree/protocol/Room", "take", "(J)Z"⟩ : MethodName)) hown (mvT hZ (hw _ (List.mem_of_getElem? (i := 25) rfl))) (mvT hZ (hw _ (List.mem_of_getElem? (i := 26) rfl))) (notFace_of_selects (args := #[]) (mvT hZ (hw _ (List.mem_of_getElem? (i := 28) rfl)))) (mvT hZ (hw _ (List.mem_of_getElem? (i := 28) rfl))) (mvT hZ (hw _ (List.mem_of_getElem? (i := 27) rfl))) (by decide) (backOf (W := 0) (rm5 l Z a0 hw [] b1 z_15 l1 cc h10 n0 Z12 pq10_0 pq10_1 f11 g_b1) hZ (hw _ (List.mem_of_getElem? (i := 29) rfl)) (hw _ (List.mem_of_getElem? (i := 3) rfl)) (by decide) (by decide)) q16a q16c (g := (mkF m 116 #[.val (.long x0), .second, .val (.long x1), .second, .val (.long x2), .second, .val (.int x3), .val (.long cc), .second, .val (.ref b1), .val (.long z_9), .second, .val (.int (if cc < z_9 then (0 : Int32) else (1 : Int32))), .val (.long l1), .second, .val (.long z_15), .second, .unset, .unset, .unset] [(.long z_15), (.ref b1)])) rfl (by rw [hml]; rfl) (Steps.refl _) (argsL := [(.long z_15)]) (rest := []) (lenOf pd_4 rfl) rfl (by show 2 * 0 + _ ≤ _; exact Nat.le_of_eq rfl) (hb hby at_116) (fun _ _ => ⟨rfl, e15, (by decide : 1 + 0 ≤ _), (by decide : 2 + 0 ≤ _)⟩)
  dsimp only [Pt.U, Pt.locs, Pt.cells, Pt.slots] at X16 l16 y16 z16 st16 hQ16
  subst l16 y16 z16
  obtain ⟨rfl, N16q, K16, pq16_0, pq16_1⟩ := hQ16
  have N16 := Fr.app N15 N16q
  obtain ⟨h16, e16⟩ : ∃ z, T16.heap = z := ⟨_, rfl⟩
  rw [e16] at K16 pq16_0 pq16_1
  have f17 := f11.keep K16
  have Z18 : n0 ≤ h16.size := Nat.le_trans Z12 K16.1
  refine own_step (st' := T16.setTop (mkF m 119 #[.val (.long x0), .second, .val (.long x1), .second, .val (.long x2), .second, .val (.int x3), .val (.long cc), .second, .val (.ref b1), .val (.long z_9), .second, .val (.int (if cc < z_9 then (0 : Int32) else (1 : Int32))), .val (.long l1), .second, .val (.long z_15), .second, .unset, .unset, .unset] [(.int (if l1 < z_15 then (0 : Int32) else (1 : Int32)))])) (fun t k => st16.trans k) ?_
  refine own_step (st' := T16.setTop (mkF m 121 #[.val (.long x0), .second, .val (.long x1), .second, .val (.long x2), .second, .val (.int x3), .val (.long cc), .second, .val (.ref b1), .val (.long z_9), .second, .val (.int (if cc < z_9 then (0 : Int32) else (1 : Int32))), .val (.long l1), .second, .val (.long z_15), .second, .val (.int (if l1 < z_15 then (0 : Int32) else (1 : Int32))), .unset, .unset] [])) (fun t k => XS.istore X16.here hx rfl (hb hby at_119) rfl (l' := #[.val (.long x0), .second, .val (.long x1), .second, .val (.long x2), .second, .val (.int x3), .val (.long cc), .second, .val (.ref b1), .val (.long z_9), .second, .val (.int (if cc < z_9 then (0 : Int32) else (1 : Int32))), .val (.long l1), .second, .val (.long z_15), .second, .val (.int (if l1 < z_15 then (0 : Int32) else (1 : Int32))), .unset, .unset]) rfl k) ?_
  refine own_step (st' := T16.setTop (mkF m 123 #[.val (.long x0), .second, .val (.long x1), .second, .val (.long x2), .second, .val (.int x3), .val (.long cc), .second, .val (.ref b1), .val (.long z_9), .second, .val (.int (if cc < z_9 then (0 : Int32) else (1 : Int32))), .val (.long l1), .second, .val (.long z_15), .second, .val (.int (if l1 < z_15 then (0 : Int32) else (1 : Int32))), .unset, .unset] [(.int (if l1 < z_15 then (0 : Int32) else (1 : Int32)))])) (fun t k => XS.iload X16.here hx rfl (hb hby at_121) rfl k) ?_
  refine own_step (st' := T16.setTop (mkF m 125 #[.val (.long x0), .second, .val (.long x1), .second, .val (.long x2), .second, .val (.int x3), .val (.long cc), .second, .val (.ref b1), .val (.long z_9), .second, .val (.int (if cc < z_9 then (0 : Int32) else (1 : Int32))), .val (.long l1), .second, .val (.long z_15), .second, .val (.int (if l1 < z_15 then (0 : Int32) else (1 : Int32))), .unset, .unset] [(.long z_15), (.int (if l1 < z_15 then (0 : Int32) else (1 : Int32)))])) (fun t k => XS.lload X16.here hx rfl (hb hby at_123) rfl k) ?_
  refine own_step (st' := T16.setTop (mkF m 127 #[.val (.long x0), .second, .val (.long x1), .second, .val (.long x2), .second, .val (.int x3), .val (.long cc), .second, .val (.ref b1), .val (.long z_9), .second, .val (.int (if cc < z_9 then (0 : Int32) else (1 : Int32))), .val (.long l1), .second, .val (.long z_15), .second, .val (.int (if l1 < z_15 then (0 : Int32) else (1 : Int32))), .unset, .unset] [(.long l1), (.long z_15), (.int (if l1 < z_15 then (0 : Int32) else (1 : Int32)))])) (fun t k => XS.lload X16.here hx rfl (hb hby at_125) rfl k) ?_
  refine own_step (st' := T16.setTop (mkF m 128 #[.val (.long x0), .second, .val (.long x1), .second, .val (.long x2), .second, .val (.int x3), .val (.long cc), .second, .val (.ref b1), .val (.long z_9), .second, .val (.int (if cc < z_9 then (0 : Int32) else (1 : Int32))), .val (.long l1), .second, .val (.long z_15), .second, .val (.int (if l1 < z_15 then (0 : Int32) else (1 : Int32))), .unset, .unset] [(.int (lcmpW z_15 l1)), (.int (if l1 < z_15 then (0 : Int32) else (1 : Int32)))])) (fun t k => XS.lcmp X16.here hx rfl (hb hby at_127) rfl k) ?_
  refine own_step (st' := T16.setTop (mkF m 136 #[.val (.long x0), .second, .val (.long x1), .second, .val (.long x2), .second, .val (.int x3), .val (.long cc), .second, .val (.ref b1), .val (.long z_9), .second, .val (.int (if cc < z_9 then (0 : Int32) else (1 : Int32))), .val (.long l1), .second, .val (.long z_15), .second, .val (.int (if l1 < z_15 then (0 : Int32) else (1 : Int32))), .unset, .unset] [(.int (if l1 < z_15 then (0 : Int32) else (1 : Int32))), (.int (if l1 < z_15 then (0 : Int32) else (1 : Int32)))])) (fun t k => ?_) ?_
  · by_cases hc19 : l1 < z_15
    · refine XS.ifYes X16.here hx rfl (pc0 := 128) (pc' := 135) rfl (hb hby at_128) rfl ((if0 _ _).trans (tlt ((lw_gt _ _).mpr hc19)).2.2.1) (by decide) (by decide) (?_ : Steps p.tables e below (T16.setTop (mkF m 135 #[.val (.long x0), .second, .val (.long x1), .second, .val (.long x2), .second, .val (.int x3), .val (.long cc), .second, .val (.ref b1), .val (.long z_9), .second, .val (.int (if cc < z_9 then (0 : Int32) else (1 : Int32))), .val (.long l1), .second, .val (.long z_15), .second, .val (.int (if l1 < z_15 then (0 : Int32) else (1 : Int32))), .unset, .unset] [(.int (if l1 < z_15 then (0 : Int32) else (1 : Int32)))])) _)
      refine XS.iconst X16.here hx rfl (hb hby at_135) (?_ : Steps p.tables e below (T16.setTop (mkF m 136 #[.val (.long x0), .second, .val (.long x1), .second, .val (.long x2), .second, .val (.int x3), .val (.long cc), .second, .val (.ref b1), .val (.long z_9), .second, .val (.int (if cc < z_9 then (0 : Int32) else (1 : Int32))), .val (.long l1), .second, .val (.long z_15), .second, .val (.int (if l1 < z_15 then (0 : Int32) else (1 : Int32))), .unset, .unset] [(.int (0 : Int32)), (.int (if l1 < z_15 then (0 : Int32) else (1 : Int32)))])) _)
      simpa only [if_pos hc19] using k
    · refine XS.ifNo X16.here hx rfl (hb hby at_128) rfl ((if0 _ _).trans (flt (fun q => hc19 ((lw_gt _ _).mp q))).2.2.1) (?_ : Steps p.tables e below (T16.setTop (mkF m 131 #[.val (.long x0), .second, .val (.long x1), .second, .val (.long x2), .second, .val (.int x3), .val (.long cc), .second, .val (.ref b1), .val (.long z_9), .second, .val (.int (if cc < z_9 then (0 : Int32) else (1 : Int32))), .val (.long l1), .second, .val (.long z_15), .second, .val (.int (if l1 < z_15 then (0 : Int32) else (1 : Int32))), .unset, .unset] [(.int (if l1 < z_15 then (0 : Int32) else (1 : Int32)))])) _)
      refine XS.iconst X16.here hx rfl (hb hby at_131) (?_ : Steps p.tables e below (T16.setTop (mkF m 132 #[.val (.long x0), .second, .val (.long x1), .second, .val (.long x2), .second, .val (.int x3), .val (.long cc), .second, .val (.ref b1), .val (.long z_9), .second, .val (.int (if cc < z_9 then (0 : Int32) else (1 : Int32))), .val (.long l1), .second, .val (.long z_15), .second, .val (.int (if l1 < z_15 then (0 : Int32) else (1 : Int32))), .unset, .unset] [(.int (1 : Int32)), (.int (if l1 < z_15 then (0 : Int32) else (1 : Int32)))])) _)
      refine XS.goto X16.here hx rfl (pc0 := 132) (pc' := 136) rfl (hb hby at_132) (by decide) (by decide) (?_ : Steps p.tables e below (T16.setTop (mkF m 136 #[.val (.long x0), .second, .val (.long x1), .second, .val (.long x2), .second, .val (.int x3), .val (.long cc), .second, .val (.ref b1), .val (.long z_9), .second, .val (.int (if cc < z_9 then (0 : Int32) else (1 : Int32))), .val (.long l1), .second, .val (.long z_15), .second, .val (.int (if l1 < z_15 then (0 : Int32) else (1 : Int32))), .unset, .unset] [(.int (1 : Int32)), (.int (if l1 < z_15 then (0 : Int32) else (1 : Int32)))])) _)
      simpa only [if_neg hc19] using k
  refine own_step (st' := T16.setTop (mkF m 141 #[.val (.long x0), .second, .val (.long x1), .second, .val (.long x2), .second, .val (.int x3), .val (.long cc), .second, .val (.ref b1), .val (.long z_9), .second, .val (.int (if cc < z_9 then (0 : Int32) else (1 : Int32))), .val (.long l1), .second, .val (.long z_15), .second, .val (.int (if l1 < z_15 then (0 : Int32) else (1 : Int32))), .unset, .unset] [])) (fun t k => XS.icmpYes X16.here hx rfl (pc0 := 136) (pc' := 141) rfl (hb hby at_136) rfl (teq rfl).1 (by decide) (by decide) k) ?_
  refine own_step (st' := T16.setTop (mkF m 143 #[.val (.long x0), .second, .val (.long x1), .second, .val (.long x2), .second, .val (.int x3), .val (.long cc), .second, .val (.ref b1), .val (.long z_9), .second, .val (.int (if cc < z_9 then (0 : Int32) else (1 : Int32))), .val (.long l1), .second, .val (.long z_15), .second, .val (.int (if l1 < z_15 then (0 : Int32) else (1 : Int32))), .unset, .unset] [(.int (if l1 < z_15 then (0 : Int32) else (1 : Int32)))])) (fun t k => XS.iload X16.here hx rfl (hb hby at_141) rfl k) ?_
  refine own_step (st' := T16.setTop (mkF m 156 #[.val (.long x0), .second, .val (.long x1), .second, .val (.long x2), .second, .val (.int x3), .val (.long cc), .second, .val (.ref b1), .val (.long z_9), .second, .val (.int (if cc < z_9 then (0 : Int32) else (1 : Int32))), .val (.long l1), .second, .val (.long z_15), .second, .val (.int (if l1 < z_15 then (0 : Int32) else (1 : Int32))), .unset, .unset] [(.long (if l1 < z_15 then l1 else (l1 - z_15)))])) (fun t k => ?_) ?_
  · by_cases hc20 : l1 < z_15
    · refine XS.ifYes X16.here hx rfl (pc0 := 143) (pc' := 154) rfl (hb hby at_143) rfl ((if0 _ _).trans (teq (if_pos hc20)).1) (by decide) (by decide) (?_ : Steps p.tables e below (T16.setTop (mkF m 154 #[.val (.long x0), .second, .val (.long x1), .second, .val (.long x2), .second, .val (.int x3), .val (.long cc), .second, .val (.ref b1), .val (.long z_9), .second, .val (.int (if cc < z_9 then (0 : Int32) else (1 : Int32))), .val (.long l1), .second, .val (.long z_15), .second, .val (.int (if l1 < z_15 then (0 : Int32) else (1 : Int32))), .unset, .unset] [])) _)
      refine XS.lload X16.here hx rfl (hb hby at_154) rfl (?_ : Steps p.tables e below (T16.setTop (mkF m 156 #[.val (.long x0), .second, .val (.long x1), .second, .val (.long x2), .second, .val (.int x3), .val (.long cc), .second, .val (.ref b1), .val (.long z_9), .second, .val (.int (if cc < z_9 then (0 : Int32) else (1 : Int32))), .val (.long l1), .second, .val (.long z_15), .second, .val (.int (if l1 < z_15 then (0 : Int32) else (1 : Int32))), .unset, .unset] [(.long l1)])) _)
      simpa only [if_pos hc20] using k
    · refine XS.ifNo X16.here hx rfl (hb hby at_143) rfl ((if0 _ _).trans (feq (own_b1n hc20)).1) (?_ : Steps p.tables e below (T16.setTop (mkF m 146 #[.val (.long x0), .second, .val (.long x1), .second, .val (.long x2), .second, .val (.int x3), .val (.long cc), .second, .val (.ref b1), .val (.long z_9), .second, .val (.int (if cc < z_9 then (0 : Int32) else (1 : Int32))), .val (.long l1), .second, .val (.long z_15), .second, .val (.int (if l1 < z_15 then (0 : Int32) else (1 : Int32))), .unset, .unset] [])) _)
      refine XS.lload X16.here hx rfl (hb hby at_146) rfl (?_ : Steps p.tables e below (T16.setTop (mkF m 148 #[.val (.long x0), .second, .val (.long x1), .second, .val (.long x2), .second, .val (.int x3), .val (.long cc), .second, .val (.ref b1), .val (.long z_9), .second, .val (.int (if cc < z_9 then (0 : Int32) else (1 : Int32))), .val (.long l1), .second, .val (.long z_15), .second, .val (.int (if l1 < z_15 then (0 : Int32) else (1 : Int32))), .unset, .unset] [(.long l1)])) _)
      refine XS.lload X16.here hx rfl (hb hby at_148) rfl (?_ : Steps p.tables e below (T16.setTop (mkF m 150 #[.val (.long x0), .second, .val (.long x1), .second, .val (.long x2), .second, .val (.int x3), .val (.long cc), .second, .val (.ref b1), .val (.long z_9), .second, .val (.int (if cc < z_9 then (0 : Int32) else (1 : Int32))), .val (.long l1), .second, .val (.long z_15), .second, .val (.int (if l1 < z_15 then (0 : Int32) else (1 : Int32))), .unset, .unset] [(.long z_15), (.long l1)])) _)
      refine XS.lsub X16.here hx rfl (hb hby at_150) rfl (?_ : Steps p.tables e below (T16.setTop (mkF m 151 #[.val (.long x0), .second, .val (.long x1), .second, .val (.long x2), .second, .val (.int x3), .val (.long cc), .second, .val (.ref b1), .val (.long z_9), .second, .val (.int (if cc < z_9 then (0 : Int32) else (1 : Int32))), .val (.long l1), .second, .val (.long z_15), .second, .val (.int (if l1 < z_15 then (0 : Int32) else (1 : Int32))), .unset, .unset] [(.long (l1 - z_15))])) _)
      refine XS.goto X16.here hx rfl (pc0 := 151) (pc' := 156) rfl (hb hby at_151) (by decide) (by decide) (?_ : Steps p.tables e below (T16.setTop (mkF m 156 #[.val (.long x0), .second, .val (.long x1), .second, .val (.long x2), .second, .val (.int x3), .val (.long cc), .second, .val (.ref b1), .val (.long z_9), .second, .val (.int (if cc < z_9 then (0 : Int32) else (1 : Int32))), .val (.long l1), .second, .val (.long z_15), .second, .val (.int (if l1 < z_15 then (0 : Int32) else (1 : Int32))), .unset, .unset] [(.long (l1 - z_15))])) _)
      simpa only [if_neg hc20] using k
  obtain ⟨l2, e_l2⟩ : ∃ z : Int64, z = (if l1 < z_15 then l1 else (l1 - z_15)) := ⟨_, rfl⟩
  rw [← e_l2]
  rw [← e_l2] at pq16_0
  refine own_step (st' := T16.setTop (mkF m 158 #[.val (.long x0), .second, .val (.long x1), .second, .val (.long x2), .second, .val (.int x3), .val (.long cc), .second, .val (.ref b1), .val (.long z_9), .second, .val (.int (if cc < z_9 then (0 : Int32) else (1 : Int32))), .val (.long l1), .second, .val (.long z_15), .second, .val (.int (if l1 < z_15 then (0 : Int32) else (1 : Int32))), .val (.long l2), .second] [])) (fun t k => XS.lstore X16.here hx rfl (hb hby at_156) rfl (l' := #[.val (.long x0), .second, .val (.long x1), .second, .val (.long x2), .second, .val (.int x3), .val (.long cc), .second, .val (.ref b1), .val (.long z_9), .second, .val (.int (if cc < z_9 then (0 : Int32) else (1 : Int32))), .val (.long l1), .second, .val (.long z_15), .second, .val (.int (if l1 < z_15 then (0 : Int32) else (1 : Int32))), .val (.long l2), .second]) rfl k) ?_
  refine own_step (st' := T16.setTop (mkF m 160 #[.val (.long x0), .second, .val (.long x1), .second, .val (.long x2), .second, .val (.int x3), .val (.long cc), .second, .val (.ref b1), .val (.long z_9), .second, .val (.int (if cc < z_9 then (0 : Int32) else (1 : Int32))), .val (.long l1), .second, .val (.long z_15), .second, .val (.int (if l1 < z_15 then (0 : Int32) else (1 : Int32))), .val (.long l2), .second] [(.long l2)])) (fun t k => XS.lload X16.here hx rfl (hb hby at_158) rfl k) ?_
  refine own_step (st' := T16.setTop (mkF m 163 #[.val (.long x0), .second, .val (.long x1), .second, .val (.long x2), .second, .val (.int x3), .val (.long cc), .second, .val (.ref b1), .val (.long z_9), .second, .val (.int (if cc < z_9 then (0 : Int32) else (1 : Int32))), .val (.long l1), .second, .val (.long z_15), .second, .val (.int (if l1 < z_15 then (0 : Int32) else (1 : Int32))), .val (.long l2), .second] [(.long (9223372036854775807 : Int64)), (.long l2)])) (fun t k => X16.ldc2Long hx hown (mvT hZ (hw _ (List.mem_of_getElem? (i := 0) rfl))) (g := (mkF m 160 #[.val (.long x0), .second, .val (.long x1), .second, .val (.long x2), .second, .val (.int x3), .val (.long cc), .second, .val (.ref b1), .val (.long z_9), .second, .val (.int (if cc < z_9 then (0 : Int32) else (1 : Int32))), .val (.long l1), .second, .val (.long z_15), .second, .val (.int (if l1 < z_15 then (0 : Int32) else (1 : Int32))), .val (.long l2), .second] [(.long l2)])) rfl (hb hby at_160) t k) ?_
  refine own_step (st' := T16.setTop (mkF m 164 #[.val (.long x0), .second, .val (.long x1), .second, .val (.long x2), .second, .val (.int x3), .val (.long cc), .second, .val (.ref b1), .val (.long z_9), .second, .val (.int (if cc < z_9 then (0 : Int32) else (1 : Int32))), .val (.long l1), .second, .val (.long z_15), .second, .val (.int (if l1 < z_15 then (0 : Int32) else (1 : Int32))), .val (.long l2), .second] [(.int (lcmpW l2 (9223372036854775807 : Int64)))])) (fun t k => XS.lcmp X16.here hx rfl (hb hby at_163) rfl k) ?_
  by_cases hc21 : l2 < (9223372036854775807 : Int64)
  · refine own_step (st' := T16.setTop (mkF m 167 #[.val (.long x0), .second, .val (.long x1), .second, .val (.long x2), .second, .val (.int x3), .val (.long cc), .second, .val (.ref b1), .val (.long z_9), .second, .val (.int (if cc < z_9 then (0 : Int32) else (1 : Int32))), .val (.long l1), .second, .val (.long z_15), .second, .val (.int (if l1 < z_15 then (0 : Int32) else (1 : Int32))), .val (.long l2), .second] [])) (fun t k => XS.ifNo X16.here hx rfl (hb hby at_164) rfl ((if0 _ _).trans (tlt ((lw_lt _ _).mpr hc21)).2.1) k) ?_
    refine own_step (st' := T16.setTop (mkF m 169 #[.val (.long x0), .second, .val (.long x1), .second, .val (.long x2), .second, .val (.int x3), .val (.long cc), .second, .val (.ref b1), .val (.long z_9), .second, .val (.int (if cc < z_9 then (0 : Int32) else (1 : Int32))), .val (.long l1), .second, .val (.long z_15), .second, .val (.int (if l1 < z_15 then (0 : Int32) else (1 : Int32))), .val (.long l2), .second] [(.ref b1)])) (fun t k => XS.aload X16.here hx rfl (hb hby at_167) rfl rfl k) ?_
    refine own_step (st' := T16.setTop (mkF m 171 #[.val (.long x0), .second, .val (.long x1), .second, .val (.long x2), .second, .val (.int x3), .val (.long cc), .second, .val (.ref b1), .val (.long z_9), .second, .val (.int (if cc < z_9 then (0 : Int32) else (1 : Int32))), .val (.long l1), .second, .val (.long z_15), .second, .val (.int (if l1 < z_15 then (0 : Int32) else (1 : Int32))), .val (.long l2), .second] [(.long l2), (.ref b1)])) (fun t k => XS.lload X16.here hx rfl (hb hby at_169) rfl k) ?_
    refine own_step (st' := T16.setTop (mkF m 172 #[.val (.long x0), .second, .val (.long x1), .second, .val (.long x2), .second, .val (.int x3), .val (.long cc), .second, .val (.ref b1), .val (.long z_9), .second, .val (.int (if cc < z_9 then (0 : Int32) else (1 : Int32))), .val (.long l1), .second, .val (.long z_15), .second, .val (.int (if l1 < z_15 then (0 : Int32) else (1 : Int32))), .val (.long l2), .second] [(.long (1 : Int64)), (.long l2), (.ref b1)])) (fun t k => XS.lconst X16.here hx rfl (hb hby at_171) k) ?_
    refine own_step (st' := T16.setTop (mkF m 173 #[.val (.long x0), .second, .val (.long x1), .second, .val (.long x2), .second, .val (.int x3), .val (.long cc), .second, .val (.ref b1), .val (.long z_9), .second, .val (.int (if cc < z_9 then (0 : Int32) else (1 : Int32))), .val (.long l1), .second, .val (.long z_15), .second, .val (.int (if l1 < z_15 then (0 : Int32) else (1 : Int32))), .val (.long l2), .second] [(.long (l2 + (1 : Int64))), (.ref b1)])) (fun t k => XS.ladd X16.here hx rfl (hb hby at_172) rfl k) ?_
    obtain ⟨cq22, kq22, q22a, q22b, q22c⟩ := isOf hZ e16 f17
    obtain ⟨_, _, ⟨T22, L22, k22, n22⟩, -, X22, ⟨Lc22, hQ22, l22, y22, z22⟩, st22⟩ := X16.virtualBack hx (y := (⟨"com/example/alert_tree/alerttree/protocol/Room", "take", "(J)Z"⟩ : MethodName)) (z := (⟨"com/example/alert_tree/alerttree/protocol/Room", "take", "(J)Z"⟩ : MethodName)) hown (mvT hZ (hw _ (List.mem_of_getElem? (i := 25) rfl))) (mvT hZ (hw _ (List.mem_of_getElem? (i := 26) rfl))) (notFace_of_selects (args := #[]) (mvT hZ (hw _ (List.mem_of_getElem? (i := 28) rfl)))) (mvT hZ (hw _ (List.mem_of_getElem? (i := 28) rfl))) (mvT hZ (hw _ (List.mem_of_getElem? (i := 27) rfl))) (by decide) (backOf (W := 0) (rm5 l Z a0 hw [] b1 (l2 + (1 : Int64)) l2 cc h16 n0 Z18 pq16_0 pq16_1 f17 g_b1) hZ (hw _ (List.mem_of_getElem? (i := 29) rfl)) (hw _ (List.mem_of_getElem? (i := 3) rfl)) (by decide) (by decide)) q22a q22c (g := (mkF m 173 #[.val (.long x0), .second, .val (.long x1), .second, .val (.long x2), .second, .val (.int x3), .val (.long cc), .second, .val (.ref b1), .val (.long z_9), .second, .val (.int (if cc < z_9 then (0 : Int32) else (1 : Int32))), .val (.long l1), .second, .val (.long z_15), .second, .val (.int (if l1 < z_15 then (0 : Int32) else (1 : Int32))), .val (.long l2), .second] [(.long (l2 + (1 : Int64))), (.ref b1)])) rfl (by rw [hml]; rfl) (Steps.refl _) (argsL := [(.long (l2 + (1 : Int64)))]) (rest := []) (lenOf pd_4 rfl) rfl (by show 2 * 0 + _ ≤ _; exact Nat.le_of_eq rfl) (hb hby at_173) (fun _ _ => ⟨rfl, e16, (by decide : 1 + 0 ≤ _), (by decide : 2 + 0 ≤ _)⟩)
    dsimp only [Pt.U, Pt.locs, Pt.cells, Pt.slots] at X22 l22 y22 z22 st22 hQ22
    subst l22 y22 z22
    obtain ⟨rfl, N22q, K22, pq22_0, pq22_1⟩ := hQ22
    have N22 := Fr.app N16 N22q
    obtain ⟨h22, e22⟩ : ∃ z, T22.heap = z := ⟨_, rfl⟩
    rw [e22] at K22 pq22_0 pq22_1
    have f23 := f17.keep K22
    have Z24 : n0 ≤ h22.size := Nat.le_trans Z18 K22.1
    refine own_step (st' := T22.setTop (mkF m 176 #[.val (.long x0), .second, .val (.long x1), .second, .val (.long x2), .second, .val (.int x3), .val (.long cc), .second, .val (.ref b1), .val (.long z_9), .second, .val (.int (if cc < z_9 then (0 : Int32) else (1 : Int32))), .val (.long l1), .second, .val (.long z_15), .second, .val (.int (if l1 < z_15 then (0 : Int32) else (1 : Int32))), .val (.long l2), .second] [(.int (if l2 < (l2 + (1 : Int64)) then (0 : Int32) else (1 : Int32)))])) (fun t k => st22.trans k) ?_
    rw [if_pos (own_succ hc21)] at pq22_0
    refine own_step (st' := T22.setTop (mkF m 181 #[.val (.long x0), .second, .val (.long x1), .second, .val (.long x2), .second, .val (.int x3), .val (.long cc), .second, .val (.ref b1), .val (.long z_9), .second, .val (.int (if cc < z_9 then (0 : Int32) else (1 : Int32))), .val (.long l1), .second, .val (.long z_15), .second, .val (.int (if l1 < z_15 then (0 : Int32) else (1 : Int32))), .val (.long l2), .second] [])) (fun t k => XS.ifYes X22.here hx rfl (pc0 := 176) (pc' := 181) rfl (hb hby at_176) rfl ((if0 _ _).trans (teq (if_pos (own_succ hc21))).1) (by decide) (by decide) k) ?_
    refine own_step (st' := T22.setTop (mkF m 183 #[.val (.long x0), .second, .val (.long x1), .second, .val (.long x2), .second, .val (.int x3), .val (.long cc), .second, .val (.ref b1), .val (.long z_9), .second, .val (.int (if cc < z_9 then (0 : Int32) else (1 : Int32))), .val (.long l1), .second, .val (.long z_15), .second, .val (.int (if l1 < z_15 then (0 : Int32) else (1 : Int32))), .val (.long l2), .second] [(.ref b1)])) (fun t k => XS.aload X22.here hx rfl (hb hby at_181) rfl rfl k) ?_
    refine own_step (st' := T22.setTop (mkF m 185 #[.val (.long x0), .second, .val (.long x1), .second, .val (.long x2), .second, .val (.int x3), .val (.long cc), .second, .val (.ref b1), .val (.long z_9), .second, .val (.int (if cc < z_9 then (0 : Int32) else (1 : Int32))), .val (.long l1), .second, .val (.long z_15), .second, .val (.int (if l1 < z_15 then (0 : Int32) else (1 : Int32))), .val (.long l2), .second] [(.long l2), (.ref b1)])) (fun t k => XS.lload X22.here hx rfl (hb hby at_183) rfl k) ?_
    obtain ⟨cq25, kq25, q25a, q25b, q25c⟩ := isOf hZ e22 f23
    obtain ⟨_, _, ⟨T25, L25, k25, n25⟩, -, X25, ⟨Lc25, hQ25, l25, y25, z25⟩, st25⟩ := X22.virtualBack hx (y := (⟨"com/example/alert_tree/alerttree/protocol/Room", "take", "(J)Z"⟩ : MethodName)) (z := (⟨"com/example/alert_tree/alerttree/protocol/Room", "take", "(J)Z"⟩ : MethodName)) hown (mvT hZ (hw _ (List.mem_of_getElem? (i := 25) rfl))) (mvT hZ (hw _ (List.mem_of_getElem? (i := 26) rfl))) (notFace_of_selects (args := #[]) (mvT hZ (hw _ (List.mem_of_getElem? (i := 28) rfl)))) (mvT hZ (hw _ (List.mem_of_getElem? (i := 28) rfl))) (mvT hZ (hw _ (List.mem_of_getElem? (i := 27) rfl))) (by decide) (backOf (W := 0) (rm5 l Z a0 hw [] b1 l2 l2 cc h22 n0 Z24 pq22_0 pq22_1 f23 g_b1) hZ (hw _ (List.mem_of_getElem? (i := 29) rfl)) (hw _ (List.mem_of_getElem? (i := 3) rfl)) (by decide) (by decide)) q25a q25c (g := (mkF m 185 #[.val (.long x0), .second, .val (.long x1), .second, .val (.long x2), .second, .val (.int x3), .val (.long cc), .second, .val (.ref b1), .val (.long z_9), .second, .val (.int (if cc < z_9 then (0 : Int32) else (1 : Int32))), .val (.long l1), .second, .val (.long z_15), .second, .val (.int (if l1 < z_15 then (0 : Int32) else (1 : Int32))), .val (.long l2), .second] [(.long l2), (.ref b1)])) rfl (by rw [hml]; rfl) (Steps.refl _) (argsL := [(.long l2)]) (rest := []) (lenOf pd_4 rfl) rfl (by show 2 * 0 + _ ≤ _; exact Nat.le_of_eq rfl) (hb hby at_185) (fun _ _ => ⟨rfl, e22, (by decide : 1 + 0 ≤ _), (by decide : 2 + 0 ≤ _)⟩)
    dsimp only [Pt.U, Pt.locs, Pt.cells, Pt.slots] at X25 l25 y25 z25 st25 hQ25
    subst l25 y25 z25
    obtain ⟨rfl, N25q, K25, pq25_0, pq25_1⟩ := hQ25
    have N25 := Fr.app N22 N25q
    obtain ⟨h25, e25⟩ : ∃ z, T25.heap = z := ⟨_, rfl⟩
    rw [e25] at K25 pq25_0 pq25_1
    have f26 := f23.keep K25
    have Z27 : n0 ≤ h25.size := Nat.le_trans Z24 K25.1
    refine own_step (st' := T25.setTop (mkF m 188 #[.val (.long x0), .second, .val (.long x1), .second, .val (.long x2), .second, .val (.int x3), .val (.long cc), .second, .val (.ref b1), .val (.long z_9), .second, .val (.int (if cc < z_9 then (0 : Int32) else (1 : Int32))), .val (.long l1), .second, .val (.long z_15), .second, .val (.int (if l1 < z_15 then (0 : Int32) else (1 : Int32))), .val (.long l2), .second] [(.int (if l2 < l2 then (0 : Int32) else (1 : Int32)))])) (fun t k => st25.trans k) ?_
    rw [if_neg (Int64.lt_irrefl), Int64.sub_self] at pq25_0
    refine own_step (st' := T25.setTop (mkF m 193 #[.val (.long x0), .second, .val (.long x1), .second, .val (.long x2), .second, .val (.int x3), .val (.long cc), .second, .val (.ref b1), .val (.long z_9), .second, .val (.int (if cc < z_9 then (0 : Int32) else (1 : Int32))), .val (.long l1), .second, .val (.long z_15), .second, .val (.int (if l1 < z_15 then (0 : Int32) else (1 : Int32))), .val (.long l2), .second] [])) (fun t k => XS.ifYes X25.here hx rfl (pc0 := 188) (pc' := 193) rfl (hb hby at_188) rfl ((if0 _ _).trans (feq (own_b1n (Int64.lt_irrefl))).2) (by decide) (by decide) k) ?_
    refine own_step (st' := T25.setTop (mkF m 195 #[.val (.long x0), .second, .val (.long x1), .second, .val (.long x2), .second, .val (.int x3), .val (.long cc), .second, .val (.ref b1), .val (.long z_9), .second, .val (.int (if cc < z_9 then (0 : Int32) else (1 : Int32))), .val (.long l1), .second, .val (.long z_15), .second, .val (.int (if l1 < z_15 then (0 : Int32) else (1 : Int32))), .val (.long l2), .second] [(.ref b1)])) (fun t k => XS.aload X25.here hx rfl (hb hby at_193) rfl rfl k) ?_
    refine own_step (st' := T25.setTop (mkF m 196 #[.val (.long x0), .second, .val (.long x1), .second, .val (.long x2), .second, .val (.int x3), .val (.long cc), .second, .val (.ref b1), .val (.long z_9), .second, .val (.int (if cc < z_9 then (0 : Int32) else (1 : Int32))), .val (.long l1), .second, .val (.long z_15), .second, .val (.int (if l1 < z_15 then (0 : Int32) else (1 : Int32))), .val (.long l2), .second] [(.long (1 : Int64)), (.ref b1)])) (fun t k => XS.lconst X25.here hx rfl (hb hby at_195) k) ?_
    obtain ⟨cq28, kq28, q28a, q28b, q28c⟩ := isOf hZ e25 f26
    obtain ⟨_, _, ⟨T28, L28, k28, n28⟩, -, X28, ⟨Lc28, hQ28, l28, y28, z28⟩, st28⟩ := X25.virtualBack hx (y := (⟨"com/example/alert_tree/alerttree/protocol/Room", "take", "(J)Z"⟩ : MethodName)) (z := (⟨"com/example/alert_tree/alerttree/protocol/Room", "take", "(J)Z"⟩ : MethodName)) hown (mvT hZ (hw _ (List.mem_of_getElem? (i := 25) rfl))) (mvT hZ (hw _ (List.mem_of_getElem? (i := 26) rfl))) (notFace_of_selects (args := #[]) (mvT hZ (hw _ (List.mem_of_getElem? (i := 28) rfl)))) (mvT hZ (hw _ (List.mem_of_getElem? (i := 28) rfl))) (mvT hZ (hw _ (List.mem_of_getElem? (i := 27) rfl))) (by decide) (backOf (W := 0) (rm5 l Z a0 hw [] b1 (1 : Int64) (0 : Int64) cc h25 n0 Z27 pq25_0 pq25_1 f26 g_b1) hZ (hw _ (List.mem_of_getElem? (i := 29) rfl)) (hw _ (List.mem_of_getElem? (i := 3) rfl)) (by decide) (by decide)) q28a q28c (g := (mkF m 196 #[.val (.long x0), .second, .val (.long x1), .second, .val (.long x2), .second, .val (.int x3), .val (.long cc), .second, .val (.ref b1), .val (.long z_9), .second, .val (.int (if cc < z_9 then (0 : Int32) else (1 : Int32))), .val (.long l1), .second, .val (.long z_15), .second, .val (.int (if l1 < z_15 then (0 : Int32) else (1 : Int32))), .val (.long l2), .second] [(.long (1 : Int64)), (.ref b1)])) rfl (by rw [hml]; rfl) (Steps.refl _) (argsL := [(.long (1 : Int64))]) (rest := []) (lenOf pd_4 rfl) rfl (by show 2 * 0 + _ ≤ _; exact Nat.le_of_eq rfl) (hb hby at_196) (fun _ _ => ⟨rfl, e25, (by decide : 1 + 0 ≤ _), (by decide : 2 + 0 ≤ _)⟩)
    dsimp only [Pt.U, Pt.locs, Pt.cells, Pt.slots] at X28 l28 y28 z28 st28 hQ28
    subst l28 y28 z28
    obtain ⟨rfl, N28q, K28, pq28_0, pq28_1⟩ := hQ28
    have N28 := Fr.app N25 N28q
    obtain ⟨h28, e28⟩ : ∃ z, T28.heap = z := ⟨_, rfl⟩
    rw [e28] at K28 pq28_0 pq28_1
    have f29 := f26.keep K28
    have Z30 : n0 ≤ h28.size := Nat.le_trans Z27 K28.1
    refine own_step (st' := T28.setTop (mkF m 199 #[.val (.long x0), .second, .val (.long x1), .second, .val (.long x2), .second, .val (.int x3), .val (.long cc), .second, .val (.ref b1), .val (.long z_9), .second, .val (.int (if cc < z_9 then (0 : Int32) else (1 : Int32))), .val (.long l1), .second, .val (.long z_15), .second, .val (.int (if l1 < z_15 then (0 : Int32) else (1 : Int32))), .val (.long l2), .second] [(.int (if (0 : Int64) < (1 : Int64) then (0 : Int32) else (1 : Int32)))])) (fun t k => st28.trans k) ?_
    refine own_step (st' := T28.setTop (mkF m 204 #[.val (.long x0), .second, .val (.long x1), .second, .val (.long x2), .second, .val (.int x3), .val (.long cc), .second, .val (.ref b1), .val (.long z_9), .second, .val (.int (if cc < z_9 then (0 : Int32) else (1 : Int32))), .val (.long l1), .second, .val (.long z_15), .second, .val (.int (if l1 < z_15 then (0 : Int32) else (1 : Int32))), .val (.long l2), .second] [])) (fun t k => XS.ifYes X28.here hx rfl (pc0 := 199) (pc' := 204) rfl (hb hby at_199) rfl ((if0 _ _).trans (teq (if_pos (by decide))).1) (by decide) (by decide) k) ?_
    refine own_step (st' := T28.setTop (mkF m 206 #[.val (.long x0), .second, .val (.long x1), .second, .val (.long x2), .second, .val (.int x3), .val (.long cc), .second, .val (.ref b1), .val (.long z_9), .second, .val (.int (if cc < z_9 then (0 : Int32) else (1 : Int32))), .val (.long l1), .second, .val (.long z_15), .second, .val (.int (if l1 < z_15 then (0 : Int32) else (1 : Int32))), .val (.long l2), .second] [(.ref b1)])) (fun t k => XS.aload X28.here hx rfl (hb hby at_204) rfl rfl k) ?_
    obtain ⟨cq31, kq31, q31a, q31b, q31c⟩ := isOf hZ e28 f29
    obtain ⟨_, _, ⟨T31, L31, k31, n31⟩, -, X31, ⟨Lc31, hQ31, l31, y31, z31⟩, st31⟩ := X28.virtualBack hx (y := (⟨"com/example/alert_tree/alerttree/protocol/Room", "capacity", "()J"⟩ : MethodName)) (z := (⟨"com/example/alert_tree/alerttree/protocol/Room", "capacity", "()J"⟩ : MethodName)) hown (mvT hZ (hw _ (List.mem_of_getElem? (i := 14) rfl))) (mvT hZ (hw _ (List.mem_of_getElem? (i := 15) rfl))) (notFace_of_selects (args := #[]) (mvT hZ (hw _ (List.mem_of_getElem? (i := 17) rfl)))) (mvT hZ (hw _ (List.mem_of_getElem? (i := 17) rfl))) (mvT hZ (hw _ (List.mem_of_getElem? (i := 16) rfl))) (by decide) (backOf (W := 0) (rm3 l Z a0 hw [] b1 cc h28 n0 Z30 pq28_1) hZ (hw _ (List.mem_of_getElem? (i := 18) rfl)) (hw _ (List.mem_of_getElem? (i := 3) rfl)) (by decide) (by decide)) q31a q31c (g := (mkF m 206 #[.val (.long x0), .second, .val (.long x1), .second, .val (.long x2), .second, .val (.int x3), .val (.long cc), .second, .val (.ref b1), .val (.long z_9), .second, .val (.int (if cc < z_9 then (0 : Int32) else (1 : Int32))), .val (.long l1), .second, .val (.long z_15), .second, .val (.int (if l1 < z_15 then (0 : Int32) else (1 : Int32))), .val (.long l2), .second] [(.ref b1)])) rfl (by rw [hml]; rfl) (Steps.refl _) (argsL := []) (rest := []) (lenOf pd_2 rfl) rfl (by show 2 * 0 + _ ≤ _; exact Nat.le_of_eq rfl) (hb hby at_206) (fun _ _ => ⟨rfl, e28, (by decide : 1 + 0 ≤ _), (by decide : 2 + 0 ≤ _)⟩)
    dsimp only [Pt.U, Pt.locs, Pt.cells, Pt.slots] at X31 l31 y31 z31 st31 hQ31
    subst l31 y31 z31
    obtain ⟨rfl, N31q, e31⟩ := hQ31
    have N31 := Fr.app N28 N31q
    refine own_step (st' := T31.setTop (mkF m 209 #[.val (.long x0), .second, .val (.long x1), .second, .val (.long x2), .second, .val (.int x3), .val (.long cc), .second, .val (.ref b1), .val (.long z_9), .second, .val (.int (if cc < z_9 then (0 : Int32) else (1 : Int32))), .val (.long l1), .second, .val (.long z_15), .second, .val (.int (if l1 < z_15 then (0 : Int32) else (1 : Int32))), .val (.long l2), .second] [(.long cc)])) (fun t k => st31.trans k) ?_
    refine own_step (st' := T31.setTop (mkF m 211 #[.val (.long x0), .second, .val (.long x1), .second, .val (.long x2), .second, .val (.int x3), .val (.long cc), .second, .val (.ref b1), .val (.long z_9), .second, .val (.int (if cc < z_9 then (0 : Int32) else (1 : Int32))), .val (.long l1), .second, .val (.long z_15), .second, .val (.int (if l1 < z_15 then (0 : Int32) else (1 : Int32))), .val (.long l2), .second] [(.long cc), (.long cc)])) (fun t k => XS.lload X31.here hx rfl (hb hby at_209) rfl k) ?_
    refine own_step (st' := T31.setTop (mkF m 212 #[.val (.long x0), .second, .val (.long x1), .second, .val (.long x2), .second, .val (.int x3), .val (.long cc), .second, .val (.ref b1), .val (.long z_9), .second, .val (.int (if cc < z_9 then (0 : Int32) else (1 : Int32))), .val (.long l1), .second, .val (.long z_15), .second, .val (.int (if l1 < z_15 then (0 : Int32) else (1 : Int32))), .val (.long l2), .second] [(.int (lcmpW cc cc))])) (fun t k => XS.lcmp X31.here hx rfl (hb hby at_211) rfl k) ?_
    refine own_step (st' := T31.setTop (mkF m 215 #[.val (.long x0), .second, .val (.long x1), .second, .val (.long x2), .second, .val (.int x3), .val (.long cc), .second, .val (.ref b1), .val (.long z_9), .second, .val (.int (if cc < z_9 then (0 : Int32) else (1 : Int32))), .val (.long l1), .second, .val (.long z_15), .second, .val (.int (if l1 < z_15 then (0 : Int32) else (1 : Int32))), .val (.long l2), .second] [])) (fun t k => XS.ifNo X31.here hx rfl (hb hby at_212) rfl ((if0 _ _).trans (teq ((lw_eq _ _).mpr rfl)).2) k) ?_
    refine own_step (st' := T31.setTop (mkF m 216 #[.val (.long x0), .second, .val (.long x1), .second, .val (.long x2), .second, .val (.int x3), .val (.long cc), .second, .val (.ref b1), .val (.long z_9), .second, .val (.int (if cc < z_9 then (0 : Int32) else (1 : Int32))), .val (.long l1), .second, .val (.long z_15), .second, .val (.int (if l1 < z_15 then (0 : Int32) else (1 : Int32))), .val (.long l2), .second] [(.int (1 : Int32))])) (fun t k => XS.iconst X31.here hx rfl (hb hby at_215) k) ?_
    refine own_step (st' := T31.setTop (mkF m 220 #[.val (.long x0), .second, .val (.long x1), .second, .val (.long x2), .second, .val (.int x3), .val (.long cc), .second, .val (.ref b1), .val (.long z_9), .second, .val (.int (if cc < z_9 then (0 : Int32) else (1 : Int32))), .val (.long l1), .second, .val (.long z_15), .second, .val (.int (if l1 < z_15 then (0 : Int32) else (1 : Int32))), .val (.long l2), .second] [(.int (1 : Int32))])) (fun t k => XS.goto X31.here hx rfl (pc0 := 216) (pc' := 220) rfl (hb hby at_216) (by decide) (by decide) k) ?_
    refine own_ret X31 Bd.notSynchronized (some (.int (1 : Int32))) (fun h => by rw [Bd.returns] at h; cases h) (fun fs hr => retN X31 hx (t := .boolean) Bd.returns (by simp) (hb hby at_220) hr) ?_ (by decide) (by decide)
    rw [e31]
    exact ⟨rfl, N31⟩
  · refine own_step (st' := T16.setTop (mkF m 181 #[.val (.long x0), .second, .val (.long x1), .second, .val (.long x2), .second, .val (.int x3), .val (.long cc), .second, .val (.ref b1), .val (.long z_9), .second, .val (.int (if cc < z_9 then (0 : Int32) else (1 : Int32))), .val (.long l1), .second, .val (.long z_15), .second, .val (.int (if l1 < z_15 then (0 : Int32) else (1 : Int32))), .val (.long l2), .second] [])) (fun t k => XS.ifYes X16.here hx rfl (pc0 := 164) (pc' := 181) rfl (hb hby at_164) rfl ((if0 _ _).trans (flt (fun q => hc21 ((lw_lt _ _).mp q))).2.1) (by decide) (by decide) k) ?_
    refine own_step (st' := T16.setTop (mkF m 183 #[.val (.long x0), .second, .val (.long x1), .second, .val (.long x2), .second, .val (.int x3), .val (.long cc), .second, .val (.ref b1), .val (.long z_9), .second, .val (.int (if cc < z_9 then (0 : Int32) else (1 : Int32))), .val (.long l1), .second, .val (.long z_15), .second, .val (.int (if l1 < z_15 then (0 : Int32) else (1 : Int32))), .val (.long l2), .second] [(.ref b1)])) (fun t k => XS.aload X16.here hx rfl (hb hby at_181) rfl rfl k) ?_
    refine own_step (st' := T16.setTop (mkF m 185 #[.val (.long x0), .second, .val (.long x1), .second, .val (.long x2), .second, .val (.int x3), .val (.long cc), .second, .val (.ref b1), .val (.long z_9), .second, .val (.int (if cc < z_9 then (0 : Int32) else (1 : Int32))), .val (.long l1), .second, .val (.long z_15), .second, .val (.int (if l1 < z_15 then (0 : Int32) else (1 : Int32))), .val (.long l2), .second] [(.long l2), (.ref b1)])) (fun t k => XS.lload X16.here hx rfl (hb hby at_183) rfl k) ?_
    obtain ⟨cq32, kq32, q32a, q32b, q32c⟩ := isOf hZ e16 f17
    obtain ⟨_, _, ⟨T32, L32, k32, n32⟩, -, X32, ⟨Lc32, hQ32, l32, y32, z32⟩, st32⟩ := X16.virtualBack hx (y := (⟨"com/example/alert_tree/alerttree/protocol/Room", "take", "(J)Z"⟩ : MethodName)) (z := (⟨"com/example/alert_tree/alerttree/protocol/Room", "take", "(J)Z"⟩ : MethodName)) hown (mvT hZ (hw _ (List.mem_of_getElem? (i := 25) rfl))) (mvT hZ (hw _ (List.mem_of_getElem? (i := 26) rfl))) (notFace_of_selects (args := #[]) (mvT hZ (hw _ (List.mem_of_getElem? (i := 28) rfl)))) (mvT hZ (hw _ (List.mem_of_getElem? (i := 28) rfl))) (mvT hZ (hw _ (List.mem_of_getElem? (i := 27) rfl))) (by decide) (backOf (W := 0) (rm5 l Z a0 hw [] b1 l2 l2 cc h16 n0 Z18 pq16_0 pq16_1 f17 g_b1) hZ (hw _ (List.mem_of_getElem? (i := 29) rfl)) (hw _ (List.mem_of_getElem? (i := 3) rfl)) (by decide) (by decide)) q32a q32c (g := (mkF m 185 #[.val (.long x0), .second, .val (.long x1), .second, .val (.long x2), .second, .val (.int x3), .val (.long cc), .second, .val (.ref b1), .val (.long z_9), .second, .val (.int (if cc < z_9 then (0 : Int32) else (1 : Int32))), .val (.long l1), .second, .val (.long z_15), .second, .val (.int (if l1 < z_15 then (0 : Int32) else (1 : Int32))), .val (.long l2), .second] [(.long l2), (.ref b1)])) rfl (by rw [hml]; rfl) (Steps.refl _) (argsL := [(.long l2)]) (rest := []) (lenOf pd_4 rfl) rfl (by show 2 * 0 + _ ≤ _; exact Nat.le_of_eq rfl) (hb hby at_185) (fun _ _ => ⟨rfl, e16, (by decide : 1 + 0 ≤ _), (by decide : 2 + 0 ≤ _)⟩)
    dsimp only [Pt.U, Pt.locs, Pt.cells, Pt.slots] at X32 l32 y32 z32 st32 hQ32
    subst l32 y32 z32
    obtain ⟨rfl, N32q, K32, pq32_0, pq32_1⟩ := hQ32
    have N32 := Fr.app N16 N32q
    obtain ⟨h32, e32⟩ : ∃ z, T32.heap = z := ⟨_, rfl⟩
    rw [e32] at K32 pq32_0 pq32_1
    have f33 := f17.keep K32
    have Z34 : n0 ≤ h32.size := Nat.le_trans Z18 K32.1
    refine own_step (st' := T32.setTop (mkF m 188 #[.val (.long x0), .second, .val (.long x1), .second, .val (.long x2), .second, .val (.int x3), .val (.long cc), .second, .val (.ref b1), .val (.long z_9), .second, .val (.int (if cc < z_9 then (0 : Int32) else (1 : Int32))), .val (.long l1), .second, .val (.long z_15), .second, .val (.int (if l1 < z_15 then (0 : Int32) else (1 : Int32))), .val (.long l2), .second] [(.int (if l2 < l2 then (0 : Int32) else (1 : Int32)))])) (fun t k => st32.trans k) ?_
    rw [if_neg (Int64.lt_irrefl), Int64.sub_self] at pq32_0
    refine own_step (st' := T32.setTop (mkF m 193 #[.val (.long x0), .second, .val (.long x1), .second, .val (.long x2), .second, .val (.int x3), .val (.long cc), .second, .val (.ref b1), .val (.long z_9), .second, .val (.int (if cc < z_9 then (0 : Int32) else (1 : Int32))), .val (.long l1), .second, .val (.long z_15), .second, .val (.int (if l1 < z_15 then (0 : Int32) else (1 : Int32))), .val (.long l2), .second] [])) (fun t k => XS.ifYes X32.here hx rfl (pc0 := 188) (pc' := 193) rfl (hb hby at_188) rfl ((if0 _ _).trans (feq (own_b1n (Int64.lt_irrefl))).2) (by decide) (by decide) k) ?_
    refine own_step (st' := T32.setTop (mkF m 195 #[.val (.long x0), .second, .val (.long x1), .second, .val (.long x2), .second, .val (.int x3), .val (.long cc), .second, .val (.ref b1), .val (.long z_9), .second, .val (.int (if cc < z_9 then (0 : Int32) else (1 : Int32))), .val (.long l1), .second, .val (.long z_15), .second, .val (.int (if l1 < z_15 then (0 : Int32) else (1 : Int32))), .val (.long l2), .second] [(.ref b1)])) (fun t k => XS.aload X32.here hx rfl (hb hby at_193) rfl rfl k) ?_
    refine own_step (st' := T32.setTop (mkF m 196 #[.val (.long x0), .second, .val (.long x1), .second, .val (.long x2), .second, .val (.int x3), .val (.long cc), .second, .val (.ref b1), .val (.long z_9), .second, .val (.int (if cc < z_9 then (0 : Int32) else (1 : Int32))), .val (.long l1), .second, .val (.long z_15), .second, .val (.int (if l1 < z_15 then (0 : Int32) else (1 : Int32))), .val (.long l2), .second] [(.long (1 : Int64)), (.ref b1)])) (fun t k => XS.lconst X32.here hx rfl (hb hby at_195) k) ?_
    obtain ⟨cq35, kq35, q35a, q35b, q35c⟩ := isOf hZ e32 f33
    obtain ⟨_, _, ⟨T35, L35, k35, n35⟩, -, X35, ⟨Lc35, hQ35, l35, y35, z35⟩, st35⟩ := X32.virtualBack hx (y := (⟨"com/example/alert_tree/alerttree/protocol/Room", "take", "(J)Z"⟩ : MethodName)) (z := (⟨"com/example/alert_tree/alerttree/protocol/Room", "take", "(J)Z"⟩ : MethodName)) hown (mvT hZ (hw _ (List.mem_of_getElem? (i := 25) rfl))) (mvT hZ (hw _ (List.mem_of_getElem? (i := 26) rfl))) (notFace_of_selects (args := #[]) (mvT hZ (hw _ (List.mem_of_getElem? (i := 28) rfl)))) (mvT hZ (hw _ (List.mem_of_getElem? (i := 28) rfl))) (mvT hZ (hw _ (List.mem_of_getElem? (i := 27) rfl))) (by decide) (backOf (W := 0) (rm5 l Z a0 hw [] b1 (1 : Int64) (0 : Int64) cc h32 n0 Z34 pq32_0 pq32_1 f33 g_b1) hZ (hw _ (List.mem_of_getElem? (i := 29) rfl)) (hw _ (List.mem_of_getElem? (i := 3) rfl)) (by decide) (by decide)) q35a q35c (g := (mkF m 196 #[.val (.long x0), .second, .val (.long x1), .second, .val (.long x2), .second, .val (.int x3), .val (.long cc), .second, .val (.ref b1), .val (.long z_9), .second, .val (.int (if cc < z_9 then (0 : Int32) else (1 : Int32))), .val (.long l1), .second, .val (.long z_15), .second, .val (.int (if l1 < z_15 then (0 : Int32) else (1 : Int32))), .val (.long l2), .second] [(.long (1 : Int64)), (.ref b1)])) rfl (by rw [hml]; rfl) (Steps.refl _) (argsL := [(.long (1 : Int64))]) (rest := []) (lenOf pd_4 rfl) rfl (by show 2 * 0 + _ ≤ _; exact Nat.le_of_eq rfl) (hb hby at_196) (fun _ _ => ⟨rfl, e32, (by decide : 1 + 0 ≤ _), (by decide : 2 + 0 ≤ _)⟩)
    dsimp only [Pt.U, Pt.locs, Pt.cells, Pt.slots] at X35 l35 y35 z35 st35 hQ35
    subst l35 y35 z35
    obtain ⟨rfl, N35q, K35, pq35_0, pq35_1⟩ := hQ35
    have N35 := Fr.app N32 N35q
    obtain ⟨h35, e35⟩ : ∃ z, T35.heap = z := ⟨_, rfl⟩
    rw [e35] at K35 pq35_0 pq35_1
    have f36 := f33.keep K35
    have Z37 : n0 ≤ h35.size := Nat.le_trans Z34 K35.1
    refine own_step (st' := T35.setTop (mkF m 199 #[.val (.long x0), .second, .val (.long x1), .second, .val (.long x2), .second, .val (.int x3), .val (.long cc), .second, .val (.ref b1), .val (.long z_9), .second, .val (.int (if cc < z_9 then (0 : Int32) else (1 : Int32))), .val (.long l1), .second, .val (.long z_15), .second, .val (.int (if l1 < z_15 then (0 : Int32) else (1 : Int32))), .val (.long l2), .second] [(.int (if (0 : Int64) < (1 : Int64) then (0 : Int32) else (1 : Int32)))])) (fun t k => st35.trans k) ?_
    refine own_step (st' := T35.setTop (mkF m 204 #[.val (.long x0), .second, .val (.long x1), .second, .val (.long x2), .second, .val (.int x3), .val (.long cc), .second, .val (.ref b1), .val (.long z_9), .second, .val (.int (if cc < z_9 then (0 : Int32) else (1 : Int32))), .val (.long l1), .second, .val (.long z_15), .second, .val (.int (if l1 < z_15 then (0 : Int32) else (1 : Int32))), .val (.long l2), .second] [])) (fun t k => XS.ifYes X35.here hx rfl (pc0 := 199) (pc' := 204) rfl (hb hby at_199) rfl ((if0 _ _).trans (teq (if_pos (by decide))).1) (by decide) (by decide) k) ?_
    refine own_step (st' := T35.setTop (mkF m 206 #[.val (.long x0), .second, .val (.long x1), .second, .val (.long x2), .second, .val (.int x3), .val (.long cc), .second, .val (.ref b1), .val (.long z_9), .second, .val (.int (if cc < z_9 then (0 : Int32) else (1 : Int32))), .val (.long l1), .second, .val (.long z_15), .second, .val (.int (if l1 < z_15 then (0 : Int32) else (1 : Int32))), .val (.long l2), .second] [(.ref b1)])) (fun t k => XS.aload X35.here hx rfl (hb hby at_204) rfl rfl k) ?_
    obtain ⟨cq38, kq38, q38a, q38b, q38c⟩ := isOf hZ e35 f36
    obtain ⟨_, _, ⟨T38, L38, k38, n38⟩, -, X38, ⟨Lc38, hQ38, l38, y38, z38⟩, st38⟩ := X35.virtualBack hx (y := (⟨"com/example/alert_tree/alerttree/protocol/Room", "capacity", "()J"⟩ : MethodName)) (z := (⟨"com/example/alert_tree/alerttree/protocol/Room", "capacity", "()J"⟩ : MethodName)) hown (mvT hZ (hw _ (List.mem_of_getElem? (i := 14) rfl))) (mvT hZ (hw _ (List.mem_of_getElem? (i := 15) rfl))) (notFace_of_selects (args := #[]) (mvT hZ (hw _ (List.mem_of_getElem? (i := 17) rfl)))) (mvT hZ (hw _ (List.mem_of_getElem? (i := 17) rfl))) (mvT hZ (hw _ (List.mem_of_getElem? (i := 16) rfl))) (by decide) (backOf (W := 0) (rm3 l Z a0 hw [] b1 cc h35 n0 Z37 pq35_1) hZ (hw _ (List.mem_of_getElem? (i := 18) rfl)) (hw _ (List.mem_of_getElem? (i := 3) rfl)) (by decide) (by decide)) q38a q38c (g := (mkF m 206 #[.val (.long x0), .second, .val (.long x1), .second, .val (.long x2), .second, .val (.int x3), .val (.long cc), .second, .val (.ref b1), .val (.long z_9), .second, .val (.int (if cc < z_9 then (0 : Int32) else (1 : Int32))), .val (.long l1), .second, .val (.long z_15), .second, .val (.int (if l1 < z_15 then (0 : Int32) else (1 : Int32))), .val (.long l2), .second] [(.ref b1)])) rfl (by rw [hml]; rfl) (Steps.refl _) (argsL := []) (rest := []) (lenOf pd_2 rfl) rfl (by show 2 * 0 + _ ≤ _; exact Nat.le_of_eq rfl) (hb hby at_206) (fun _ _ => ⟨rfl, e35, (by decide : 1 + 0 ≤ _), (by decide : 2 + 0 ≤ _)⟩)
    dsimp only [Pt.U, Pt.locs, Pt.cells, Pt.slots] at X38 l38 y38 z38 st38 hQ38
    subst l38 y38 z38
    obtain ⟨rfl, N38q, e38⟩ := hQ38
    have N38 := Fr.app N35 N38q
    refine own_step (st' := T38.setTop (mkF m 209 #[.val (.long x0), .second, .val (.long x1), .second, .val (.long x2), .second, .val (.int x3), .val (.long cc), .second, .val (.ref b1), .val (.long z_9), .second, .val (.int (if cc < z_9 then (0 : Int32) else (1 : Int32))), .val (.long l1), .second, .val (.long z_15), .second, .val (.int (if l1 < z_15 then (0 : Int32) else (1 : Int32))), .val (.long l2), .second] [(.long cc)])) (fun t k => st38.trans k) ?_
    refine own_step (st' := T38.setTop (mkF m 211 #[.val (.long x0), .second, .val (.long x1), .second, .val (.long x2), .second, .val (.int x3), .val (.long cc), .second, .val (.ref b1), .val (.long z_9), .second, .val (.int (if cc < z_9 then (0 : Int32) else (1 : Int32))), .val (.long l1), .second, .val (.long z_15), .second, .val (.int (if l1 < z_15 then (0 : Int32) else (1 : Int32))), .val (.long l2), .second] [(.long cc), (.long cc)])) (fun t k => XS.lload X38.here hx rfl (hb hby at_209) rfl k) ?_
    refine own_step (st' := T38.setTop (mkF m 212 #[.val (.long x0), .second, .val (.long x1), .second, .val (.long x2), .second, .val (.int x3), .val (.long cc), .second, .val (.ref b1), .val (.long z_9), .second, .val (.int (if cc < z_9 then (0 : Int32) else (1 : Int32))), .val (.long l1), .second, .val (.long z_15), .second, .val (.int (if l1 < z_15 then (0 : Int32) else (1 : Int32))), .val (.long l2), .second] [(.int (lcmpW cc cc))])) (fun t k => XS.lcmp X38.here hx rfl (hb hby at_211) rfl k) ?_
    refine own_step (st' := T38.setTop (mkF m 215 #[.val (.long x0), .second, .val (.long x1), .second, .val (.long x2), .second, .val (.int x3), .val (.long cc), .second, .val (.ref b1), .val (.long z_9), .second, .val (.int (if cc < z_9 then (0 : Int32) else (1 : Int32))), .val (.long l1), .second, .val (.long z_15), .second, .val (.int (if l1 < z_15 then (0 : Int32) else (1 : Int32))), .val (.long l2), .second] [])) (fun t k => XS.ifNo X38.here hx rfl (hb hby at_212) rfl ((if0 _ _).trans (teq ((lw_eq _ _).mpr rfl)).2) k) ?_
    refine own_step (st' := T38.setTop (mkF m 216 #[.val (.long x0), .second, .val (.long x1), .second, .val (.long x2), .second, .val (.int x3), .val (.long cc), .second, .val (.ref b1), .val (.long z_9), .second, .val (.int (if cc < z_9 then (0 : Int32) else (1 : Int32))), .val (.long l1), .second, .val (.long z_15), .second, .val (.int (if l1 < z_15 then (0 : Int32) else (1 : Int32))), .val (.long l2), .second] [(.int (1 : Int32))])) (fun t k => XS.iconst X38.here hx rfl (hb hby at_215) k) ?_
    refine own_step (st' := T38.setTop (mkF m 220 #[.val (.long x0), .second, .val (.long x1), .second, .val (.long x2), .second, .val (.int x3), .val (.long cc), .second, .val (.ref b1), .val (.long z_9), .second, .val (.int (if cc < z_9 then (0 : Int32) else (1 : Int32))), .val (.long l1), .second, .val (.long z_15), .second, .val (.int (if l1 < z_15 then (0 : Int32) else (1 : Int32))), .val (.long l2), .second] [(.int (1 : Int32))])) (fun t k => XS.goto X38.here hx rfl (pc0 := 216) (pc' := 220) rfl (hb hby at_216) (by decide) (by decide) k) ?_
    refine own_ret X38 Bd.notSynchronized (some (.int (1 : Int32))) (fun h => by rw [Bd.returns] at h; cases h) (fun fs hr => retN X38 hx (t := .boolean) Bd.returns (by simp) (hb hby at_220) hr) ?_ (by decide) (by decide)
    rw [e38]
    exact ⟨rfl, N38⟩
set_option maxRecDepth 65536 in
set_option maxHeartbeats 40000000 in
theorem comes_1 {Post : Tables → Env → Array Value → State → Outcome → State → Prop} (hpost : ∀ tb e args s v u, (limb_1_1.after args s (.returned v) u = true ∧ limb_1_2.after args s (.returned v) u = true ∧ True) → FrameEnd s (.returned v) u (Jvm.fieldLocs frame_1_writes args s ++ Jvm.arrayLocs frame_1_arrays args s ++ Jvm.staticLocs frame_1_statics s) 16 128 → Post tb e args s (.returned v) u) :
    ArmFor flags0 classFile x code maxLocals ret World_1 tables_1 room_1 Calls_1 rest_1 Pre_1 Post := by
  intro l hfl _ _ p e ha hc hk s m args below hf hA hF happ hP
  obtain ⟨hcalls, hrest, hpre⟩ := hP
  obtain ⟨-, -, -, hnamed, -, -, -, hat⟩ := (Spec.applies_iff hf).mp happ
  obtain ⟨hg, hn⟩ := and_e (Cond.before_iff.mp (show (Jvm.Cond.and given_1 narrow_1).before args s = true from hpre))
  obtain ⟨hcount, hg0⟩ := and_e hg
  obtain ⟨ha0, hg1⟩ := and_e hg0
  obtain ⟨ha1, hg2⟩ := and_e hg1
  obtain ⟨ha2, hg3⟩ := and_e hg2
  obtain ⟨w0, w1, w2, w3, rfl⟩ : ∃ w0 w1 w2 w3 : Value, args = #[w0, w1, w2, w3] := by
    have hs : args.size = 4 := by simpa [Cond.value, given_1] using hcount
    obtain ⟨L⟩ := args
    match L, hs with
    | [w0, w1, w2, w3], _ => exact ⟨w0, w1, w2, w3, rfl⟩
  have hw := fun d (hd : d ∈ tables_1) => atoms_spec (ws := Jvm.Cond.code x code maxLocals ret :: tables_1) hat d (List.mem_cons_of_mem _ hd)
  have hfit : Fit s := fun {y c} hc i hi => by
    obtain ⟨ha, rfl⟩ := Array.getElem?_eq_some_iff.mp hc
    have q := List.all_eq_true.mp ((Array.all_eq_true_iff_forall_mem.mp hF) _ (Array.getElem_mem ha)) i (List.mem_range.mpr hi)
    simpa [Array.getElem?_eq_getElem hi] using q
  obtain ⟨i0, ei0⟩ := isL_v ha0
  obtain rfl : w0 = (.long i0) := Option.some.inj ei0
  obtain ⟨i1, ei1⟩ := isL_v ha1
  obtain rfl : w1 = (.long i1) := Option.some.inj ei1
  obtain ⟨i2, ei2⟩ := isL_v ha2
  obtain rfl : w2 = (.long i2) := Option.some.inj ei2
  obtain ⟨i3, ei3⟩ := is_v hg3
  obtain rfl : w3 = (.int i3) := Option.some.inj ei3
  obtain ⟨n, o, h1, h2, h3, _, L, rfl, ⟨rfl, N⟩, hq⟩ := rm0 l s _ hw tables_1 i0 i1 i2 i3 s.heap s.heap.size (Nat.le_refl _) p e ha hc hk s m _ below hf ((Spec.applies_iff_loose hf).mp happ).1 ⟨rfl, State.Warmed39.refl s, rfl⟩ trivial
  refine ⟨n, _, h1, h2, h3, hpost _ _ _ _ _ _ ⟨Cond.after_iff.mpr rfl, Cond.after_iff.mpr (eq_i res_at (Term.int_eval (1)) rfl), trivial⟩ ⟨hq.1, hq.2.1, (hq.2.2.sift fun y hy => Or.inr (N y hy)).mono (by decide) (by decide)⟩⟩
theorem main_1_1 : Claimed_1_1 := comes_1 fun _ _ _ _ _ _ h hF => ⟨h.1, hF⟩
theorem main_1_2 : Claimed_1_2 := comes_1 fun _ _ _ _ _ _ h hF => ⟨h.2.1, hF⟩
end Jvm.Pilot.@@N@@
namespace Jvm.Pilot.@@N@@
open Jvm Jvm.ClassFile Sem Op Lib Jvm.Free Jvm.Stand Jvm.Pilot.@@N@@.Jvm.D
/-! MADE BY PROGRAM (witnessworld.py) out of the Statement's table words and the real class files: 10 classes; the members and pool entries that the words name. The judged class is class 1, her method 1. -/
namespace start1
open Jvm.ClassFile
def u (s : String) : CpInfo := .utf8 (stringToUtf16 s)
/-- a pool by its gaps: so many unusable entries, then the entry; so many at the end -/
def gap : Nat → List CpInfo → List CpInfo
  | 0, r => r
  | n + 1, r => .unusable :: gap n r
def poolList (es : List (Nat × CpInfo)) (last : Nat) : List CpInfo := es.foldr (fun e r => gap e.1 (e.2 :: r)) (gap last [])
def pool (es : List (Nat × CpInfo)) (last : Nat) : Array CpInfo := ⟨poolList es last⟩
def fileOf (pool : Array CpInfo) (this : Nat) (attrs : Array Attribute := #[]) (ms : Array MethodInfo := #[]) (fl : Nat := 33) (sup : Nat := 0) (ifs : Array Nat := #[]) (fds : Array FieldInfo := #[]) : ClassFile where
  minorVersion := 0
  majorVersion := 65
  constantPool := pool
  accessFlags := fl
  thisClass := this
  superClass := sup
  interfaces := ifs
  fields := fds
  methods := ms
  attributes := attrs
def plain (name : String) (sup : Option ClassId) : Class where
  name := name
  kind := .ordinary
  loader := none
  accessFlags := 33
  super := sup
  interfaces := #[]
  cf := none
  fields := #[]
  methods := #[]
  instanceTypes := #[]
  staticTypes := #[]
  resolved := #[]
  callSites := []
  init := .initialized
  statics := none
  mirror := none

def pool0 : Array CpInfo := pool [(5, u "<init>"), (0, u "()V"), (1, .class_ 10), (1, u "java/lang/Object")] 113

def k0c0 : Code := { maxStack := 0, maxLocals := 1, code := object_method_1_code, exceptionTable := #[], attributes := #[] }
def k0m0 : Method := { name := "<init>", desc := "()V", sig := { parameters := [], returnType := none }, accessFlags := 1, code := some k0c0 }
/-- java/lang/Object -/
def k0 : Class := { plain "java/lang/Object" none with
  accessFlags := 33
  interfaces := #[]
  cf := some (fileOf pool0 8 #[] #[{ accessFlags := 1, nameIndex := 5, descriptorIndex := 6, attributes := #[] }] 33 0 #[] #[])
  fields := #[]
  methods := #[k0m0]
  instanceTypes := #[]
  staticTypes := #[]
  resolved := Array.replicate 124 none
  statics := none }

def pool1 : Array CpInfo := pool [(2, .class_ 4), (1, u "java/lang/Object"), (0, u "<init>"), (0, u "()V"), (2, .long 9223372036854775807), (1, .class_ 12), (0, u "com/example/alert_tree/alerttree/protocol/Room"), (0, .methodref 11 14), (0, .nameAndType 5 15), (0, u "(J)V"), (0, .methodref 11 17), (0, .nameAndType 18 19), (0, u "capacity"), (0, u "()J"), (0, .methodref 21 22), (0, .class_ 23), (0, .nameAndType 24 25), (0, u "com/example/alert_tree/alerttree/protocol/RoomTakePinLaw"), (0, u "pick"), (0, u "(JJI)J"), (0, .methodref 11 27), (0, .nameAndType 28 29), (0, u "take"), (0, u "(J)Z"), (0, .long 3), (1, .methodref 33 34), (0, .class_ 35), (0, .nameAndType 36 37), (0, u "java/lang/Math"), (0, u "max"), (0, u "(JJ)J"), (0, .long 9223372036854775804), (3, u "law"), (0, u "(JJJI)Z")] 3

def k1m0 : Method := { name := "<init>", desc := "()V", sig := { parameters := [], returnType := none }, accessFlags := 1, code := none }
def k1c1 : Code := { maxStack := 6, maxLocals := 20, code := code, exceptionTable := #[], attributes := #[] }
def k1m1 : Method := { name := "law", desc := "(JJJI)Z", sig := { parameters := [.long, .long, .long, .int], returnType := some .boolean }, accessFlags := 9, code := some k1c1 }
def k1c2 : Code := { maxStack := 8, maxLocals := 5, code := method_3_code, exceptionTable := #[], attributes := #[] }
def k1m2 : Method := { name := "pick", desc := "(JJI)J", sig := { parameters := [.long, .long, .int], returnType := some .long }, accessFlags := 10, code := some k1c2 }
/-- com/example/alert_tree/alerttree/protocol/RoomTakePinLaw -/
def k1 : Class := { plain "com/example/alert_tree/alerttree/protocol/RoomTakePinLaw" (some 0) with
  accessFlags := 49
  interfaces := #[]
  cf := some (fileOf pool1 21 #[] #[{ accessFlags := 1, nameIndex := 5, descriptorIndex := 6, attributes := #[] }, { accessFlags := 9, nameIndex := 42, descriptorIndex := 43, attributes := #[] }, { accessFlags := 10, nameIndex := 24, descriptorIndex := 25, attributes := #[] }] 49 2 #[] #[])
  fields := #[]
  methods := #[k1m0, k1m1, k1m2]
  instanceTypes := #[]
  staticTypes := #[]
  resolved := Array.replicate 47 none
  statics := none }

def pool2 : Array CpInfo := pool [(1, .methodref 2 3), (0, .class_ 4), (0, .nameAndType 5 6), (0, u "java/lang/Object"), (0, u "<init>"), (0, u "()V"), (0, .fieldref 8 9), (0, .class_ 10), (0, .nameAndType 11 12), (0, u "com/example/alert_tree/alerttree/protocol/Room"), (0, u "capacity"), (0, u "J"), (0, .fieldref 8 14), (0, .nameAndType 15 12), (0, u "left"), (0, u "(J)V"), (2, u "()J"), (0, u "take"), (0, u "(J)Z")] 4

def k2c0 : Code := { maxStack := 3, maxLocals := 3, code := prog_37_method_1_code, exceptionTable := #[], attributes := #[] }
def k2m0 : Method := { name := "<init>", desc := "(J)V", sig := { parameters := [.long], returnType := none }, accessFlags := 1, code := some k2c0 }
def k2c1 : Code := { maxStack := 2, maxLocals := 1, code := prog_37_method_2_code, exceptionTable := #[], attributes := #[] }
def k2m1 : Method := { name := "capacity", desc := "()J", sig := { parameters := [], returnType := some .long }, accessFlags := 1, code := some k2c1 }
def k2c2 : Code := { maxStack := 5, maxLocals := 4, code := prog_37_method_3_code, exceptionTable := #[], attributes := #[] }
def k2m2 : Method := { name := "take", desc := "(J)Z", sig := { parameters := [.long], returnType := some .boolean }, accessFlags := 1, code := some k2c2 }
/-- com/example/alert_tree/alerttree/protocol/Room -/
def k2 : Class := { plain "com/example/alert_tree/alerttree/protocol/Room" (some 0) with
  accessFlags := 33
  interfaces := #[]
  cf := some (fileOf pool2 8 #[] #[{ accessFlags := 1, nameIndex := 5, descriptorIndex := 16, attributes := #[] }, { accessFlags := 1, nameIndex := 11, descriptorIndex := 19, attributes := #[] }, { accessFlags := 1, nameIndex := 20, descriptorIndex := 21, attributes := #[] }] 33 2 #[] #[{ accessFlags := 18, nameIndex := 11, descriptorIndex := 12, attributes := #[] }, { accessFlags := 2, nameIndex := 15, descriptorIndex := 12, attributes := #[] }])
  fields := #[{ name := "capacity", type := .long, accessFlags := 18, slot := 0, constantValue := 0 }, { name := "left", type := .long, accessFlags := 2, slot := 1, constantValue := 0 }]
  methods := #[k2m0, k2m1, k2m2]
  instanceTypes := #[.long, .long]
  staticTypes := #[]
  resolved := Array.replicate 26 none
  statics := none }

def pool3 : Array CpInfo := pool [(1, .class_ 2), (0, u "java/lang/Math"), (1, .class_ 6), (1, u "java/lang/Object"), (0, u "<init>"), (0, u "()V"), (89, .class_ 100), (1, u "java/lang/Math$RandomNumberGeneratorHolder"), (20, u "(JJ)J"), (50, u "negativeZeroFloatBits"), (0, u "J"), (2, u "negativeZeroDoubleBits"), (21, u "max"), (46, u "$assertionsDisabled"), (0, u "Z"), (91, u "twoToTheDoubleScaleDown"), (0, u "D"), (4, u "twoToTheDoubleScaleUp"), (9, u "E"), (3, u "PI"), (2, u "TAU"), (2, u "DEGREES_TO_RADIANS"), (0, u "RADIANS_TO_DEGREES")] 94

def k3m0 : Method := { name := "<init>", desc := "()V", sig := { parameters := [], returnType := none }, accessFlags := 2, code := none }
def k3c1 : Code := { maxStack := 4, maxLocals := 4, code := jdk_29_method_66_code, exceptionTable := #[], attributes := #[] }
def k3m1 : Method := { name := "max", desc := "(JJ)J", sig := { parameters := [.long, .long], returnType := some .long }, accessFlags := 9, code := some k3c1 }
/-- java/lang/Math -/
def k3 : Class := { plain "java/lang/Math" (some 0) with
  accessFlags := 49
  interfaces := #[]
  cf := some (fileOf pool3 1 #[.nestMembers #[98]] #[{ accessFlags := 2, nameIndex := 7, descriptorIndex := 8, attributes := #[] }, { accessFlags := 9, nameIndex := 198, descriptorIndex := 121, attributes := #[] }] 49 4 #[] #[{ accessFlags := 25, nameIndex := 354, descriptorIndex := 339, attributes := #[] }, { accessFlags := 25, nameIndex := 358, descriptorIndex := 339, attributes := #[] }, { accessFlags := 25, nameIndex := 361, descriptorIndex := 339, attributes := #[] }, { accessFlags := 26, nameIndex := 364, descriptorIndex := 339, attributes := #[] }, { accessFlags := 26, nameIndex := 365, descriptorIndex := 339, attributes := #[] }, { accessFlags := 26, nameIndex := 172, descriptorIndex := 173, attributes := #[] }, { accessFlags := 26, nameIndex := 176, descriptorIndex := 173, attributes := #[] }, { accessFlags := 8, nameIndex := 344, descriptorIndex := 339, attributes := #[] }, { accessFlags := 8, nameIndex := 338, descriptorIndex := 339, attributes := #[] }, { accessFlags := 4120, nameIndex := 245, descriptorIndex := 246, attributes := #[] }])
  fields := #[{ name := "E", type := .double, accessFlags := 25, slot := 0, constantValue := 0 }, { name := "PI", type := .double, accessFlags := 25, slot := 1, constantValue := 0 }, { name := "TAU", type := .double, accessFlags := 25, slot := 2, constantValue := 0 }, { name := "DEGREES_TO_RADIANS", type := .double, accessFlags := 26, slot := 3, constantValue := 0 }, { name := "RADIANS_TO_DEGREES", type := .double, accessFlags := 26, slot := 4, constantValue := 0 }, { name := "negativeZeroFloatBits", type := .long, accessFlags := 26, slot := 5, constantValue := 0 }, { name := "negativeZeroDoubleBits", type := .long, accessFlags := 26, slot := 6, constantValue := 0 }, { name := "twoToTheDoubleScaleUp", type := .double, accessFlags := 8, slot := 7, constantValue := 0 }, { name := "twoToTheDoubleScaleDown", type := .double, accessFlags := 8, slot := 8, constantValue := 0 }, { name := "$assertionsDisabled", type := .boolean, accessFlags := 4120, slot := 9, constantValue := 0 }]
  methods := #[k3m0, k3m1]
  instanceTypes := #[]
  staticTypes := #[.double, .double, .double, .double, .double, .long, .long, .double, .double, .boolean]
  resolved := Array.replicate 460 none
  statics := none }

def pool4 : Array CpInfo := pool [(1, u "java/lang/Cloneable"), (0, .class_ 1), (0, u "java/lang/Object"), (0, .class_ 3)] 3

/-- java/lang/Cloneable -/
def k4 : Class := { plain "java/lang/Cloneable" (some 0) with
  accessFlags := 1537
  interfaces := #[]
  cf := some (fileOf pool4 2 #[] #[] 1537 4 #[] #[])
  fields := #[]
  methods := #[]
  instanceTypes := #[]
  staticTypes := #[]
  resolved := Array.replicate 8 none
  statics := none }

def pool5 : Array CpInfo := pool [(1, u "java/io/Serializable"), (0, .class_ 1), (0, u "java/lang/Object"), (0, .class_ 3)] 3

/-- java/io/Serializable -/
def k5 : Class := { plain "java/io/Serializable" (some 0) with
  accessFlags := 1537
  interfaces := #[]
  cf := some (fileOf pool5 2 #[] #[] 1537 4 #[] #[])
  fields := #[]
  methods := #[]
  instanceTypes := #[]
  staticTypes := #[]
  resolved := Array.replicate 8 none
  statics := none }

/-- the primitive byte -/
def k6 : Class := { plain "byte" none with kind := .primitive 'B', accessFlags := 0x411 }
/-- [B -/
def k7 : Class := { plain "[B" (some 0) with kind := .array 6 .byte, interfaces := #[4, 5], accessFlags := 1041 }

/-- the primitive int -/
def k8 : Class := { plain "int" none with kind := .primitive 'I', accessFlags := 0x411 }
/-- [I -/
def k9 : Class := { plain "[I" (some 0) with kind := .array 8 .int, interfaces := #[4, 5], accessFlags := 1041 }

def heap : Heap := #[]
def classes : Array Class := #[k0, k1, k2, k3, k4, k5, k6, k7, k8, k9]
def interned : List (Array UInt16 × Addr) := []
def slotsUsed : Nat := 0
def theMethod : MethodId := ⟨1, 1⟩
def args0 : Array Value := #[.long 5, .long 7, .long 9, .int 3]
def aboutOver (below : List Frame) : State where
  vm := { classes := classes, interned := interned.toArray }
  heap := heap
  slotsUsed := slotsUsed
  threads := #[{ frames := .invoking theMethod args0 :: below }]
def below0 : List Frame := [.native { method := ⟨0, 0⟩, args := #[] }]
def about1 : State := aboutOver below0
def p0 : Program := .bare "" "" ""
def e0 : Env := launch0.env 0 0 0
theorem w_frames : about1.frames = Frame.invoking theMethod args0 :: below0 := rfl
set_option maxRecDepth 65536 in
theorem w_args : argsFit about1.vm theMethod args0 = true := by decide +kernel
set_option maxRecDepth 65536 in
theorem w_heap : heapFits about1 = true := by decide +kernel
set_option maxRecDepth 65536 in
theorem w_runnable : about1.curStatus? = some .runnable := by decide +kernel
set_option maxRecDepth 65536 in
theorem w_alone : about1.alone = true := by decide +kernel
set_option maxRecDepth 65536 in
theorem w_named : about1.methodNamed? x = some theMethod := by decide +kernel
set_option maxRecDepth 65536 in
theorem w_hears : about1.hears theMethod below0 = true := by decide +kernel
set_option maxRecDepth 65536 in
theorem w_ripe : about1.ripe theMethod args0 below0 = true := by decide +kernel
theorem w_running : about1.status = .running := rfl
set_option maxRecDepth 65536 in
theorem w_room : about1.hasRoom e0.platform room_1 = true :=
  launch0.hasRoom_least _ room_1 (by decide +kernel) (by decide +kernel) (by decide +kernel) (by decide +kernel) (by decide +kernel) (by decide +kernel)
theorem allAtoms_all (ts : List Jvm.Cond) (a : Array Jvm.Value) (st : Jvm.State) : (allAtoms ts).before a st = ts.all (fun c => c.before a st) := by
  induction ts with
  | nil => rfl
  | cons c t ih =>
    show (Jvm.Cond.and c (allAtoms t)).before a st = _
    rw [Jvm.Cond.before_and, ih, List.all_cons]
def words1 : List Jvm.Cond := Jvm.Cond.code x code maxLocals ret :: tables_1
/-- a 'code' word, met by the world's own term for the bytes: nothing is compared byte by byte -/
theorem code_word {y : MethodName} {bytes : ByteArray} {mx : Nat} {rt : Option FieldType} {a : Array Value} {s : State} {m : MethodId} {meth : Method} {c : Code} (h1 : s.methodNamed? y = some m) (h2 : s.vm.method? m = some meth) (h3 : meth.code = some c) (h4 : c.code = bytes)
    (h5 : (c.maxLocals == mx && c.exceptionTable.isEmpty && decide (c.maxStack ≤ mostOperands) && decide (meth.sig.returnType = rt) && !meth.locks && decide (parseMethodDescriptor y.desc = some meth.sig)) = true) : (Jvm.Cond.code y bytes mx rt).before a s = true := by
  simp only [Bool.and_eq_true, beq_iff_eq, Bool.not_eq_true', decide_eq_true_eq] at h5
  obtain ⟨⟨⟨⟨⟨g1, g2⟩, g3⟩, g4⟩, g5⟩, g6⟩ := h5
  simp [Cond.before, Cond.holds, Cond.value, h1, h2, h3, h4, g1, g2, g3, g4, g5, g6]
def isCode : Jvm.Cond → Bool
  | .code _ _ _ _ => true
  | _ => false
theorem all_split {L : List Jvm.Cond} {P : Jvm.Cond → Bool} (h1 : L.all (fun c => isCode c || P c) = true) (h2 : ∀ c ∈ L.filter isCode, P c = true) : L.all P = true := by
  refine List.all_eq_true.mpr fun c hc => ?_
  have h := List.all_eq_true.mp h1 c hc
  rcases Bool.eq_false_or_eq_true (isCode c) with hi | hi
  · exact h2 c (List.mem_filter.mpr ⟨hc, hi⟩)
  · simpa [hi] using h
set_option maxRecDepth 65536 in
theorem w_c0 : (Jvm.Cond.code x code maxLocals ret).before args0 about1 = true := code_word (m := ⟨1, 1⟩) (meth := k1m1) (c := k1c1) (by decide +kernel) rfl rfl rfl (by decide +kernel)
set_option maxRecDepth 65536 in
theorem w_c1 : (Jvm.Cond.code ({ cls := "com/example/alert_tree/alerttree/protocol/Room", name := "<init>", desc := "(J)V" } : Jvm.MethodName) prog_37_method_1_code (3 : Nat) (Option.none : Option Jvm.ClassFile.FieldType)).before args0 about1 = true := code_word (m := ⟨2, 0⟩) (meth := k2m0) (c := k2c0) (by decide +kernel) rfl rfl rfl (by decide +kernel)
set_option maxRecDepth 65536 in
theorem w_c2 : (Jvm.Cond.code ({ cls := "java/lang/Object", name := "<init>", desc := "()V" } : Jvm.MethodName) object_method_1_code (1 : Nat) (Option.none : Option Jvm.ClassFile.FieldType)).before args0 about1 = true := code_word (m := ⟨0, 0⟩) (meth := k0m0) (c := k0c0) (by decide +kernel) rfl rfl rfl (by decide +kernel)
set_option maxRecDepth 65536 in
theorem w_c3 : (Jvm.Cond.code ({ cls := "com/example/alert_tree/alerttree/protocol/Room", name := "capacity", desc := "()J" } : Jvm.MethodName) prog_37_method_2_code (1 : Nat) (Option.some Jvm.ClassFile.FieldType.long)).before args0 about1 = true := code_word (m := ⟨2, 1⟩) (meth := k2m1) (c := k2c1) (by decide +kernel) rfl rfl rfl (by decide +kernel)
set_option maxRecDepth 65536 in
theorem w_c4 : (Jvm.Cond.code ({ cls := "com/example/alert_tree/alerttree/protocol/RoomTakePinLaw", name := "pick", desc := "(JJI)J" } : Jvm.MethodName) method_3_code (5 : Nat) (Option.some Jvm.ClassFile.FieldType.long)).before args0 about1 = true := code_word (m := ⟨1, 2⟩) (meth := k1m2) (c := k1c2) (by decide +kernel) rfl rfl rfl (by decide +kernel)
set_option maxRecDepth 65536 in
theorem w_c5 : (Jvm.Cond.code ({ cls := "com/example/alert_tree/alerttree/protocol/Room", name := "take", desc := "(J)Z" } : Jvm.MethodName) prog_37_method_3_code (4 : Nat) (Option.some Jvm.ClassFile.FieldType.boolean)).before args0 about1 = true := code_word (m := ⟨2, 2⟩) (meth := k2m2) (c := k2c2) (by decide +kernel) rfl rfl rfl (by decide +kernel)
set_option maxRecDepth 65536 in
theorem w_c6 : (Jvm.Cond.code ({ cls := "java/lang/Math", name := "max", desc := "(JJ)J" } : Jvm.MethodName) jdk_29_method_66_code (4 : Nat) (Option.some Jvm.ClassFile.FieldType.long)).before args0 about1 = true := code_word (m := ⟨3, 1⟩) (meth := k3m1) (c := k3c1) (by decide +kernel) rfl rfl rfl (by decide +kernel)
def codes1 : List Jvm.Cond := [Jvm.Cond.code x code maxLocals ret, Jvm.Cond.code ({ cls := "com/example/alert_tree/alerttree/protocol/Room", name := "<init>", desc := "(J)V" } : Jvm.MethodName) prog_37_method_1_code (3 : Nat) (Option.none : Option Jvm.ClassFile.FieldType), Jvm.Cond.code ({ cls := "java/lang/Object", name := "<init>", desc := "()V" } : Jvm.MethodName) object_method_1_code (1 : Nat) (Option.none : Option Jvm.ClassFile.FieldType), Jvm.Cond.code ({ cls := "com/example/alert_tree/alerttree/protocol/Room", name := "capacity", desc := "()J" } : Jvm.MethodName) prog_37_method_2_code (1 : Nat) (Option.some Jvm.ClassFile.FieldType.long), Jvm.Cond.code ({ cls := "com/example/alert_tree/alerttree/protocol/RoomTakePinLaw", name := "pick", desc := "(JJI)J" } : Jvm.MethodName) method_3_code (5 : Nat) (Option.some Jvm.ClassFile.FieldType.long), Jvm.Cond.code ({ cls := "com/example/alert_tree/alerttree/protocol/Room", name := "take", desc := "(J)Z" } : Jvm.MethodName) prog_37_method_3_code (4 : Nat) (Option.some Jvm.ClassFile.FieldType.boolean), Jvm.Cond.code ({ cls := "java/lang/Math", name := "max", desc := "(JJ)J" } : Jvm.MethodName) jdk_29_method_66_code (4 : Nat) (Option.some Jvm.ClassFile.FieldType.long)]
set_option maxRecDepth 65536 in
theorem codes_eq : words1.filter isCode = codes1 := rfl
theorem w_codes : ∀ c ∈ words1.filter isCode, c.before args0 about1 = true := by
  rw [codes_eq]
  intro c hc
  simp only [codes1, List.mem_cons, List.not_mem_nil, or_false] at hc
  rcases hc with rfl | rfl | rfl | rfl | rfl | rfl | rfl
  · exact w_c0
  · exact w_c1
  · exact w_c2
  · exact w_c3
  · exact w_c4
  · exact w_c5
  · exact w_c6
set_option maxRecDepth 65536 in
theorem w_t1 : (words1.take 24).all (fun c => isCode c || c.before args0 about1) = true := by decide +kernel
set_option maxRecDepth 65536 in
theorem w_t2 : (words1.drop 24).all (fun c => isCode c || c.before args0 about1) = true := by decide +kernel
theorem w_tables : (allAtoms (Jvm.Cond.code x code maxLocals ret :: tables_1)).before args0 about1 = true := by
  rw [allAtoms_all]
  show words1.all (fun c => c.before args0 about1) = true
  refine all_split ?_ w_codes
  rw [← List.take_append_drop 24 words1, List.all_append, w_t1, w_t2]
  rfl
set_option maxRecDepth 65536 in
theorem w_case : (Jvm.Cond.and given_1 narrow_1).before args0 about1 = true := by decide +kernel
theorem w_applies : (headSpec (Jvm.Cond.code x code maxLocals ret :: tables_1) room_1).applies x e0.platform about1 = true :=
  (Spec.applies_iff w_frames).mpr ⟨w_running, w_runnable, w_alone, w_named, w_hears, w_ripe, w_room, w_tables⟩
theorem atStart : AtStart classFile x code maxLocals ret World_1 tables_1 room_1 Calls_1 rest_1 Pre_1 launch0 p0 e0 about1 theMethod args0 below0 :=
  ⟨lists_1, trivial, launch0.admits_env _ _ _, launch0.least_env, fairChoices_fair.cas, fairChoices_fair.clock, w_frames, w_args, w_heap, w_applies, trivial, trivial, w_case⟩
end start1
theorem witness_1 : WitnessClaimed_1 := ⟨start1.p0, start1.e0, start1.about1, start1.theMethod, start1.args0, start1.below0, start1.atStart⟩
end Jvm.Pilot.@@N@@
