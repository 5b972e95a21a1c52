import JvmDerived
import JvmDerived.Pilot.@@N@@Statement
import JvmDerived.Pilot.@@N@@Code
set_option linter.unusedVariables false
set_option linter.unusedSimpArgs false
namespace Jvm.RoadKit
open Sem ClassFile Op Lib Jvm.Stand Jvm.Free Jvm.LawKit
section Own
variable {p : Program} {l : Launch} {e : Env} {R : Room} {s : State} {m : MethodId} {args : Array Value} {below : List Frame} {meth : Method} {c : Code} {T : State} {locs : List Loc} {cells slots : Nat} {Z : State} {h : Heap} {a : Addr} {k : ClassId} {n j : Int32} {vs : List Value} {dv : Value} {ty : FieldType}
theorem own_retI (X : Stand p l e R s m args below meth c T locs cells slots) (hx : p.tables.exec = Jvm.exec) {pc : Nat} {Ls : Array Slot} {z : Int32} {rest : List Value} (hret : meth.sig.returnType = some .int) (hd : decode c.code pc = .ok (.ireturn, 1)) {fs : List Frame}
    (hl : ∀ (f : JFrame) (acts : List Action), f.method = m → f.locked = none → f.entered = [] → (doReturn e (T.setTop f) acts (some (.int z))).1 = T.setFrames fs) : Steps p.tables e below (T.setTop (mkF m pc Ls (.int z :: rest))) (T.setFrames fs) :=
  retOut X hx hret rfl (Or.inl ⟨rfl, Or.inl rfl, _, rfl⟩) hd hl
/-- the run from st ends as the contract says -/
def own_Ends (p : Program) (e : Env) (below : List Frame) (s : State) (C S : Nat) (Q : Option Value → Heap → List Loc → Prop) (st : State) : Prop :=
  ∃ s₂ o, Steps p.tables e below st s₂ ∧ s₂.status = .running ∧ Ended s₂ below o ∧ ∃ v L, o = .returned v ∧ Q v s₂.heap L ∧ FrameEnd s o s₂ L C S
theorem own_step {C S : Nat} {Q : Option Value → Heap → List Loc → Prop} {st st' : State} (f : ∀ t, Steps p.tables e below st' t → Steps p.tables e below st t) (h : own_Ends p e below s C S Q st') : own_Ends p e below s C S Q st := by
  obtain ⟨s2, o, h1, h2⟩ := h
  exact ⟨s2, o, f _ h1, h2⟩
theorem own_sstep {st st' t : State} (f : ∀ t, Steps p.tables e below st' t → Steps p.tables e below st t) (h : Steps p.tables e below st' t) : Steps p.tables e below st t := f _ h
theorem own_ret (X : Stand p l e R s m args below meth c T locs cells slots) (hlocks : meth.locks = false) {C S : Nat} {Q : Option Value → Heap → List Loc → Prop} {g : JFrame} (v : Option Value) (hv : meth.sig.returnType = none → v = none)
    (st : ∀ fs, (∀ (f : JFrame) (acts : List Action), f.method = m → f.locked = none → f.entered = [] → (doReturn e (T.setTop f) acts v).1 = T.setFrames fs) → Steps p.tables e below (T.setTop g) (T.setFrames fs))
    (hQ : Q v T.heap locs) (hc : cells ≤ C) (hs : slots ≤ S) : own_Ends p e below s C S Q (T.setTop g) := by
  obtain ⟨fs, hr, hrun, hended, hW, hsame⟩ := X.leave (v := v) hv
  exact ⟨_, _, st fs hr, hrun, hended, _, _, rfl, hQ, ⟨_, rfl⟩, hW, hsame.mono hc hs⟩
theorem own_b1 {P : Prop} [Decidable P] (hp : P) : ¬ ((if P then (1 : Int32) else (0 : Int32)) = 0) := by rw [if_pos hp]; decide
theorem own_b1n {P : Prop} [Decidable P] (hp : ¬ P) : ¬ ((if P then (0 : Int32) else (1 : Int32)) = 0) := by rw [if_neg hp]; decide
theorem own_lrem {tb : Tables} [Ours tb] {target : State} {g : JFrame} (ha : At T m c below) (hx : tb.exec = Jvm.exec) (hg : g.method = m) {x y : Int64} {rest : List Value} (hd : decode c.code g.pc = .ok (.lrem, 1)) (hs : g.stack = .long y :: .long x :: rest) (hy : y ≠ 0) (hr : Steps tb e below (T.setTop { g with pc := g.pc + 1, stack := .long (x % y) :: rest }) target) : Steps tb e below (T.setTop g) target :=
  XS.lrem ha hx hg hd hs hy (by rw [lrem_mod]; exact hr)
theorem own_len (X : Stand p l e R s m args below meth c T locs cells slots) (hx : p.tables.exec = Jvm.exec) (hZ : Z.Warmed39 s.vm) (eT : T.heap = h) (A : Arv Z h a k ty n vs dv) {g : JFrame} (hg : g.method = m) {rest : List Value} (hs : g.stack = .ref a :: rest) (hd : decode c.code g.pc = .ok (.arraylength, 1)) :
    ∀ target, Steps p.tables e below (T.setTop { g with pc := g.pc + 1, stack := .int n :: rest }) target → Steps p.tables e below (T.setTop g) target := by
  obtain ⟨cl, Ar, -, S, N, -, -⟩ := A
  intro t k
  refine X.arraylength hx (by rw [eT]; exact Ar.1) (State.isArrayOf_alike hZ.alike Ar.2.1) hg hs hd t ?_
  rw [len_of S N]; exact k
theorem own_ldI (X : Stand p l e R s m args below meth c T locs cells slots) (hx : p.tables.exec = Jvm.exec) (hZ : Z.Warmed39 s.vm) (eT : T.heap = h) (A : Arv Z h a k .int n vs dv) {j : Int32} {v : Value} (hj : ¬ j < 0 ∧ j < n) (hv : vs.getD j.toNatClampNeg dv = v) {g : JFrame} (hg : g.method = m) {rest : List Value} (hs : g.stack = .int j :: .ref a :: rest) (hd : decode c.code g.pc = .ok (.iaload, 1)) :
    ∀ target, Steps p.tables e below (T.setTop { g with pc := g.pc + 1, stack := v :: rest }) target → Steps p.tables e below (T.setTop g) target := by
  obtain ⟨cl, Ar, -, S, N, H, -⟩ := A
  intro t k
  exact X.iaload hx (by rw [eT]; exact Ar.1) (State.isArrayOf_alike hZ.alike Ar.2.1) Ar.2.2 (inb_of S hj) (H.at (inb_of S hj) hv) hg hs hd t k
theorem own_ldJ (X : Stand p l e R s m args below meth c T locs cells slots) (hx : p.tables.exec = Jvm.exec) (hZ : Z.Warmed39 s.vm) (eT : T.heap = h) (A : Arv Z h a k .long n vs dv) {j : Int32} {v : Value} (hj : ¬ j < 0 ∧ j < n) (hv : vs.getD j.toNatClampNeg dv = v) {g : JFrame} (hg : g.method = m) {rest : List Value} (hs : g.stack = .int j :: .ref a :: rest) (hd : decode c.code g.pc = .ok (.laload, 1)) :
    ∀ target, Steps p.tables e below (T.setTop { g with pc := g.pc + 1, stack := v :: rest }) target → Steps p.tables e below (T.setTop g) target := by
  obtain ⟨cl, Ar, -, S, N, H, -⟩ := A
  intro t k
  exact X.laload hx (by rw [eT]; exact Ar.1) (State.isArrayOf_alike hZ.alike Ar.2.1) Ar.2.2 (inb_of S hj) (H.at (inb_of S hj) hv) hg hs hd t k
theorem own_ldC (X : Stand p l e R s m args below meth c T locs cells slots) (hx : p.tables.exec = Jvm.exec) (hZ : Z.Warmed39 s.vm) (eT : T.heap = h) (A : Arv Z h a k .char n vs dv) {j : Int32} {v : Value} (hj : ¬ j < 0 ∧ j < n) (hv : vs.getD j.toNatClampNeg dv = v) {g : JFrame} (hg : g.method = m) {rest : List Value} (hs : g.stack = .int j :: .ref a :: rest) (hd : decode c.code g.pc = .ok (.caload, 1)) :
    ∀ target, Steps p.tables e below (T.setTop { g with pc := g.pc + 1, stack := v :: rest }) target → Steps p.tables e below (T.setTop g) target := by
  obtain ⟨cl, Ar, -, S, N, H, -⟩ := A
  intro t k
  exact X.caload hx (by rw [eT]; exact Ar.1) (State.isArrayOf_alike hZ.alike Ar.2.1) Ar.2.2 (inb_of S hj) (H.at (inb_of S hj) hv) hg hs hd t k
theorem own_ldB (X : Stand p l e R s m args below meth c T locs cells slots) (hx : p.tables.exec = Jvm.exec) (hZ : Z.Warmed39 s.vm) (eT : T.heap = h) (A : Arv Z h a k .byte n vs dv) {j : Int32} {v : Value} (hj : ¬ j < 0 ∧ j < n) (hv : vs.getD j.toNatClampNeg dv = v) {g : JFrame} (hg : g.method = m) {rest : List Value} (hs : g.stack = .int j :: .ref a :: rest) (hd : decode c.code g.pc = .ok (.baload, 1)) :
    ∀ target, Steps p.tables e below (T.setTop { g with pc := g.pc + 1, stack := v :: rest }) target → Steps p.tables e below (T.setTop g) target := by
  obtain ⟨cl, Ar, -, S, N, H, -⟩ := A
  intro t k
  exact X.baloadBytes hx (by rw [eT]; exact Ar.1) (State.isArrayOf_alike hZ.alike Ar.2.1) Ar.2.2 (inb_of S hj) (H.at (inb_of S hj) hv) hg hs hd t k
theorem own_stI (X : Stand p l e R s m args below meth c T locs cells slots) (hx : p.tables.exec = Jvm.exec) (hZ : Z.Warmed39 s.vm) (eT : T.heap = h) (A : Arv Z h a k .int n vs dv) {j x : Int32} {i : Nat} (hj : ¬ j < 0 ∧ j < n) (hi : j.toNatClampNeg = i) (hl : i < vs.length) {g : JFrame} (hg : g.method = m) {rest : List Value} (hs : g.stack = .int x :: .int j :: .ref a :: rest) (hd : decode c.code g.pc = .ok (.iastore, 1)) :
    ∃ T' h', Stand p l e R s m args below meth c T' (locs ++ [⟨a, j.toNatClampNeg⟩]) cells slots ∧ T'.heap = h' ∧ Wr h h' a j.toNatClampNeg (.int x) ∧ Arv Z h' a k .int n (vs.set i (.int x)) dv ∧ ∀ target, Steps p.tables e below (T'.setTop { g with pc := g.pc + 1, stack := rest }) target → Steps p.tables e below (T.setTop g) target := by
  obtain ⟨cl, Ar, q, S, N, H, G⟩ := A
  obtain ⟨T', h', X', e', W, st⟩ := stI X hx hZ eT Ar (inb_of S hj) hg hs hd
  exact ⟨T', h', X', e', W, Arv.set Ar q S N H G rfl W i hi hl, st⟩
theorem own_stJ (X : Stand p l e R s m args below meth c T locs cells slots) (hx : p.tables.exec = Jvm.exec) (hZ : Z.Warmed39 s.vm) (eT : T.heap = h) (A : Arv Z h a k .long n vs dv) {j : Int32} {x : Int64} {i : Nat} (hj : ¬ j < 0 ∧ j < n) (hi : j.toNatClampNeg = i) (hl : i < vs.length) {g : JFrame} (hg : g.method = m) {rest : List Value} (hs : g.stack = .long x :: .int j :: .ref a :: rest) (hd : decode c.code g.pc = .ok (.lastore, 1)) :
    ∃ T' h', Stand p l e R s m args below meth c T' (locs ++ [⟨a, j.toNatClampNeg⟩]) cells slots ∧ T'.heap = h' ∧ Wr h h' a j.toNatClampNeg (.long x) ∧ Arv Z h' a k .long n (vs.set i (.long x)) dv ∧ ∀ target, Steps p.tables e below (T'.setTop { g with pc := g.pc + 1, stack := rest }) target → Steps p.tables e below (T.setTop g) target := by
  obtain ⟨cl, Ar, q, S, N, H, G⟩ := A
  obtain ⟨T', h', X', e', W, st⟩ := stJ X hx hZ eT Ar (inb_of S hj) hg hs hd
  exact ⟨T', h', X', e', W, Arv.set Ar q S N H G rfl W i hi hl, st⟩
theorem own_stB (X : Stand p l e R s m args below meth c T locs cells slots) (hx : p.tables.exec = Jvm.exec) (hZ : Z.Warmed39 s.vm) (eT : T.heap = h) (A : Arv Z h a k .byte n vs dv) {j x : Int32} {i : Nat} (hj : ¬ j < 0 ∧ j < n) (hi : j.toNatClampNeg = i) (hl : i < vs.length) {g : JFrame} (hg : g.method = m) {rest : List Value} (hs : g.stack = .int x :: .int j :: .ref a :: rest) (hd : decode c.code g.pc = .ok (.bastore, 1)) :
    ∃ T' h', Stand p l e R s m args below meth c T' (locs ++ [⟨a, j.toNatClampNeg⟩]) cells slots ∧ T'.heap = h' ∧ Wr h h' a j.toNatClampNeg (.int x.toInt8.toInt32) ∧ Arv Z h' a k .byte n (vs.set i (.int x.toInt8.toInt32)) dv ∧ ∀ target, Steps p.tables e below (T'.setTop { g with pc := g.pc + 1, stack := rest }) target → Steps p.tables e below (T.setTop g) target := by
  obtain ⟨cl, Ar, q, S, N, H, G⟩ := A
  obtain ⟨T', h', X', e', W, st⟩ := stB X hx hZ eT Ar (inb_of S hj) hg hs hd
  exact ⟨T', h', X', e', W, Arv.set Ar q S N H G (fits_nar_byte x) W i hi hl, st⟩
theorem own_stC (X : Stand p l e R s m args below meth c T locs cells slots) (hx : p.tables.exec = Jvm.exec) (hZ : Z.Warmed39 s.vm) (eT : T.heap = h) (A : Arv Z h a k .char n vs dv) {j x : Int32} {i : Nat} (hj : ¬ j < 0 ∧ j < n) (hi : j.toNatClampNeg = i) (hl : i < vs.length) {g : JFrame} (hg : g.method = m) {rest : List Value} (hs : g.stack = .int x :: .int j :: .ref a :: rest) (hd : decode c.code g.pc = .ok (.castore, 1)) :
    ∃ T' h', Stand p l e R s m args below meth c T' (locs ++ [⟨a, j.toNatClampNeg⟩]) cells slots ∧ T'.heap = h' ∧ Wr h h' a j.toNatClampNeg (.int x.toUInt32.toUInt16.toUInt32.toInt32) ∧ Arv Z h' a k .char n (vs.set i (.int x.toUInt32.toUInt16.toUInt32.toInt32)) dv ∧ ∀ target, Steps p.tables e below (T'.setTop { g with pc := g.pc + 1, stack := rest }) target → Steps p.tables e below (T.setTop g) target := by
  obtain ⟨cl, Ar, q, S, N, H, G⟩ := A
  obtain ⟨T', h', X', e', W, st⟩ := stC X hx hZ eT Ar (inb_of S hj) hg hs hd
  exact ⟨T', h', X', e', W, Arv.set Ar q S N H G (fits_nar_char x) W i hi hl, st⟩
theorem own_eqI {t : Term} {q : Int32} (hq : (Jvm.Cond.eq t (.int q)).value args s none s [] = some true) : t.eval args s none [] s = some (.int q) := by
  obtain ⟨x, y, ha, hb, k1, k2⟩ := cmp_v (Or.inl hq)
  rw [Term.int_eval] at hb
  cases hb
  obtain ⟨z, rfl⟩ := k2
  simp [Cond.value, ha, Term.eval] at hq
  rw [ha, hq]
theorem own_eqR {t u : Term} {b : Addr} (hq : (Jvm.Cond.eq t u).value args s none s [] = some true) (hu : u.eval args s none [] s = some (.ref b)) : t.eval args s none [] s = some (.ref b) := by
  obtain ⟨x, y, ha, hb, k1, k2⟩ := cmp_v (Or.inl hq)
  cases hu.symm.trans hb
  have q := gotT (eq_R ha hb k2.2 rfl) hq
  rw [ha, q]
theorem own_lenA {t : Term} {cl : Cell} {q : Int32} (ht : t.eval args s none [] s = some (.ref a)) (A : Arr s s.heap a cl ty) (hq : (Term.length t).eval args s none [] s = some (.int q)) : cl.slots.size < 2 ^ 31 ∧ cl.slots.size.toInt32 = q := by
  have ha := Arr.fin (U := s) (Vm.Alike.refl _) A
  by_cases hl : cl.slots.size < 2 ^ 31
  · rw [len_f ht ha hl] at hq
    exact ⟨hl, Value.int.inj (Option.some.inj hq)⟩
  · simp [Term.eval, ht, ha, hl] at hq
theorem own_ldR (X : Stand p l e R s m args below meth c T locs cells slots) (hx : p.tables.exec = Jvm.exec) (hZ : Z.Warmed39 s.vm) (eT : T.heap = h) (A : Arv Z h a k ty n vs dv) (hr : ty.isReference = true) {j : Int32} {v : Value} (hj : ¬ j < 0 ∧ j < n) (hv : vs.getD j.toNatClampNeg dv = v) {g : JFrame} (hg : g.method = m) {rest : List Value} (hs : g.stack = .int j :: .ref a :: rest) (hd : decode c.code g.pc = .ok (.aaload, 1)) :
    ∀ target, Steps p.tables e below (T.setTop { g with pc := g.pc + 1, stack := v :: rest }) target → Steps p.tables e below (T.setTop g) target := by
  obtain ⟨cl, Ar, -, S, N, H, -⟩ := A
  intro t k
  exact X.aaload hx (by rw [eT]; exact Ar.1) (State.isArrayOf_alike hZ.alike Ar.2.1) hr Ar.2.2 (inb_of S hj) (H.at (inb_of S hj) hv) hg hs hd t k
theorem own_nf {y y' : MethodName} (hc : y'.cls = y.cls) (w : (Jvm.Cond.instanceMethod y).before args s = true) (hn : NotFace s y) : NotFace s y' := fun r0 h0 => by
  obtain ⟨mk, methM, hnamed, -⟩ := Cond.instanceMethod_spec w
  obtain ⟨kr, h1, h2⟩ := hn mk hnamed
  have q1 := findClass_of_methodNamed hnamed
  have q2 := findClass_of_methodNamed h0
  rw [hc] at q2
  have q3 : mk.cls = r0.cls := Option.some.inj (q1.symm.trans q2)
  exact ⟨kr, q3 ▸ h1, h2⟩
theorem own_selp {y : MethodName} (w : (Jvm.Cond.instanceMethod y).before args s = true) (hn : NotFace s y) (hp : s.PrivateAt y) (hy : y.cls ≠ "java/lang/invoke/MethodHandle" ∧ y.cls ≠ "java/lang/invoke/VarHandle") : (Jvm.Cond.selects y.cls y y).before args s = true := by
  obtain ⟨mk, methM, hnamed, -⟩ := Cond.instanceMethod_spec w
  obtain ⟨kr, h1, h2⟩ := hn mk hnamed
  exact selects_self_of_private (findClass_of_methodNamed hnamed) h1 h2 hp w hy
theorem own_same {y : MethodName} (w : (Jvm.Cond.instanceMethod y).before args s = true) (hn : NotFace s y) (hy : y.cls ≠ "java/lang/invoke/MethodHandle" ∧ y.cls ≠ "java/lang/invoke/VarHandle") : (Jvm.Cond.sameMethod y.cls y.cls y.name y.desc).before args s = true := by
  obtain ⟨mk, methM, hnamed, -⟩ := Cond.instanceMethod_spec w
  obtain ⟨kr, h1, h2⟩ := hn mk hnamed
  have q1 := findClass_of_methodNamed hnamed
  have q2 := State.methodFound?_of_named hnamed hy
  have q3 : s.methodNamed? ⟨y.cls, y.name, y.desc⟩ = some mk := hnamed
  simp [Cond.before, Cond.holds, Cond.value, q1, q2, q3, h1, h2]
theorem own_stR (X : Stand p l e R s m args below meth c T locs cells slots) (hx : p.tables.exec = Jvm.exec) (hZ : Z.Warmed39 s.vm) (eT : T.heap = h) (A : Arv Z h a k ty n vs dv) (hr : ty.isReference = true) {j : Int32} {v : Value} {i : Nat} (F : Sto Z h a v) (hf : fits ty v = true) (hj : ¬ j < 0 ∧ j < n) (hi : j.toNatClampNeg = i) (hl : i < vs.length) {g : JFrame} (hg : g.method = m) {rest : List Value} (hs : g.stack = v :: .int j :: .ref a :: rest) (hd : decode c.code g.pc = .ok (.aastore, 1)) :
    ∃ T' h', Stand p l e R s m args below meth c T' (locs ++ [⟨a, j.toNatClampNeg⟩]) cells slots ∧ T'.heap = h' ∧ Wr h h' a j.toNatClampNeg v ∧ Arv Z h' a k ty n (vs.set i v) dv ∧ ∀ target, Steps p.tables e below (T'.setTop { g with pc := g.pc + 1, stack := rest }) target → Steps p.tables e below (T.setTop g) target := by
  obtain ⟨cl, Ar, q, S, N, H, G⟩ := A
  obtain ⟨T', h', X', e', W, st⟩ := stR X hx hZ eT Ar (inb_of S hj) hr F hg hs hd
  exact ⟨T', h', X', e', W, Arv.set Ar q S N H G hf W i hi hl, st⟩
theorem own_stoA {y : Addr} {C : String} {t0 : FieldType} (A : Arv Z h a k t0 n vs dv) (O : OvrA Z k ty C) (I : Ins Z h y C true) : Sto Z h a (.ref y) := by
  obtain ⟨cl, Ar, q, -⟩ := A
  exact Sto.ofVA Ar q O I
theorem own_stoV {y : Addr} {C : String} {t0 : FieldType} (A : Arv Z h a k t0 n vs dv) (O : Ovr Z k C) (I : Ins Z h y C true) : Sto Z h a (.ref y) := by
  obtain ⟨cl, Ar, q, -⟩ := A
  exact Sto.ofV Ar q O I
theorem own_getD_cp (vs vd : List Value) (dv dd : Value) (sp dp nn i : Nat) : ((vd ++ List.replicate (dp + nn) dd).take dp ++ ((List.range nn).map fun i => vs.getD (sp + i) dv) ++ (vd ++ List.replicate (dp + nn) dd).drop (dp + nn)).getD i dd = if dp ≤ i ∧ i < dp + nn then vs.getD (sp + (i - dp)) dv else vd.getD i dd := by
  have hlen : dp ≤ (vd ++ List.replicate (dp + nn) dd).length := by simp; omega
  have hpad := pad_rep vd dd (dp + nn) i
  by_cases h1 : i < dp
  · rw [if_neg (by omega), ← hpad]
    have e1 : ((vd ++ List.replicate (dp + nn) dd).take dp).length = dp := by rw [List.length_take]; omega
    rw [List.getD_eq_getElem?_getD, List.append_assoc, List.getElem?_append_left (by rw [e1]; exact h1), List.getElem?_take, if_pos h1, List.getD_eq_getElem?_getD]
  · by_cases h2 : i < dp + nn
    · rw [if_pos ⟨by omega, h2⟩]
      have e1 : ((vd ++ List.replicate (dp + nn) dd).take dp).length = dp := by rw [List.length_take]; omega
      rw [List.getD_eq_getElem?_getD, List.append_assoc, List.getElem?_append_right (by rw [e1]; omega), e1, List.getElem?_append_left (by simp; omega)]
      simp [show i - dp < nn by omega]
    · rw [if_neg (by omega), ← hpad]
      have e1 : ((vd ++ List.replicate (dp + nn) dd).take dp).length = dp := by rw [List.length_take]; omega
      rw [List.getD_eq_getElem?_getD, List.getElem?_append_right (by rw [List.length_append, e1]; simp; omega), List.getElem?_drop, List.getD_eq_getElem?_getD]
      congr 2
      rw [List.length_append, e1]; simp; omega
theorem own_cp {b : Addr} {a0 : Array Value} (X : Stand p l e R s m args below meth c T locs cells slots) (hx : p.tables.exec = Jvm.exec) (hZ : Z.Warmed39 s.vm) {own : String} {index : Nat} (hown : s.vm.findClass own = some m.cls)
    (w1 : (Cond.methodLink own index Jvm.Stand.acN).before a0 Z = true) (w2 : (Cond.native Jvm.Stand.acN).before a0 Z = true) (w3 : (Cond.static Jvm.Stand.acN).before a0 Z = true) (w4 : (Cond.initialized "java/lang/System").before a0 Z = true) (eT : T.heap = h)
    {k' : ClassId} {z z' sp dp nn : Int32} {vd : List Value} {dd : Value} (A : Arv Z h a k ty z vs dv) (B : Arv Z h b k' ty z' vd dd) (hty : refKind ty = false)
    (h1 : 0 ≤ sp.toInt) (h2 : 0 ≤ dp.toInt) (h3 : 0 ≤ nn.toInt) (h4 : sp.toInt + nn.toInt ≤ z.toInt) (h5 : dp.toInt + nn.toInt ≤ z'.toInt) {n0 : Nat} (N : Fr n0 locs) (ge : n0 ≤ b)
    {g : JFrame} (hg : g.method = m) (hsize : g.locals.size = c.maxLocals) {rest : List Value} (hs : g.stack = .int nn :: .int dp :: .ref b :: .int sp :: .ref a :: rest) (hd : decode c.code g.pc = .ok (.invokestatic index, 3))
    (hf : 1 ≤ R.frames) {W : Nat} (hW : 2 * g.monitorRoom + (rest.map fun v => v.category).sum ≤ W) (hlo : W + 18 ≤ R.locals) :
    ∃ T' h' L vd', Stand p l e R s m args below meth c T' L cells slots ∧ T'.heap = h' ∧ Fr n0 L ∧ Keep h h' [b] ∧ Arv Z h' b k' ty z' vd' dd ∧ (∀ i : Nat, vd'.getD i dd = if dp.toNatClampNeg ≤ i ∧ i < dp.toNatClampNeg + nn.toNatClampNeg then vs.getD (sp.toNatClampNeg + (i - dp.toNatClampNeg)) dv else vd.getD i dd) ∧
      ∀ target, Steps p.tables e below (T'.setTop { g with pc := g.pc + 3, stack := rest }) target → Steps p.tables e below (T.setTop g) target := by
  have e0 : (0 : Int32).toInt = 0 := by decide
  have lt : ∀ {x : Int32}, 0 ≤ x.toInt → ¬ x < 0 := fun q => by rw [Int32.lt_iff_toInt_lt]; omega
  have nz : ¬ z < 0 := lt (by omega)
  have nz' : ¬ z' < 0 := lt (by omega)
  have c1 := nat_of (lt h1); have c2 := nat_of (lt h2); have c3 := nat_of (lt h3); have c4 := nat_of nz; have c5 := nat_of nz'
  obtain ⟨T', h', L, X', e', N', K', V', st⟩ := cpA X hx hZ hown w1 w2 w3 w4 eT A (B.pad (pad_rep vd dd (dp.toNatClampNeg + nn.toNatClampNeg))) (us := _) (Or.inl ⟨rfl, hty⟩) (lt h1) (lt h2) (lt h3) (by omega) (by omega) rfl (by simp) N ge hg hsize hs hd hf hW (by exact hlo)
  exact ⟨T', h', L, _, X', e', N', K', V', fun i => own_getD_cp vs vd dv dd _ _ _ i, st⟩
end Own
end Jvm.RoadKit

namespace Jvm.Pilot.@@N@@
open Jvm Jvm.ClassFile Sem Op Lib Jvm.Free Jvm.Stand Jvm.LawKit Jvm.RoadKit Bundle Jvm.Pilot.@@N@@.Jvm.D
theorem pd_0 : parseMethodDescriptor "(I)Lcom/example/wariant/wariant/lang/Expression$Binary$Operator;" = some ⟨[.int], some (.object "com/example/wariant/wariant/lang/Expression$Binary$Operator")⟩ := by decide +kernel
theorem pd_1 : parseMethodDescriptor "()Z" = some ⟨[], some .boolean⟩ := by decide +kernel

theorem own_op {kk : Int32} {P : Prop} [Decidable P] (h1 : kk = (0 : Int32) ∨ kk = (1 : Int32) → P) (h2 : ¬ (kk = (0 : Int32) ∨ kk = (1 : Int32)) → ¬ P) : (if P then (1 : Int32) else (0 : Int32)) = (if kk = (0 : Int32) then (1 : Int32) else (if kk = (1 : Int32) then (1 : Int32) else (0 : Int32))) := by
  by_cases q : kk = (0 : Int32)
  · rw [if_pos (h1 (Or.inl q)), if_pos q]
  · by_cases r : kk = (1 : Int32)
    · rw [if_pos (h1 (Or.inr r)), if_neg q, if_pos r]
    · rw [if_neg (h2 fun z => z.elim q r), if_neg q, if_neg r]

theorem d2_0 : decode prog_43_method_4_code 0 = .ok (.aload_n 0, 1) := by decide +kernel
theorem d2_1 : decode prog_43_method_4_code 1 = .ok (.getstatic 3, 3) := by decide +kernel
theorem d2_4 : decode prog_43_method_4_code 4 = .ok (.if_acmp .eq 10, 3) := by decide +kernel
theorem d2_7 : decode prog_43_method_4_code 7 = .ok (.aload_n 0, 1) := by decide +kernel
theorem d2_8 : decode prog_43_method_4_code 8 = .ok (.getstatic 7, 3) := by decide +kernel
theorem d2_11 : decode prog_43_method_4_code 11 = .ok (.if_acmp .ne 7, 3) := by decide +kernel
theorem d2_14 : decode prog_43_method_4_code 14 = .ok (.iconst 1, 1) := by decide +kernel
theorem d2_15 : decode prog_43_method_4_code 15 = .ok (.goto 4, 3) := by decide +kernel
theorem d2_18 : decode prog_43_method_4_code 18 = .ok (.iconst 0, 1) := by decide +kernel
theorem d2_19 : decode prog_43_method_4_code 19 = .ok (.ireturn, 1) := by decide +kernel
theorem pn_0 : plainName "com/example/wariant/wariant/lang/Expression$Binary$Operator" = true := by first | (simp [plainName, overriddenIn]; done) | decide +kernel
theorem ef_2_R (m : MethodId) (x0 : Addr) : entryFrame m #[(.ref x0)] 1 = mkF m 0 #[.val (.ref x0)] [] := by first | (simp [entryFrame, mkF, argsToLocals, Value.category]; done) | rfl
def Q_rm2 (Z : State) (x0 : Addr) (a_UNION : Addr) (a_INTERSECTION : Addr) (h0 : Heap) (n0 : Nat) (v : Option Value) (h : Heap) (L : List Loc) : Prop := v = some (.int (if x0 = a_UNION ∨ x0 = a_INTERSECTION then (1 : Int32) else (0 : Int32))) ∧ Fr n0 L ∧ h = h0
set_option maxRecDepth 65536 in
set_option maxHeartbeats 40000000 in
theorem rm2 (l : Launch) (Z : State) (a0 : Array Value) (hw : ∀ d ∈ tables_1, d.before a0 Z = true) (ws : List Jvm.Cond) (x0 : Addr) (a_UNION : Addr) (a_INTERSECTION : Addr) (h0 : Heap) (n0 : Nat) (Z0 : n0 ≤ h0.size) (O0 : Old Z n0 h0) (p_0 : Sta Z Z.heap "com/example/wariant/wariant/lang/Expression$Binary$Operator" "UNION" "Lcom/example/wariant/wariant/lang/Expression$Binary$Operator;" (.ref a_UNION)) (p_1 : Sta Z Z.heap "com/example/wariant/wariant/lang/Expression$Binary$Operator" "INTERSECTION" "Lcom/example/wariant/wariant/lang/Expression$Binary$Operator;" (.ref a_INTERSECTION)) :
    MetFree l (⟨"com/example/wariant/wariant/lang/Expression$Binary$Operator", "joinsAnyNumber", "()Z"⟩ : MethodName) (head1 (Jvm.Cond.code (⟨"com/example/wariant/wariant/lang/Expression$Binary$Operator", "joinsAnyNumber", "()Z"⟩ : MethodName) prog_43_method_4_code 1 (some .boolean) :: ws) ({ frames := 0, cells := 0, slots := 0, locals := 0 } : Room)) (fun a U => a = #[(.ref x0)] ∧ Z.Warmed39 U.vm ∧ U.heap = h0) (fun _ _ _ _ _ => True) (fun _ U o U' => ∃ v L, o = .returned v ∧ Q_rm2 Z x0 a_UNION a_INTERSECTION h0 n0 v U'.heap L ∧ FrameEnd U o U' L ({ frames := 0, cells := 0, slots := 0, locals := 0 } : Room).cells ({ frames := 0, cells := 0, slots := 0, locals := 0 } : Room).slots) := by
  refine MetFree.of_bodySF (plainFor_of_name pn_0) hisR ?_
  intro p e s m args below meth c s₁ Bd hml0 hP hK
  obtain ⟨rfl, hZ, hh⟩ := hP
  have hx := Bd.exec
  have hby := Bd.bytes
  have hml : c.maxLocals = 1 := hml0
  have hown : s.vm.findClass "com/example/wariant/wariant/lang/Expression$Binary$Operator" = some m.cls := findClass_of_methodNamed Bd.named
  have hnm := (name_of_methodNamed Bd.named Bd.method).1
  have X0 : Stand p l e ({ frames := 0, cells := 0, slots := 0, locals := 0 } : Room) s m #[(.ref x0)] below meth c s₁ [] 0 0 := Stand.of_body Bd
  have e0 : s₁.heap = h0 := by rw [← hh, Bd.state]; rfl
  have N0 := Fr.nil n0
  show own_Ends p e below s ({ frames := 0, cells := 0, slots := 0, locals := 0 } : Room).cells ({ frames := 0, cells := 0, slots := 0, locals := 0 } : Room).slots (Q_rm2 Z x0 a_UNION a_INTERSECTION h0 n0) (s₁.setTop (entryFrame m #[(.ref x0)] 1))
  rw [ef_2_R]
  refine own_step (st' := s₁.setTop (mkF m 1 #[.val (.ref x0)] [(.ref x0)])) (fun t k => XS.aloadN X0.here hx rfl (hb hby d2_0) rfl rfl k) ?_
  obtain ⟨T1, X1, e1, st1⟩ := getS2 X0 hx hZ hown (host := "") (Or.inl (hw _ (List.mem_of_getElem? (i := 12) rfl))) Via.refl e0 (p_0.ext O0.2) (g := (mkF m 1 #[.val (.ref x0)] [(.ref x0)])) rfl (hb hby d2_1)
  refine own_step (st' := T1.setTop (mkF m 4 #[.val (.ref x0)] [(.ref a_UNION), (.ref x0)])) st1 ?_
  by_cases hc2 : x0 = a_UNION
  · refine own_step (st' := T1.setTop (mkF m 14 #[.val (.ref x0)] [])) (fun t k => Jvm.RoadKit.acmp (g := (mkF m 4 #[.val (.ref x0)] [(.ref a_UNION), (.ref x0)])) X1 hx rfl rfl rfl (pc0 := 4) (pc' := 14) (same := true) rfl (hb hby d2_4) rfl (decide_eq_true (congrArg Value.ref hc2)) (by decide) (by decide) k) ?_
    refine own_step (st' := T1.setTop (mkF m 15 #[.val (.ref x0)] [(.int (1 : Int32))])) (fun t k => XS.iconst X1.here hx rfl (hb hby d2_14) k) ?_
    refine own_step (st' := T1.setTop (mkF m 19 #[.val (.ref x0)] [(.int (1 : Int32))])) (fun t k => XS.goto X1.here hx rfl (pc0 := 15) (pc' := 19) rfl (hb hby d2_15) (by decide) (by decide) k) ?_
    refine own_ret X1 Bd.notSynchronized (some (.int (1 : Int32))) (fun h => by rw [Bd.returns] at h; cases h) (fun fs hr => retN X1 hx (t := .boolean) Bd.returns (by simp) (hb hby d2_19) hr) ?_ (by decide) (by decide)
    rw [e1]
    exact ⟨(by rw [if_pos (Or.inl hc2)]), N0, rfl⟩
  · refine own_step (st' := T1.setTop (mkF m 7 #[.val (.ref x0)] [])) (fun t k => Jvm.RoadKit.acmp (g := (mkF m 4 #[.val (.ref x0)] [(.ref a_UNION), (.ref x0)])) X1 hx rfl rfl rfl (pc0 := 4) (pc' := 7) (same := false) rfl (hb hby d2_4) rfl (decide_eq_false fun q => hc2 (Value.ref.inj q)) (by decide) (by decide) k) ?_
    refine own_step (st' := T1.setTop (mkF m 8 #[.val (.ref x0)] [(.ref x0)])) (fun t k => XS.aloadN X1.here hx rfl (hb hby d2_7) rfl rfl k) ?_
    obtain ⟨T3, X3, e3, st3⟩ := getS2 X1 hx hZ hown (host := "") (Or.inl (hw _ (List.mem_of_getElem? (i := 15) rfl))) Via.refl e1 (p_1.ext O0.2) (g := (mkF m 8 #[.val (.ref x0)] [(.ref x0)])) rfl (hb hby d2_8)
    refine own_step (st' := T3.setTop (mkF m 11 #[.val (.ref x0)] [(.ref a_INTERSECTION), (.ref x0)])) st3 ?_
    by_cases hc4 : x0 = a_INTERSECTION
    · refine own_step (st' := T3.setTop (mkF m 14 #[.val (.ref x0)] [])) (fun t k => Jvm.RoadKit.acmp (g := (mkF m 11 #[.val (.ref x0)] [(.ref a_INTERSECTION), (.ref x0)])) X3 hx rfl rfl rfl (pc0 := 11) (pc' := 14) (same := true) rfl (hb hby d2_11) rfl (decide_eq_true (congrArg Value.ref hc4)) (by decide) (by decide) k) ?_
      refine own_step (st' := T3.setTop (mkF m 15 #[.val (.ref x0)] [(.int (1 : Int32))])) (fun t k => XS.iconst X3.here hx rfl (hb hby d2_14) k) ?_
      refine own_step (st' := T3.setTop (mkF m 19 #[.val (.ref x0)] [(.int (1 : Int32))])) (fun t k => XS.goto X3.here hx rfl (pc0 := 15) (pc' := 19) rfl (hb hby d2_15) (by decide) (by decide) k) ?_
      refine own_ret X3 Bd.notSynchronized (some (.int (1 : Int32))) (fun h => by rw [Bd.returns] at h; cases h) (fun fs hr => retN X3 hx (t := .boolean) Bd.returns (by simp) (hb hby d2_19) hr) ?_ (by decide) (by decide)
      rw [e3]
      exact ⟨(by rw [if_pos (Or.inr hc4)]), N0, rfl⟩
    · refine own_step (st' := T3.setTop (mkF m 18 #[.val (.ref x0)] [])) (fun t k => Jvm.RoadKit.acmp (g := (mkF m 11 #[.val (.ref x0)] [(.ref a_INTERSECTION), (.ref x0)])) X3 hx rfl rfl rfl (pc0 := 11) (pc' := 18) (same := false) rfl (hb hby d2_11) rfl (decide_eq_false fun q => hc4 (Value.ref.inj q)) (by decide) (by decide) k) ?_
      refine own_step (st' := T3.setTop (mkF m 19 #[.val (.ref x0)] [(.int (0 : Int32))])) (fun t k => XS.iconst X3.here hx rfl (hb hby d2_18) k) ?_
      refine own_ret X3 Bd.notSynchronized (some (.int (0 : Int32))) (fun h => by rw [Bd.returns] at h; cases h) (fun fs hr => retN X3 hx (t := .boolean) Bd.returns (by simp) (hb hby d2_19) hr) ?_ (by decide) (by decide)
      rw [e3]
      exact ⟨(by rw [if_neg (fun q => q.elim hc2 hc4)]), N0, rfl⟩
theorem d1_0 : decode method_2_code 0 = .ok (.iload_n 0, 1) := by decide +kernel
theorem d1_1 : decode method_2_code 1 = .ok (.ifCond .ne 10, 3) := by decide +kernel
theorem d1_4 : decode method_2_code 4 = .ok (.getstatic 7, 3) := by decide +kernel
theorem d1_7 : decode method_2_code 7 = .ok (.astore_n 1, 1) := by decide +kernel
theorem d1_8 : decode method_2_code 8 = .ok (.goto 80, 3) := by decide +kernel
theorem d1_11 : decode method_2_code 11 = .ok (.iload_n 0, 1) := by decide +kernel
theorem d1_12 : decode method_2_code 12 = .ok (.iconst 1, 1) := by decide +kernel
theorem d1_13 : decode method_2_code 13 = .ok (.if_icmp .ne 10, 3) := by decide +kernel
theorem d1_16 : decode method_2_code 16 = .ok (.getstatic 13, 3) := by decide +kernel
theorem d1_19 : decode method_2_code 19 = .ok (.astore_n 1, 1) := by decide +kernel
theorem d1_20 : decode method_2_code 20 = .ok (.goto 68, 3) := by decide +kernel
theorem d1_23 : decode method_2_code 23 = .ok (.iload_n 0, 1) := by decide +kernel
theorem d1_24 : decode method_2_code 24 = .ok (.iconst 2, 1) := by decide +kernel
theorem d1_25 : decode method_2_code 25 = .ok (.if_icmp .ne 10, 3) := by decide +kernel
theorem d1_28 : decode method_2_code 28 = .ok (.getstatic 16, 3) := by decide +kernel
theorem d1_31 : decode method_2_code 31 = .ok (.astore_n 1, 1) := by decide +kernel
theorem d1_32 : decode method_2_code 32 = .ok (.goto 56, 3) := by decide +kernel
theorem d1_35 : decode method_2_code 35 = .ok (.iload_n 0, 1) := by decide +kernel
theorem d1_36 : decode method_2_code 36 = .ok (.iconst 3, 1) := by decide +kernel
theorem d1_37 : decode method_2_code 37 = .ok (.if_icmp .ne 10, 3) := by decide +kernel
theorem d1_40 : decode method_2_code 40 = .ok (.getstatic 19, 3) := by decide +kernel
theorem d1_43 : decode method_2_code 43 = .ok (.astore_n 1, 1) := by decide +kernel
theorem d1_44 : decode method_2_code 44 = .ok (.goto 44, 3) := by decide +kernel
theorem d1_47 : decode method_2_code 47 = .ok (.iload_n 0, 1) := by decide +kernel
theorem d1_48 : decode method_2_code 48 = .ok (.iconst 4, 1) := by decide +kernel
theorem d1_49 : decode method_2_code 49 = .ok (.if_icmp .ne 10, 3) := by decide +kernel
theorem d1_52 : decode method_2_code 52 = .ok (.getstatic 22, 3) := by decide +kernel
theorem d1_55 : decode method_2_code 55 = .ok (.astore_n 1, 1) := by decide +kernel
theorem d1_56 : decode method_2_code 56 = .ok (.goto 32, 3) := by decide +kernel
theorem d1_59 : decode method_2_code 59 = .ok (.iload_n 0, 1) := by decide +kernel
theorem d1_60 : decode method_2_code 60 = .ok (.iconst 5, 1) := by decide +kernel
theorem d1_61 : decode method_2_code 61 = .ok (.if_icmp .ne 10, 3) := by decide +kernel
theorem d1_64 : decode method_2_code 64 = .ok (.getstatic 25, 3) := by decide +kernel
theorem d1_67 : decode method_2_code 67 = .ok (.astore_n 1, 1) := by decide +kernel
theorem d1_68 : decode method_2_code 68 = .ok (.goto 20, 3) := by decide +kernel
theorem d1_71 : decode method_2_code 71 = .ok (.iload_n 0, 1) := by decide +kernel
theorem d1_72 : decode method_2_code 72 = .ok (.bipush 6, 2) := by decide +kernel
theorem d1_74 : decode method_2_code 74 = .ok (.if_icmp .ne 10, 3) := by decide +kernel
theorem d1_77 : decode method_2_code 77 = .ok (.getstatic 28, 3) := by decide +kernel
theorem d1_80 : decode method_2_code 80 = .ok (.astore_n 1, 1) := by decide +kernel
theorem d1_81 : decode method_2_code 81 = .ok (.goto 7, 3) := by decide +kernel
theorem d1_84 : decode method_2_code 84 = .ok (.getstatic 31, 3) := by decide +kernel
theorem d1_87 : decode method_2_code 87 = .ok (.astore_n 1, 1) := by decide +kernel
theorem d1_88 : decode method_2_code 88 = .ok (.aload_n 1, 1) := by decide +kernel
theorem d1_89 : decode method_2_code 89 = .ok (.areturn, 1) := by decide +kernel
theorem pn_1 : plainName "com/example/wariant/wariant/lang/OperatorJoinsAnyNumberPinLaw" = true := by first | (simp [plainName, overriddenIn]; done) | decide +kernel
theorem ef_1_I (m : MethodId) (x0 : Int32) : entryFrame m #[(.int x0)] 2 = mkF m 0 #[.val (.int x0), .unset] [] := by first | (simp [entryFrame, mkF, argsToLocals, Value.category]; done) | rfl
def Q_rm1 (Z : State) (x0 : Int32) (a_UNION : Addr) (a_INTERSECTION : Addr) (a_DIFFERENCE : Addr) (a_OVERRIDE : Addr) (a_JOIN : Addr) (a_PRODUCT : Addr) (a_DOMAIN_RESTRICTION : Addr) (a_RANGE_RESTRICTION : Addr) (h0 : Heap) (n0 : Nat) (v : Option Value) (h : Heap) (L : List Loc) : Prop := ∃ r : Addr, v = some (.ref r) ∧ Fr n0 L ∧ h = h0 ∧ Exa Z Z.heap r "com/example/wariant/wariant/lang/Expression$Binary$Operator" ∧ (x0 = (0 : Int32) ∨ x0 = (1 : Int32) → r = a_UNION ∨ r = a_INTERSECTION) ∧ (¬ (x0 = (0 : Int32) ∨ x0 = (1 : Int32)) → ¬ (r = a_UNION ∨ r = a_INTERSECTION))
set_option maxRecDepth 65536 in
set_option maxHeartbeats 40000000 in
theorem rm1 (l : Launch) (Z : State) (a0 : Array Value) (hw : ∀ d ∈ tables_1, d.before a0 Z = true) (ws : List Jvm.Cond) (x0 : Int32) (a_UNION : Addr) (a_INTERSECTION : Addr) (a_DIFFERENCE : Addr) (a_OVERRIDE : Addr) (a_JOIN : Addr) (a_PRODUCT : Addr) (a_DOMAIN_RESTRICTION : Addr) (a_RANGE_RESTRICTION : Addr) (h0 : Heap) (n0 : Nat) (Z0 : n0 ≤ h0.size) (O0 : Old Z n0 h0) (p_0 : Sta Z Z.heap "com/example/wariant/wariant/lang/Expression$Binary$Operator" "UNION" "Lcom/example/wariant/wariant/lang/Expression$Binary$Operator;" (.ref a_UNION)) (p_1 : Sta Z Z.heap "com/example/wariant/wariant/lang/Expression$Binary$Operator" "INTERSECTION" "Lcom/example/wariant/wariant/lang/Expression$Binary$Operator;" (.ref a_INTERSECTION)) (p_2 : Sta Z Z.heap "com/example/wariant/wariant/lang/Expression$Binary$Operator" "DIFFERENCE" "Lcom/example/wariant/wariant/lang/Expression$Binary$Operator;" (.ref a_DIFFERENCE)) (p_3 : Sta Z Z.heap "com/example/wariant/wariant/lang/Expression$Binary$Operator" "OVERRIDE" "Lcom/example/wariant/wariant/lang/Expression$Binary$Operator;" (.ref a_OVERRIDE)) (p_4 : Sta Z Z.heap "com/example/wariant/wariant/lang/Expression$Binary$Operator" "JOIN" "Lcom/example/wariant/wariant/lang/Expression$Binary$Operator;" (.ref a_JOIN)) (p_5 : Sta Z Z.heap "com/example/wariant/wariant/lang/Expression$Binary$Operator" "PRODUCT" "Lcom/example/wariant/wariant/lang/Expression$Binary$Operator;" (.ref a_PRODUCT)) (p_6 : Sta Z Z.heap "com/example/wariant/wariant/lang/Expression$Binary$Operator" "DOMAIN_RESTRICTION" "Lcom/example/wariant/wariant/lang/Expression$Binary$Operator;" (.ref a_DOMAIN_RESTRICTION)) (p_7 : Sta Z Z.heap "com/example/wariant/wariant/lang/Expression$Binary$Operator" "RANGE_RESTRICTION" "Lcom/example/wariant/wariant/lang/Expression$Binary$Operator;" (.ref a_RANGE_RESTRICTION)) (p_8 : Exa Z Z.heap a_UNION "com/example/wariant/wariant/lang/Expression$Binary$Operator") (p_9 : Exa Z Z.heap a_INTERSECTION "com/example/wariant/wariant/lang/Expression$Binary$Operator") (p_10 : Exa Z Z.heap a_DIFFERENCE "com/example/wariant/wariant/lang/Expression$Binary$Operator") (p_11 : Exa Z Z.heap a_OVERRIDE "com/example/wariant/wariant/lang/Expression$Binary$Operator") (p_12 : Exa Z Z.heap a_JOIN "com/example/wariant/wariant/lang/Expression$Binary$Operator") (p_13 : Exa Z Z.heap a_PRODUCT "com/example/wariant/wariant/lang/Expression$Binary$Operator") (p_14 : Exa Z Z.heap a_DOMAIN_RESTRICTION "com/example/wariant/wariant/lang/Expression$Binary$Operator") (p_15 : Exa Z Z.heap a_RANGE_RESTRICTION "com/example/wariant/wariant/lang/Expression$Binary$Operator") (p_16 : a_DIFFERENCE ≠ a_UNION) (p_17 : a_DIFFERENCE ≠ a_INTERSECTION) (p_18 : a_OVERRIDE ≠ a_UNION) (p_19 : a_OVERRIDE ≠ a_INTERSECTION) (p_20 : a_JOIN ≠ a_UNION) (p_21 : a_JOIN ≠ a_INTERSECTION) (p_22 : a_PRODUCT ≠ a_UNION) (p_23 : a_PRODUCT ≠ a_INTERSECTION) (p_24 : a_DOMAIN_RESTRICTION ≠ a_UNION) (p_25 : a_DOMAIN_RESTRICTION ≠ a_INTERSECTION) (p_26 : a_RANGE_RESTRICTION ≠ a_UNION) (p_27 : a_RANGE_RESTRICTION ≠ a_INTERSECTION) :
    MetFree l (⟨"com/example/wariant/wariant/lang/OperatorJoinsAnyNumberPinLaw", "pick", "(I)Lcom/example/wariant/wariant/lang/Expression$Binary$Operator;"⟩ : MethodName) (head1 (Jvm.Cond.code (⟨"com/example/wariant/wariant/lang/OperatorJoinsAnyNumberPinLaw", "pick", "(I)Lcom/example/wariant/wariant/lang/Expression$Binary$Operator;"⟩ : MethodName) method_2_code 2 (some (.object "com/example/wariant/wariant/lang/Expression$Binary$Operator")) :: ws) ({ frames := 0, cells := 0, slots := 0, locals := 0 } : Room)) (fun a U => a = #[(.int x0)] ∧ Z.Warmed39 U.vm ∧ U.heap = h0) (fun _ _ _ _ _ => True) (fun _ U o U' => ∃ v L, o = .returned v ∧ Q_rm1 Z x0 a_UNION a_INTERSECTION a_DIFFERENCE a_OVERRIDE a_JOIN a_PRODUCT a_DOMAIN_RESTRICTION a_RANGE_RESTRICTION h0 n0 v U'.heap L ∧ FrameEnd U o U' L ({ frames := 0, cells := 0, slots := 0, locals := 0 } : Room).cells ({ frames := 0, cells := 0, slots := 0, locals := 0 } : Room).slots) := by
  refine MetFree.of_bodySF (plainFor_of_name pn_1) hisR ?_
  intro p e s m args below meth c s₁ Bd hml0 hP hK
  obtain ⟨rfl, hZ, hh⟩ := hP
  have hx := Bd.exec
  have hby := Bd.bytes
  have hml : c.maxLocals = 2 := hml0
  have hown : s.vm.findClass "com/example/wariant/wariant/lang/OperatorJoinsAnyNumberPinLaw" = some m.cls := findClass_of_methodNamed Bd.named
  have hnm := (name_of_methodNamed Bd.named Bd.method).1
  have X0 : Stand p l e ({ frames := 0, cells := 0, slots := 0, locals := 0 } : Room) s m #[(.int x0)] below meth c s₁ [] 0 0 := Stand.of_body Bd
  have e0 : s₁.heap = h0 := by rw [← hh, Bd.state]; rfl
  have N0 := Fr.nil n0
  show own_Ends p e below s ({ frames := 0, cells := 0, slots := 0, locals := 0 } : Room).cells ({ frames := 0, cells := 0, slots := 0, locals := 0 } : Room).slots (Q_rm1 Z x0 a_UNION a_INTERSECTION a_DIFFERENCE a_OVERRIDE a_JOIN a_PRODUCT a_DOMAIN_RESTRICTION a_RANGE_RESTRICTION h0 n0) (s₁.setTop (entryFrame m #[(.int x0)] 2))
  rw [ef_1_I]
  refine own_step (st' := s₁.setTop (mkF m 1 #[.val (.int x0), .unset] [(.int x0)])) (fun t k => XS.iloadN X0.here hx rfl (hb hby d1_0) rfl k) ?_
  by_cases hc1 : x0 = (0 : Int32)
  · refine own_step (st' := s₁.setTop (mkF m 4 #[.val (.int x0), .unset] [])) (fun t k => XS.ifNo X0.here hx rfl (hb hby d1_1) rfl ((if0 _ _).trans (teq hc1).2) k) ?_
    obtain ⟨T2, X2, e2, st2⟩ := getS2 X0 hx hZ hown (host := "") (Or.inl (hw _ (List.mem_of_getElem? (i := 4) rfl))) Via.refl e0 (p_0.ext O0.2) (g := (mkF m 4 #[.val (.int x0), .unset] [])) rfl (hb hby d1_4)
    refine own_step (st' := T2.setTop (mkF m 7 #[.val (.int x0), .unset] [(.ref a_UNION)])) st2 ?_
    refine own_step (st' := T2.setTop (mkF m 8 #[.val (.int x0), .val (.ref a_UNION)] [])) (fun t k => XS.astoreN X2.here hx rfl (hb hby d1_7) rfl rfl (l' := #[.val (.int x0), .val (.ref a_UNION)]) rfl k) ?_
    refine own_step (st' := T2.setTop (mkF m 88 #[.val (.int x0), .val (.ref a_UNION)] [])) (fun t k => XS.goto X2.here hx rfl (pc0 := 8) (pc' := 88) rfl (hb hby d1_8) (by decide) (by decide) k) ?_
    refine own_step (st' := T2.setTop (mkF m 89 #[.val (.int x0), .val (.ref a_UNION)] [(.ref a_UNION)])) (fun t k => XS.aloadN X2.here hx rfl (hb hby d1_88) rfl rfl k) ?_
    refine own_ret X2 Bd.notSynchronized (some (.ref a_UNION)) (fun h => by rw [Bd.returns] at h; cases h) (fun fs hr => retOut X2 hx Bd.returns rfl (Or.inr (Or.inr (Or.inr (Or.inr ⟨rfl, rfl, rfl⟩)))) (hb hby d1_89) hr) ?_ (by decide) (by decide)
    rw [e2]
    exact ⟨a_UNION, rfl, N0, rfl, p_8, (fun _ => Or.inl rfl), (fun q => absurd (Or.inl hc1) q)⟩
  · refine own_step (st' := s₁.setTop (mkF m 11 #[.val (.int x0), .unset] [])) (fun t k => XS.ifYes X0.here hx rfl (pc0 := 1) (pc' := 11) rfl (hb hby d1_1) rfl ((if0 _ _).trans (feq hc1).2) (by decide) (by decide) k) ?_
    refine own_step (st' := s₁.setTop (mkF m 12 #[.val (.int x0), .unset] [(.int x0)])) (fun t k => XS.iloadN X0.here hx rfl (hb hby d1_11) rfl k) ?_
    refine own_step (st' := s₁.setTop (mkF m 13 #[.val (.int x0), .unset] [(.int (1 : Int32)), (.int x0)])) (fun t k => XS.iconst X0.here hx rfl (hb hby d1_12) k) ?_
    by_cases hc3 : x0 = (1 : Int32)
    · refine own_step (st' := s₁.setTop (mkF m 16 #[.val (.int x0), .unset] [])) (fun t k => XS.icmpNo X0.here hx rfl (hb hby d1_13) rfl (teq hc3).2 k) ?_
      obtain ⟨T4, X4, e4, st4⟩ := getS2 X0 hx hZ hown (host := "") (Or.inl (hw _ (List.mem_of_getElem? (i := 23) rfl))) Via.refl e0 (p_1.ext O0.2) (g := (mkF m 16 #[.val (.int x0), .unset] [])) rfl (hb hby d1_16)
      refine own_step (st' := T4.setTop (mkF m 19 #[.val (.int x0), .unset] [(.ref a_INTERSECTION)])) st4 ?_
      refine own_step (st' := T4.setTop (mkF m 20 #[.val (.int x0), .val (.ref a_INTERSECTION)] [])) (fun t k => XS.astoreN X4.here hx rfl (hb hby d1_19) rfl rfl (l' := #[.val (.int x0), .val (.ref a_INTERSECTION)]) rfl k) ?_
      refine own_step (st' := T4.setTop (mkF m 88 #[.val (.int x0), .val (.ref a_INTERSECTION)] [])) (fun t k => XS.goto X4.here hx rfl (pc0 := 20) (pc' := 88) rfl (hb hby d1_20) (by decide) (by decide) k) ?_
      refine own_step (st' := T4.setTop (mkF m 89 #[.val (.int x0), .val (.ref a_INTERSECTION)] [(.ref a_INTERSECTION)])) (fun t k => XS.aloadN X4.here hx rfl (hb hby d1_88) rfl rfl k) ?_
      refine own_ret X4 Bd.notSynchronized (some (.ref a_INTERSECTION)) (fun h => by rw [Bd.returns] at h; cases h) (fun fs hr => retOut X4 hx Bd.returns rfl (Or.inr (Or.inr (Or.inr (Or.inr ⟨rfl, rfl, rfl⟩)))) (hb hby d1_89) hr) ?_ (by decide) (by decide)
      rw [e4]
      exact ⟨a_INTERSECTION, rfl, N0, rfl, p_9, (fun _ => Or.inr rfl), (fun q => absurd (Or.inr hc3) q)⟩
    · refine own_step (st' := s₁.setTop (mkF m 23 #[.val (.int x0), .unset] [])) (fun t k => XS.icmpYes X0.here hx rfl (pc0 := 13) (pc' := 23) rfl (hb hby d1_13) rfl (feq hc3).2 (by decide) (by decide) k) ?_
      refine own_step (st' := s₁.setTop (mkF m 24 #[.val (.int x0), .unset] [(.int x0)])) (fun t k => XS.iloadN X0.here hx rfl (hb hby d1_23) rfl k) ?_
      refine own_step (st' := s₁.setTop (mkF m 25 #[.val (.int x0), .unset] [(.int (2 : Int32)), (.int x0)])) (fun t k => XS.iconst X0.here hx rfl (hb hby d1_24) k) ?_
      by_cases hc5 : x0 = (2 : Int32)
      · refine own_step (st' := s₁.setTop (mkF m 28 #[.val (.int x0), .unset] [])) (fun t k => XS.icmpNo X0.here hx rfl (hb hby d1_25) rfl (teq hc5).2 k) ?_
        obtain ⟨T6, X6, e6, st6⟩ := getS2 X0 hx hZ hown (host := "") (Or.inl (hw _ (List.mem_of_getElem? (i := 21) rfl))) Via.refl e0 (p_2.ext O0.2) (g := (mkF m 28 #[.val (.int x0), .unset] [])) rfl (hb hby d1_28)
        refine own_step (st' := T6.setTop (mkF m 31 #[.val (.int x0), .unset] [(.ref a_DIFFERENCE)])) st6 ?_
        refine own_step (st' := T6.setTop (mkF m 32 #[.val (.int x0), .val (.ref a_DIFFERENCE)] [])) (fun t k => XS.astoreN X6.here hx rfl (hb hby d1_31) rfl rfl (l' := #[.val (.int x0), .val (.ref a_DIFFERENCE)]) rfl k) ?_
        refine own_step (st' := T6.setTop (mkF m 88 #[.val (.int x0), .val (.ref a_DIFFERENCE)] [])) (fun t k => XS.goto X6.here hx rfl (pc0 := 32) (pc' := 88) rfl (hb hby d1_32) (by decide) (by decide) k) ?_
        refine own_step (st' := T6.setTop (mkF m 89 #[.val (.int x0), .val (.ref a_DIFFERENCE)] [(.ref a_DIFFERENCE)])) (fun t k => XS.aloadN X6.here hx rfl (hb hby d1_88) rfl rfl k) ?_
        refine own_ret X6 Bd.notSynchronized (some (.ref a_DIFFERENCE)) (fun h => by rw [Bd.returns] at h; cases h) (fun fs hr => retOut X6 hx Bd.returns rfl (Or.inr (Or.inr (Or.inr (Or.inr ⟨rfl, rfl, rfl⟩)))) (hb hby d1_89) hr) ?_ (by decide) (by decide)
        rw [e6]
        exact ⟨a_DIFFERENCE, rfl, N0, rfl, p_10, (fun q => absurd q (fun q => q.elim hc1 hc3)), (fun _ q => q.elim p_16 p_17)⟩
      · refine own_step (st' := s₁.setTop (mkF m 35 #[.val (.int x0), .unset] [])) (fun t k => XS.icmpYes X0.here hx rfl (pc0 := 25) (pc' := 35) rfl (hb hby d1_25) rfl (feq hc5).2 (by decide) (by decide) k) ?_
        refine own_step (st' := s₁.setTop (mkF m 36 #[.val (.int x0), .unset] [(.int x0)])) (fun t k => XS.iloadN X0.here hx rfl (hb hby d1_35) rfl k) ?_
        refine own_step (st' := s₁.setTop (mkF m 37 #[.val (.int x0), .unset] [(.int (3 : Int32)), (.int x0)])) (fun t k => XS.iconst X0.here hx rfl (hb hby d1_36) k) ?_
        by_cases hc7 : x0 = (3 : Int32)
        · refine own_step (st' := s₁.setTop (mkF m 40 #[.val (.int x0), .unset] [])) (fun t k => XS.icmpNo X0.here hx rfl (hb hby d1_37) rfl (teq hc7).2 k) ?_
          obtain ⟨T8, X8, e8, st8⟩ := getS2 X0 hx hZ hown (host := "") (Or.inl (hw _ (List.mem_of_getElem? (i := 13) rfl))) Via.refl e0 (p_3.ext O0.2) (g := (mkF m 40 #[.val (.int x0), .unset] [])) rfl (hb hby d1_40)
          refine own_step (st' := T8.setTop (mkF m 43 #[.val (.int x0), .unset] [(.ref a_OVERRIDE)])) st8 ?_
          refine own_step (st' := T8.setTop (mkF m 44 #[.val (.int x0), .val (.ref a_OVERRIDE)] [])) (fun t k => XS.astoreN X8.here hx rfl (hb hby d1_43) rfl rfl (l' := #[.val (.int x0), .val (.ref a_OVERRIDE)]) rfl k) ?_
          refine own_step (st' := T8.setTop (mkF m 88 #[.val (.int x0), .val (.ref a_OVERRIDE)] [])) (fun t k => XS.goto X8.here hx rfl (pc0 := 44) (pc' := 88) rfl (hb hby d1_44) (by decide) (by decide) k) ?_
          refine own_step (st' := T8.setTop (mkF m 89 #[.val (.int x0), .val (.ref a_OVERRIDE)] [(.ref a_OVERRIDE)])) (fun t k => XS.aloadN X8.here hx rfl (hb hby d1_88) rfl rfl k) ?_
          refine own_ret X8 Bd.notSynchronized (some (.ref a_OVERRIDE)) (fun h => by rw [Bd.returns] at h; cases h) (fun fs hr => retOut X8 hx Bd.returns rfl (Or.inr (Or.inr (Or.inr (Or.inr ⟨rfl, rfl, rfl⟩)))) (hb hby d1_89) hr) ?_ (by decide) (by decide)
          rw [e8]
          exact ⟨a_OVERRIDE, rfl, N0, rfl, p_11, (fun q => absurd q (fun q => q.elim hc1 hc3)), (fun _ q => q.elim p_18 p_19)⟩
        · refine own_step (st' := s₁.setTop (mkF m 47 #[.val (.int x0), .unset] [])) (fun t k => XS.icmpYes X0.here hx rfl (pc0 := 37) (pc' := 47) rfl (hb hby d1_37) rfl (feq hc7).2 (by decide) (by decide) k) ?_
          refine own_step (st' := s₁.setTop (mkF m 48 #[.val (.int x0), .unset] [(.int x0)])) (fun t k => XS.iloadN X0.here hx rfl (hb hby d1_47) rfl k) ?_
          refine own_step (st' := s₁.setTop (mkF m 49 #[.val (.int x0), .unset] [(.int (4 : Int32)), (.int x0)])) (fun t k => XS.iconst X0.here hx rfl (hb hby d1_48) k) ?_
          by_cases hc9 : x0 = (4 : Int32)
          · refine own_step (st' := s₁.setTop (mkF m 52 #[.val (.int x0), .unset] [])) (fun t k => XS.icmpNo X0.here hx rfl (hb hby d1_49) rfl (teq hc9).2 k) ?_
            obtain ⟨T10, X10, e10, st10⟩ := getS2 X0 hx hZ hown (host := "") (Or.inl (hw _ (List.mem_of_getElem? (i := 24) rfl))) Via.refl e0 (p_4.ext O0.2) (g := (mkF m 52 #[.val (.int x0), .unset] [])) rfl (hb hby d1_52)
            refine own_step (st' := T10.setTop (mkF m 55 #[.val (.int x0), .unset] [(.ref a_JOIN)])) st10 ?_
            refine own_step (st' := T10.setTop (mkF m 56 #[.val (.int x0), .val (.ref a_JOIN)] [])) (fun t k => XS.astoreN X10.here hx rfl (hb hby d1_55) rfl rfl (l' := #[.val (.int x0), .val (.ref a_JOIN)]) rfl k) ?_
            refine own_step (st' := T10.setTop (mkF m 88 #[.val (.int x0), .val (.ref a_JOIN)] [])) (fun t k => XS.goto X10.here hx rfl (pc0 := 56) (pc' := 88) rfl (hb hby d1_56) (by decide) (by decide) k) ?_
            refine own_step (st' := T10.setTop (mkF m 89 #[.val (.int x0), .val (.ref a_JOIN)] [(.ref a_JOIN)])) (fun t k => XS.aloadN X10.here hx rfl (hb hby d1_88) rfl rfl k) ?_
            refine own_ret X10 Bd.notSynchronized (some (.ref a_JOIN)) (fun h => by rw [Bd.returns] at h; cases h) (fun fs hr => retOut X10 hx Bd.returns rfl (Or.inr (Or.inr (Or.inr (Or.inr ⟨rfl, rfl, rfl⟩)))) (hb hby d1_89) hr) ?_ (by decide) (by decide)
            rw [e10]
            exact ⟨a_JOIN, rfl, N0, rfl, p_12, (fun q => absurd q (fun q => q.elim hc1 hc3)), (fun _ q => q.elim p_20 p_21)⟩
          · refine own_step (st' := s₁.setTop (mkF m 59 #[.val (.int x0), .unset] [])) (fun t k => XS.icmpYes X0.here hx rfl (pc0 := 49) (pc' := 59) rfl (hb hby d1_49) rfl (feq hc9).2 (by decide) (by decide) k) ?_
            refine own_step (st' := s₁.setTop (mkF m 60 #[.val (.int x0), .unset] [(.int x0)])) (fun t k => XS.iloadN X0.here hx rfl (hb hby d1_59) rfl k) ?_
            refine own_step (st' := s₁.setTop (mkF m 61 #[.val (.int x0), .unset] [(.int (5 : Int32)), (.int x0)])) (fun t k => XS.iconst X0.here hx rfl (hb hby d1_60) k) ?_
            by_cases hc11 : x0 = (5 : Int32)
            · refine own_step (st' := s₁.setTop (mkF m 64 #[.val (.int x0), .unset] [])) (fun t k => XS.icmpNo X0.here hx rfl (hb hby d1_61) rfl (teq hc11).2 k) ?_
              obtain ⟨T12, X12, e12, st12⟩ := getS2 X0 hx hZ hown (host := "") (Or.inl (hw _ (List.mem_of_getElem? (i := 26) rfl))) Via.refl e0 (p_5.ext O0.2) (g := (mkF m 64 #[.val (.int x0), .unset] [])) rfl (hb hby d1_64)
              refine own_step (st' := T12.setTop (mkF m 67 #[.val (.int x0), .unset] [(.ref a_PRODUCT)])) st12 ?_
              refine own_step (st' := T12.setTop (mkF m 68 #[.val (.int x0), .val (.ref a_PRODUCT)] [])) (fun t k => XS.astoreN X12.here hx rfl (hb hby d1_67) rfl rfl (l' := #[.val (.int x0), .val (.ref a_PRODUCT)]) rfl k) ?_
              refine own_step (st' := T12.setTop (mkF m 88 #[.val (.int x0), .val (.ref a_PRODUCT)] [])) (fun t k => XS.goto X12.here hx rfl (pc0 := 68) (pc' := 88) rfl (hb hby d1_68) (by decide) (by decide) k) ?_
              refine own_step (st' := T12.setTop (mkF m 89 #[.val (.int x0), .val (.ref a_PRODUCT)] [(.ref a_PRODUCT)])) (fun t k => XS.aloadN X12.here hx rfl (hb hby d1_88) rfl rfl k) ?_
              refine own_ret X12 Bd.notSynchronized (some (.ref a_PRODUCT)) (fun h => by rw [Bd.returns] at h; cases h) (fun fs hr => retOut X12 hx Bd.returns rfl (Or.inr (Or.inr (Or.inr (Or.inr ⟨rfl, rfl, rfl⟩)))) (hb hby d1_89) hr) ?_ (by decide) (by decide)
              rw [e12]
              exact ⟨a_PRODUCT, rfl, N0, rfl, p_13, (fun q => absurd q (fun q => q.elim hc1 hc3)), (fun _ q => q.elim p_22 p_23)⟩
            · refine own_step (st' := s₁.setTop (mkF m 71 #[.val (.int x0), .unset] [])) (fun t k => XS.icmpYes X0.here hx rfl (pc0 := 61) (pc' := 71) rfl (hb hby d1_61) rfl (feq hc11).2 (by decide) (by decide) k) ?_
              refine own_step (st' := s₁.setTop (mkF m 72 #[.val (.int x0), .unset] [(.int x0)])) (fun t k => XS.iloadN X0.here hx rfl (hb hby d1_71) rfl k) ?_
              refine own_step (st' := s₁.setTop (mkF m 74 #[.val (.int x0), .unset] [(.int (6 : Int32)), (.int x0)])) (fun t k => XS.bipush X0.here hx rfl (hb hby d1_72) k) ?_
              by_cases hc13 : x0 = (6 : Int32)
              · refine own_step (st' := s₁.setTop (mkF m 77 #[.val (.int x0), .unset] [])) (fun t k => XS.icmpNo X0.here hx rfl (hb hby d1_74) rfl (teq hc13).2 k) ?_
                obtain ⟨T14, X14, e14, st14⟩ := getS2 X0 hx hZ hown (host := "") (Or.inl (hw _ (List.mem_of_getElem? (i := 17) rfl))) Via.refl e0 (p_6.ext O0.2) (g := (mkF m 77 #[.val (.int x0), .unset] [])) rfl (hb hby d1_77)
                refine own_step (st' := T14.setTop (mkF m 80 #[.val (.int x0), .unset] [(.ref a_DOMAIN_RESTRICTION)])) st14 ?_
                refine own_step (st' := T14.setTop (mkF m 81 #[.val (.int x0), .val (.ref a_DOMAIN_RESTRICTION)] [])) (fun t k => XS.astoreN X14.here hx rfl (hb hby d1_80) rfl rfl (l' := #[.val (.int x0), .val (.ref a_DOMAIN_RESTRICTION)]) rfl k) ?_
                refine own_step (st' := T14.setTop (mkF m 88 #[.val (.int x0), .val (.ref a_DOMAIN_RESTRICTION)] [])) (fun t k => XS.goto X14.here hx rfl (pc0 := 81) (pc' := 88) rfl (hb hby d1_81) (by decide) (by decide) k) ?_
                refine own_step (st' := T14.setTop (mkF m 89 #[.val (.int x0), .val (.ref a_DOMAIN_RESTRICTION)] [(.ref a_DOMAIN_RESTRICTION)])) (fun t k => XS.aloadN X14.here hx rfl (hb hby d1_88) rfl rfl k) ?_
                refine own_ret X14 Bd.notSynchronized (some (.ref a_DOMAIN_RESTRICTION)) (fun h => by rw [Bd.returns] at h; cases h) (fun fs hr => retOut X14 hx Bd.returns rfl (Or.inr (Or.inr (Or.inr (Or.inr ⟨rfl, rfl, rfl⟩)))) (hb hby d1_89) hr) ?_ (by decide) (by decide)
                rw [e14]
                exact ⟨a_DOMAIN_RESTRICTION, rfl, N0, rfl, p_14, (fun q => absurd q (fun q => q.elim hc1 hc3)), (fun _ q => q.elim p_24 p_25)⟩
              · refine own_step (st' := s₁.setTop (mkF m 84 #[.val (.int x0), .unset] [])) (fun t k => XS.icmpYes X0.here hx rfl (pc0 := 74) (pc' := 84) rfl (hb hby d1_74) rfl (feq hc13).2 (by decide) (by decide) k) ?_
                obtain ⟨T15, X15, e15, st15⟩ := getS2 X0 hx hZ hown (host := "") (Or.inl (hw _ (List.mem_of_getElem? (i := 19) rfl))) Via.refl e0 (p_7.ext O0.2) (g := (mkF m 84 #[.val (.int x0), .unset] [])) rfl (hb hby d1_84)
                refine own_step (st' := T15.setTop (mkF m 87 #[.val (.int x0), .unset] [(.ref a_RANGE_RESTRICTION)])) st15 ?_
                refine own_step (st' := T15.setTop (mkF m 88 #[.val (.int x0), .val (.ref a_RANGE_RESTRICTION)] [])) (fun t k => XS.astoreN X15.here hx rfl (hb hby d1_87) rfl rfl (l' := #[.val (.int x0), .val (.ref a_RANGE_RESTRICTION)]) rfl k) ?_
                refine own_step (st' := T15.setTop (mkF m 89 #[.val (.int x0), .val (.ref a_RANGE_RESTRICTION)] [(.ref a_RANGE_RESTRICTION)])) (fun t k => XS.aloadN X15.here hx rfl (hb hby d1_88) rfl rfl k) ?_
                refine own_ret X15 Bd.notSynchronized (some (.ref a_RANGE_RESTRICTION)) (fun h => by rw [Bd.returns] at h; cases h) (fun fs hr => retOut X15 hx Bd.returns rfl (Or.inr (Or.inr (Or.inr (Or.inr ⟨rfl, rfl, rfl⟩)))) (hb hby d1_89) hr) ?_ (by decide) (by decide)
                rw [e15]
                exact ⟨a_RANGE_RESTRICTION, rfl, N0, rfl, p_15, (fun q => absurd q (fun q => q.elim hc1 hc3)), (fun _ q => q.elim p_26 p_27)⟩
theorem ef_0_I (m : MethodId) (x0 : Int32) : entryFrame m #[(.int x0)] maxLocals = mkF m 0 #[.val (.int x0), .unset, .unset, .unset] [] := by first | (simp [entryFrame, mkF, argsToLocals, Value.category, maxLocals]; done) | rfl
def Q_rm0 (Z : State) (x0 : Int32) (a_UNION : Addr) (a_INTERSECTION : Addr) (a_DIFFERENCE : Addr) (a_OVERRIDE : Addr) (a_JOIN : Addr) (a_PRODUCT : Addr) (a_DOMAIN_RESTRICTION : Addr) (a_RANGE_RESTRICTION : Addr) (h0 : Heap) (n0 : Nat) (v : Option Value) (h : Heap) (L : List Loc) : Prop := v = some (.int (1 : Int32)) ∧ Fr n0 L
set_option maxRecDepth 65536 in
set_option maxHeartbeats 40000000 in
theorem rm0 (l : Launch) (Z : State) (a0 : Array Value) (hw : ∀ d ∈ tables_1, d.before a0 Z = true) (ws : List Jvm.Cond) (x0 : Int32) (a_UNION : Addr) (a_INTERSECTION : Addr) (a_DIFFERENCE : Addr) (a_OVERRIDE : Addr) (a_JOIN : Addr) (a_PRODUCT : Addr) (a_DOMAIN_RESTRICTION : Addr) (a_RANGE_RESTRICTION : Addr) (h0 : Heap) (n0 : Nat) (Z0 : n0 ≤ h0.size) (O0 : Old Z n0 h0) (p_0 : Sta Z Z.heap "com/example/wariant/wariant/lang/Expression$Binary$Operator" "UNION" "Lcom/example/wariant/wariant/lang/Expression$Binary$Operator;" (.ref a_UNION)) (p_1 : Sta Z Z.heap "com/example/wariant/wariant/lang/Expression$Binary$Operator" "INTERSECTION" "Lcom/example/wariant/wariant/lang/Expression$Binary$Operator;" (.ref a_INTERSECTION)) (p_2 : Sta Z Z.heap "com/example/wariant/wariant/lang/Expression$Binary$Operator" "DIFFERENCE" "Lcom/example/wariant/wariant/lang/Expression$Binary$Operator;" (.ref a_DIFFERENCE)) (p_3 : Sta Z Z.heap "com/example/wariant/wariant/lang/Expression$Binary$Operator" "OVERRIDE" "Lcom/example/wariant/wariant/lang/Expression$Binary$Operator;" (.ref a_OVERRIDE)) (p_4 : Sta Z Z.heap "com/example/wariant/wariant/lang/Expression$Binary$Operator" "JOIN" "Lcom/example/wariant/wariant/lang/Expression$Binary$Operator;" (.ref a_JOIN)) (p_5 : Sta Z Z.heap "com/example/wariant/wariant/lang/Expression$Binary$Operator" "PRODUCT" "Lcom/example/wariant/wariant/lang/Expression$Binary$Operator;" (.ref a_PRODUCT)) (p_6 : Sta Z Z.heap "com/example/wariant/wariant/lang/Expression$Binary$Operator" "DOMAIN_RESTRICTION" "Lcom/example/wariant/wariant/lang/Expression$Binary$Operator;" (.ref a_DOMAIN_RESTRICTION)) (p_7 : Sta Z Z.heap "com/example/wariant/wariant/lang/Expression$Binary$Operator" "RANGE_RESTRICTION" "Lcom/example/wariant/wariant/lang/Expression$Binary$Operator;" (.ref a_RANGE_RESTRICTION)) (p_8 : Exa Z Z.heap a_UNION "com/example/wariant/wariant/lang/Expression$Binary$Operator") (p_9 : Exa Z Z.heap a_INTERSECTION "com/example/wariant/wariant/lang/Expression$Binary$Operator") (p_10 : Exa Z Z.heap a_DIFFERENCE "com/example/wariant/wariant/lang/Expression$Binary$Operator") (p_11 : Exa Z Z.heap a_OVERRIDE "com/example/wariant/wariant/lang/Expression$Binary$Operator") (p_12 : Exa Z Z.heap a_JOIN "com/example/wariant/wariant/lang/Expression$Binary$Operator") (p_13 : Exa Z Z.heap a_PRODUCT "com/example/wariant/wariant/lang/Expression$Binary$Operator") (p_14 : Exa Z Z.heap a_DOMAIN_RESTRICTION "com/example/wariant/wariant/lang/Expression$Binary$Operator") (p_15 : Exa Z Z.heap a_RANGE_RESTRICTION "com/example/wariant/wariant/lang/Expression$Binary$Operator") (p_16 : a_DIFFERENCE ≠ a_UNION) (p_17 : a_DIFFERENCE ≠ a_INTERSECTION) (p_18 : a_OVERRIDE ≠ a_UNION) (p_19 : a_OVERRIDE ≠ a_INTERSECTION) (p_20 : a_JOIN ≠ a_UNION) (p_21 : a_JOIN ≠ a_INTERSECTION) (p_22 : a_PRODUCT ≠ a_UNION) (p_23 : a_PRODUCT ≠ a_INTERSECTION) (p_24 : a_DOMAIN_RESTRICTION ≠ a_UNION) (p_25 : a_DOMAIN_RESTRICTION ≠ a_INTERSECTION) (p_26 : a_RANGE_RESTRICTION ≠ a_UNION) (p_27 : a_RANGE_RESTRICTION ≠ a_INTERSECTION) :
    MetFree l x (head1 (Jvm.Cond.code x code maxLocals ret :: ws) room_1) (fun a U => a = #[(.int x0)] ∧ Z.Warmed39 U.vm ∧ U.heap = h0) (fun _ _ _ _ _ => True) (fun _ U o U' => ∃ v L, o = .returned v ∧ Q_rm0 Z x0 a_UNION a_INTERSECTION a_DIFFERENCE a_OVERRIDE a_JOIN a_PRODUCT a_DOMAIN_RESTRICTION a_RANGE_RESTRICTION h0 n0 v U'.heap L ∧ FrameEnd U o U' L room_1.cells room_1.slots) := by
  refine MetFree.of_bodySF (plainFor_of_name pn_1) hisR ?_
  intro p e s m args below meth c s₁ Bd hml0 hP hK
  obtain ⟨rfl, hZ, hh⟩ := hP
  have hx := Bd.exec
  have hby := Bd.bytes
  have hml : c.maxLocals = 4 := hml0
  have hown : s.vm.findClass "com/example/wariant/wariant/lang/OperatorJoinsAnyNumberPinLaw" = some m.cls := findClass_of_methodNamed Bd.named
  have hnm := (name_of_methodNamed Bd.named Bd.method).1
  have X0 : Stand p l e room_1 s m #[(.int x0)] below meth c s₁ [] 0 0 := Stand.of_body Bd
  have e0 : s₁.heap = h0 := by rw [← hh, Bd.state]; rfl
  have N0 := Fr.nil n0
  show own_Ends p e below s room_1.cells room_1.slots (Q_rm0 Z x0 a_UNION a_INTERSECTION a_DIFFERENCE a_OVERRIDE a_JOIN a_PRODUCT a_DOMAIN_RESTRICTION a_RANGE_RESTRICTION h0 n0) (s₁.setTop (entryFrame m #[(.int x0)] maxLocals))
  rw [ef_0_I]
  refine own_step (st' := s₁.setTop (mkF m 1 #[.val (.int x0), .unset, .unset, .unset] [(.int x0)])) (fun t k => XS.iloadN X0.here hx rfl (hb hby at_0) rfl k) ?_
  refine own_step (st' := s₁.setTop (mkF m 3 #[.val (.int x0), .unset, .unset, .unset] [(.int (7 : Int32)), (.int x0)])) (fun t k => XS.bipush X0.here hx rfl (hb hby at_1) k) ?_
  refine own_step (st' := s₁.setTop (mkF m 4 #[.val (.int x0), .unset, .unset, .unset] [(.int (x0 &&& (7 : Int32)))])) (fun t k => XS.iand X0.here hx rfl (hb hby at_3) rfl k) ?_
  obtain ⟨kk, e_kk⟩ : ∃ z : Int32, z = (x0 &&& (7 : Int32)) := ⟨_, rfl⟩
  rw [← e_kk]
  refine own_step (st' := s₁.setTop (mkF m 5 #[.val (.int x0), .val (.int kk), .unset, .unset] [])) (fun t k => XS.istoreN X0.here hx rfl (hb hby at_4) rfl (l' := #[.val (.int x0), .val (.int kk), .unset, .unset]) rfl k) ?_
  refine own_step (st' := s₁.setTop (mkF m 6 #[.val (.int x0), .val (.int kk), .unset, .unset] [(.int kk)])) (fun t k => XS.iloadN X0.here hx rfl (hb hby at_5) rfl k) ?_
  obtain ⟨_, _, ⟨T1, L1, k1, n1⟩, -, X1, ⟨Lc1, hQ1, l1, y1, z1⟩, st1⟩ := Jvm.LawKit.callS X0 hx (y := (⟨"com/example/wariant/wariant/lang/OperatorJoinsAnyNumberPinLaw", "pick", "(I)Lcom/example/wariant/wariant/lang/Expression$Binary$Operator;"⟩ : MethodName)) hown (mvT hZ (hw _ (List.mem_of_getElem? (i := 0) rfl))) (mvT hZ (hw _ (List.mem_of_getElem? (i := 1) rfl))) (mvT hZ (hw _ (List.mem_of_getElem? (i := 2) rfl))) (mvT hZ (hw _ (List.mem_of_getElem? (i := 3) rfl))) (by decide) (backOf (W := 0) (rm1 l Z a0 hw [] kk a_UNION a_INTERSECTION a_DIFFERENCE a_OVERRIDE a_JOIN a_PRODUCT a_DOMAIN_RESTRICTION a_RANGE_RESTRICTION h0 n0 Z0 O0 p_0 p_1 p_2 p_3 p_4 p_5 p_6 p_7 p_8 p_9 p_10 p_11 p_12 p_13 p_14 p_15 p_16 p_17 p_18 p_19 p_20 p_21 p_22 p_23 p_24 p_25 p_26 p_27) hZ (hw _ (List.mem_of_getElem? (i := 3) rfl)) (hw _ (List.mem_of_getElem? (i := 2) rfl)) (by decide) (by decide)) (g := (mkF m 6 #[.val (.int x0), .val (.int kk), .unset, .unset] [(.int kk)])) rfl (by rw [hml]; rfl) (argsL := [(.int kk)]) (rest := []) (lenOf pd_0 rfl) rfl (by show 2 * 0 + _ ≤ _; exact Nat.le_of_eq rfl) (hb hby at_6) (fun _ _ => ⟨rfl, e0, (by decide : 0 + 0 ≤ _), (by decide : 0 + 0 ≤ _)⟩)
  dsimp only [Pt.U, Pt.locs, Pt.cells, Pt.slots] at X1 l1 y1 z1 st1 hQ1
  subst l1 y1 z1
  obtain ⟨r_1, rfl, N1q, e1, pq1_0, pq1_1, pq1_2⟩ := hQ1
  have N1 := Fr.app N0 N1q
  refine own_step (st' := T1.setTop (mkF m 9 #[.val (.int x0), .val (.int kk), .unset, .unset] [(.ref r_1)])) st1 ?_
  refine own_step (st' := T1.setTop (mkF m 10 #[.val (.int x0), .val (.int kk), .val (.ref r_1), .unset] [])) (fun t k => XS.astoreN X1.here hx rfl (hb hby at_9) rfl rfl (l' := #[.val (.int x0), .val (.int kk), .val (.ref r_1), .unset]) rfl k) ?_
  refine own_step (st' := T1.setTop (mkF m 11 #[.val (.int x0), .val (.int kk), .val (.ref r_1), .unset] [(.int kk)])) (fun t k => XS.iloadN X1.here hx rfl (hb hby at_10) rfl k) ?_
  refine own_step (st' := T1.setTop (mkF m 24 #[.val (.int x0), .val (.int kk), .val (.ref r_1), .unset] [(.int (if kk = (0 : Int32) then (1 : Int32) else (if kk = (1 : Int32) then (1 : Int32) else (0 : Int32))))])) (fun t k => ?_) ?_
  · by_cases hc2 : kk = (0 : Int32)
    · refine XS.ifYes X1.here hx rfl (pc0 := 11) (pc' := 19) rfl (hb hby at_11) rfl ((if0 _ _).trans (teq hc2).1) (by decide) (by decide) (?_ : Steps p.tables e below (T1.setTop (mkF m 19 #[.val (.int x0), .val (.int kk), .val (.ref r_1), .unset] [])) _)
      refine XS.iconst X1.here hx rfl (hb hby at_19) (?_ : Steps p.tables e below (T1.setTop (mkF m 20 #[.val (.int x0), .val (.int kk), .val (.ref r_1), .unset] [(.int (1 : Int32))])) _)
      refine XS.goto X1.here hx rfl (pc0 := 20) (pc' := 24) rfl (hb hby at_20) (by decide) (by decide) (?_ : Steps p.tables e below (T1.setTop (mkF m 24 #[.val (.int x0), .val (.int kk), .val (.ref r_1), .unset] [(.int (1 : Int32))])) _)
      simpa only [if_pos hc2] using k
    · refine XS.ifNo X1.here hx rfl (hb hby at_11) rfl ((if0 _ _).trans (feq hc2).1) (?_ : Steps p.tables e below (T1.setTop (mkF m 14 #[.val (.int x0), .val (.int kk), .val (.ref r_1), .unset] [])) _)
      refine XS.iloadN X1.here hx rfl (hb hby at_14) rfl (?_ : Steps p.tables e below (T1.setTop (mkF m 15 #[.val (.int x0), .val (.int kk), .val (.ref r_1), .unset] [(.int kk)])) _)
      refine XS.iconst X1.here hx rfl (hb hby at_15) (?_ : Steps p.tables e below (T1.setTop (mkF m 16 #[.val (.int x0), .val (.int kk), .val (.ref r_1), .unset] [(.int (1 : Int32)), (.int kk)])) _)
      refine own_sstep (st' := T1.setTop (mkF m 24 #[.val (.int x0), .val (.int kk), .val (.ref r_1), .unset] [(.int (if kk = (1 : Int32) then (1 : Int32) else (0 : Int32)))])) (fun t k => ?_) ?_
      · by_cases hc3 : kk = (1 : Int32)
        · refine XS.icmpNo X1.here hx rfl (hb hby at_16) rfl (teq hc3).2 (?_ : Steps p.tables e below (T1.setTop (mkF m 19 #[.val (.int x0), .val (.int kk), .val (.ref r_1), .unset] [])) _)
          refine XS.iconst X1.here hx rfl (hb hby at_19) (?_ : Steps p.tables e below (T1.setTop (mkF m 20 #[.val (.int x0), .val (.int kk), .val (.ref r_1), .unset] [(.int (1 : Int32))])) _)
          refine XS.goto X1.here hx rfl (pc0 := 20) (pc' := 24) rfl (hb hby at_20) (by decide) (by decide) (?_ : Steps p.tables e below (T1.setTop (mkF m 24 #[.val (.int x0), .val (.int kk), .val (.ref r_1), .unset] [(.int (1 : Int32))])) _)
          simpa only [if_pos hc3] using k
        · refine XS.icmpYes X1.here hx rfl (pc0 := 16) (pc' := 23) rfl (hb hby at_16) rfl (feq hc3).2 (by decide) (by decide) (?_ : Steps p.tables e below (T1.setTop (mkF m 23 #[.val (.int x0), .val (.int kk), .val (.ref r_1), .unset] [])) _)
          refine XS.iconst X1.here hx rfl (hb hby at_23) (?_ : Steps p.tables e below (T1.setTop (mkF m 24 #[.val (.int x0), .val (.int kk), .val (.ref r_1), .unset] [(.int (0 : Int32))])) _)
          simpa only [if_neg hc3] using k
      simpa only [if_neg hc2] using k
  refine own_step (st' := T1.setTop (mkF m 25 #[.val (.int x0), .val (.int kk), .val (.ref r_1), .val (.int (if kk = (0 : Int32) then (1 : Int32) else (if kk = (1 : Int32) then (1 : Int32) else (0 : Int32))))] [])) (fun t k => XS.istoreN X1.here hx rfl (hb hby at_24) rfl (l' := #[.val (.int x0), .val (.int kk), .val (.ref r_1), .val (.int (if kk = (0 : Int32) then (1 : Int32) else (if kk = (1 : Int32) then (1 : Int32) else (0 : Int32))))]) rfl k) ?_
  refine own_step (st' := T1.setTop (mkF m 26 #[.val (.int x0), .val (.int kk), .val (.ref r_1), .val (.int (if kk = (0 : Int32) then (1 : Int32) else (if kk = (1 : Int32) then (1 : Int32) else (0 : Int32))))] [(.ref r_1)])) (fun t k => XS.aloadN X1.here hx rfl (hb hby at_25) rfl rfl k) ?_
  obtain ⟨cq4, kq4, q4a, q4b, q4c⟩ := isOf hZ e1 (pq1_0.ext O0.2)
  obtain ⟨_, _, ⟨T4, L4, k4, n4⟩, -, X4, ⟨Lc4, hQ4, l4, y4, z4⟩, st4⟩ := X1.virtualBack hx (y := (⟨"com/example/wariant/wariant/lang/Expression$Binary$Operator", "joinsAnyNumber", "()Z"⟩ : MethodName)) (z := (⟨"com/example/wariant/wariant/lang/Expression$Binary$Operator", "joinsAnyNumber", "()Z"⟩ : MethodName)) hown (mvT hZ (hw _ (List.mem_of_getElem? (i := 7) rfl))) (mvT hZ (hw _ (List.mem_of_getElem? (i := 8) rfl))) (notFace_of_selects (args := #[]) (mvT hZ (hw _ (List.mem_of_getElem? (i := 10) rfl)))) (mvT hZ (hw _ (List.mem_of_getElem? (i := 10) rfl))) (mvT hZ (hw _ (List.mem_of_getElem? (i := 9) rfl))) (by decide) (backOf (W := 0) (rm2 l Z a0 hw [] r_1 a_UNION a_INTERSECTION h0 n0 Z0 O0 p_0 p_1) hZ (hw _ (List.mem_of_getElem? (i := 11) rfl)) (hw _ (List.mem_of_getElem? (i := 5) rfl)) (by decide) (by decide)) q4a q4c (g := (mkF m 26 #[.val (.int x0), .val (.int kk), .val (.ref r_1), .val (.int (if kk = (0 : Int32) then (1 : Int32) else (if kk = (1 : Int32) then (1 : Int32) else (0 : Int32))))] [(.ref r_1)])) rfl (by rw [hml]; rfl) (Steps.refl _) (argsL := []) (rest := []) (lenOf pd_1 rfl) rfl (by show 2 * 0 + _ ≤ _; exact Nat.le_of_eq rfl) (hb hby at_26) (fun _ _ => ⟨rfl, e1, (by decide : 0 + 0 ≤ _), (by decide : 0 + 0 ≤ _)⟩)
  dsimp only [Pt.U, Pt.locs, Pt.cells, Pt.slots] at X4 l4 y4 z4 st4 hQ4
  subst l4 y4 z4
  obtain ⟨rfl, N4q, e4⟩ := hQ4
  have N4 := Fr.app N1 N4q
  refine own_step (st' := T4.setTop (mkF m 29 #[.val (.int x0), .val (.int kk), .val (.ref r_1), .val (.int (if kk = (0 : Int32) then (1 : Int32) else (if kk = (1 : Int32) then (1 : Int32) else (0 : Int32))))] [(.int (if r_1 = a_UNION ∨ r_1 = a_INTERSECTION then (1 : Int32) else (0 : Int32)))])) (fun t k => st4.trans k) ?_
  refine own_step (st' := T4.setTop (mkF m 30 #[.val (.int x0), .val (.int kk), .val (.ref r_1), .val (.int (if kk = (0 : Int32) then (1 : Int32) else (if kk = (1 : Int32) then (1 : Int32) else (0 : Int32))))] [(.int (if kk = (0 : Int32) then (1 : Int32) else (if kk = (1 : Int32) then (1 : Int32) else (0 : Int32)))), (.int (if r_1 = a_UNION ∨ r_1 = a_INTERSECTION then (1 : Int32) else (0 : Int32)))])) (fun t k => XS.iloadN X4.here hx rfl (hb hby at_29) rfl k) ?_
  refine own_step (st' := T4.setTop (mkF m 33 #[.val (.int x0), .val (.int kk), .val (.ref r_1), .val (.int (if kk = (0 : Int32) then (1 : Int32) else (if kk = (1 : Int32) then (1 : Int32) else (0 : Int32))))] [])) (fun t k => XS.icmpNo X4.here hx rfl (hb hby at_30) rfl (teq (own_op pq1_1 pq1_2)).2 k) ?_
  refine own_step (st' := T4.setTop (mkF m 34 #[.val (.int x0), .val (.int kk), .val (.ref r_1), .val (.int (if kk = (0 : Int32) then (1 : Int32) else (if kk = (1 : Int32) then (1 : Int32) else (0 : Int32))))] [(.int (1 : Int32))])) (fun t k => XS.iconst X4.here hx rfl (hb hby at_33) k) ?_
  refine own_step (st' := T4.setTop (mkF m 38 #[.val (.int x0), .val (.int kk), .val (.ref r_1), .val (.int (if kk = (0 : Int32) then (1 : Int32) else (if kk = (1 : Int32) then (1 : Int32) else (0 : Int32))))] [(.int (1 : Int32))])) (fun t k => XS.goto X4.here hx rfl (pc0 := 34) (pc' := 38) rfl (hb hby at_34) (by decide) (by decide) k) ?_
  refine own_ret X4 Bd.notSynchronized (some (.int (1 : Int32))) (fun h => by rw [Bd.returns] at h; cases h) (fun fs hr => retN X4 hx (t := .boolean) Bd.returns (by simp) (hb hby at_38) hr) ?_ (by decide) (by decide)
  rw [e4]
  exact ⟨rfl, N4⟩
set_option maxRecDepth 65536 in
set_option maxHeartbeats 40000000 in
theorem comes_1 {Post : Tables → Env → Array Value → State → Outcome → State → Prop} (hpost : ∀ tb e args s v u, (limb_1_1.after args s (.returned v) u = true ∧ limb_1_2.after args s (.returned v) u = true ∧ True) → FrameEnd s (.returned v) u (Jvm.fieldLocs frame_1_writes args s ++ Jvm.arrayLocs frame_1_arrays args s ++ Jvm.staticLocs frame_1_statics s) 0 0 → Post tb e args s (.returned v) u) :
    ArmFor flags0 classFile x code maxLocals ret World_1 tables_1 room_1 Calls_1 rest_1 Pre_1 Post := by
  intro l hfl _ _ p e ha hc hk s m args below hf hA hF happ hP
  obtain ⟨hcalls, hrest, hpre⟩ := hP
  obtain ⟨-, -, -, hnamed, -, -, -, hat⟩ := (Spec.applies_iff hf).mp happ
  obtain ⟨hg, hn⟩ := and_e (Cond.before_iff.mp (show (Jvm.Cond.and given_1 narrow_1).before args s = true from hpre))
  obtain ⟨hcount, hg0⟩ := and_e hg
  obtain ⟨w0, rfl⟩ : ∃ w0 : Value, args = #[w0] := by
    have hs : args.size = 1 := by simpa [Cond.value, given_1] using hcount
    obtain ⟨L⟩ := args
    match L, hs with
    | [w0], _ => exact ⟨w0, rfl⟩
  have hw := fun d (hd : d ∈ tables_1) => atoms_spec (ws := Jvm.Cond.code x code maxLocals ret :: tables_1) hat d (List.mem_cons_of_mem _ hd)
  have hfit : Fit s := fun {y c} hc i hi => by
    obtain ⟨ha, rfl⟩ := Array.getElem?_eq_some_iff.mp hc
    have q := List.all_eq_true.mp ((Array.all_eq_true_iff_forall_mem.mp hF) _ (Array.getElem_mem ha)) i (List.mem_range.mpr hi)
    simpa [Array.getElem?_eq_getElem hi] using q
  obtain ⟨i0, ei0⟩ := is_v hg0
  obtain rfl : w0 = (.int i0) := Option.some.inj ei0
  obtain ⟨c0, r0⟩ := and_e hn
  obtain ⟨c1, r1⟩ := and_e r0
  obtain ⟨c2, r2⟩ := and_e r1
  obtain ⟨c3, r3⟩ := and_e r2
  obtain ⟨c4, r4⟩ := and_e r3
  obtain ⟨c5, r5⟩ := and_e r4
  obtain ⟨c6, r6⟩ := and_e r5
  obtain ⟨c7, r7⟩ := and_e r6
  obtain ⟨c8, r8⟩ := and_e r7
  obtain ⟨c9, r9⟩ := and_e r8
  obtain ⟨c10, r10⟩ := and_e r9
  obtain ⟨c11, r11⟩ := and_e r10
  obtain ⟨c12, r12⟩ := and_e r11
  obtain ⟨c13, r13⟩ := and_e r12
  obtain ⟨c14, r14⟩ := and_e r13
  obtain ⟨a_UNION, _, _, _, ev_UNION, -⟩ := Cond.exactly_spec (Cond.before_iff.mpr c0)
  have E_UNION := Exa.start (Z := s) ev_UNION c0
  have S_UNION := Sta.start (Z := s) ev_UNION (Or.inr ⟨(hw _ (List.mem_of_getElem? (i := 5) rfl)), (hw _ (List.mem_of_getElem? (i := 6) rfl))⟩)
  obtain ⟨a_OVERRIDE, _, _, _, ev_OVERRIDE, -⟩ := Cond.exactly_spec (Cond.before_iff.mpr c1)
  have E_OVERRIDE := Exa.start (Z := s) ev_OVERRIDE c1
  have S_OVERRIDE := Sta.start (Z := s) ev_OVERRIDE (Or.inr ⟨(hw _ (List.mem_of_getElem? (i := 5) rfl)), (hw _ (List.mem_of_getElem? (i := 14) rfl))⟩)
  obtain ⟨a_INTERSECTION, _, _, _, ev_INTERSECTION, -⟩ := Cond.exactly_spec (Cond.before_iff.mpr c4)
  have E_INTERSECTION := Exa.start (Z := s) ev_INTERSECTION c4
  have S_INTERSECTION := Sta.start (Z := s) ev_INTERSECTION (Or.inr ⟨(hw _ (List.mem_of_getElem? (i := 5) rfl)), (hw _ (List.mem_of_getElem? (i := 16) rfl))⟩)
  obtain ⟨a_DOMAIN_RESTRICTION, _, _, _, ev_DOMAIN_RESTRICTION, -⟩ := Cond.exactly_spec (Cond.before_iff.mpr c6)
  have E_DOMAIN_RESTRICTION := Exa.start (Z := s) ev_DOMAIN_RESTRICTION c6
  have S_DOMAIN_RESTRICTION := Sta.start (Z := s) ev_DOMAIN_RESTRICTION (Or.inr ⟨(hw _ (List.mem_of_getElem? (i := 5) rfl)), (hw _ (List.mem_of_getElem? (i := 18) rfl))⟩)
  obtain ⟨a_RANGE_RESTRICTION, _, _, _, ev_RANGE_RESTRICTION, -⟩ := Cond.exactly_spec (Cond.before_iff.mpr c8)
  have E_RANGE_RESTRICTION := Exa.start (Z := s) ev_RANGE_RESTRICTION c8
  have S_RANGE_RESTRICTION := Sta.start (Z := s) ev_RANGE_RESTRICTION (Or.inr ⟨(hw _ (List.mem_of_getElem? (i := 5) rfl)), (hw _ (List.mem_of_getElem? (i := 20) rfl))⟩)
  obtain ⟨a_DIFFERENCE, _, _, _, ev_DIFFERENCE, -⟩ := Cond.exactly_spec (Cond.before_iff.mpr c10)
  have E_DIFFERENCE := Exa.start (Z := s) ev_DIFFERENCE c10
  have S_DIFFERENCE := Sta.start (Z := s) ev_DIFFERENCE (Or.inr ⟨(hw _ (List.mem_of_getElem? (i := 5) rfl)), (hw _ (List.mem_of_getElem? (i := 22) rfl))⟩)
  obtain ⟨a_JOIN, _, _, _, ev_JOIN, -⟩ := Cond.exactly_spec (Cond.before_iff.mpr c12)
  have E_JOIN := Exa.start (Z := s) ev_JOIN c12
  have S_JOIN := Sta.start (Z := s) ev_JOIN (Or.inr ⟨(hw _ (List.mem_of_getElem? (i := 5) rfl)), (hw _ (List.mem_of_getElem? (i := 25) rfl))⟩)
  obtain ⟨a_PRODUCT, _, _, _, ev_PRODUCT, -⟩ := Cond.exactly_spec (Cond.before_iff.mpr c14)
  have E_PRODUCT := Exa.start (Z := s) ev_PRODUCT c14
  have S_PRODUCT := Sta.start (Z := s) ev_PRODUCT (Or.inr ⟨(hw _ (List.mem_of_getElem? (i := 5) rfl)), (hw _ (List.mem_of_getElem? (i := 27) rfl))⟩)
  have F_OVERRIDE_ordinal : Fld s s.heap a_OVERRIDE "java/lang/Enum" "ordinal" "I" (.int (3 : Int32)) := Fld.start ((fld_at ev_OVERRIDE).symm.trans (own_eqI c2))
  have F_UNION_ordinal : Fld s s.heap a_UNION "java/lang/Enum" "ordinal" "I" (.int (0 : Int32)) := Fld.start ((fld_at ev_UNION).symm.trans (own_eqI c3))
  have F_INTERSECTION_ordinal : Fld s s.heap a_INTERSECTION "java/lang/Enum" "ordinal" "I" (.int (1 : Int32)) := Fld.start ((fld_at ev_INTERSECTION).symm.trans (own_eqI c5))
  have F_DOMAIN_RESTRICTION_ordinal : Fld s s.heap a_DOMAIN_RESTRICTION "java/lang/Enum" "ordinal" "I" (.int (6 : Int32)) := Fld.start ((fld_at ev_DOMAIN_RESTRICTION).symm.trans (own_eqI c7))
  have F_RANGE_RESTRICTION_ordinal : Fld s s.heap a_RANGE_RESTRICTION "java/lang/Enum" "ordinal" "I" (.int (7 : Int32)) := Fld.start ((fld_at ev_RANGE_RESTRICTION).symm.trans (own_eqI c9))
  have F_DIFFERENCE_ordinal : Fld s s.heap a_DIFFERENCE "java/lang/Enum" "ordinal" "I" (.int (2 : Int32)) := Fld.start ((fld_at ev_DIFFERENCE).symm.trans (own_eqI c11))
  have F_JOIN_ordinal : Fld s s.heap a_JOIN "java/lang/Enum" "ordinal" "I" (.int (4 : Int32)) := Fld.start ((fld_at ev_JOIN).symm.trans (own_eqI c13))
  have F_PRODUCT_ordinal : Fld s s.heap a_PRODUCT "java/lang/Enum" "ordinal" "I" (.int (5 : Int32)) := Fld.start ((fld_at ev_PRODUCT).symm.trans (own_eqI r14))
  have ne_DIFFERENCE_UNION : a_DIFFERENCE ≠ a_UNION := Fld.ne F_DIFFERENCE_ordinal F_UNION_ordinal (by decide)
  have ne_DIFFERENCE_INTERSECTION : a_DIFFERENCE ≠ a_INTERSECTION := Fld.ne F_DIFFERENCE_ordinal F_INTERSECTION_ordinal (by decide)
  have ne_OVERRIDE_UNION : a_OVERRIDE ≠ a_UNION := Fld.ne F_OVERRIDE_ordinal F_UNION_ordinal (by decide)
  have ne_OVERRIDE_INTERSECTION : a_OVERRIDE ≠ a_INTERSECTION := Fld.ne F_OVERRIDE_ordinal F_INTERSECTION_ordinal (by decide)
  have ne_JOIN_UNION : a_JOIN ≠ a_UNION := Fld.ne F_JOIN_ordinal F_UNION_ordinal (by decide)
  have ne_JOIN_INTERSECTION : a_JOIN ≠ a_INTERSECTION := Fld.ne F_JOIN_ordinal F_INTERSECTION_ordinal (by decide)
  have ne_PRODUCT_UNION : a_PRODUCT ≠ a_UNION := Fld.ne F_PRODUCT_ordinal F_UNION_ordinal (by decide)
  have ne_PRODUCT_INTERSECTION : a_PRODUCT ≠ a_INTERSECTION := Fld.ne F_PRODUCT_ordinal F_INTERSECTION_ordinal (by decide)
  have ne_DOMAIN_RESTRICTION_UNION : a_DOMAIN_RESTRICTION ≠ a_UNION := Fld.ne F_DOMAIN_RESTRICTION_ordinal F_UNION_ordinal (by decide)
  have ne_DOMAIN_RESTRICTION_INTERSECTION : a_DOMAIN_RESTRICTION ≠ a_INTERSECTION := Fld.ne F_DOMAIN_RESTRICTION_ordinal F_INTERSECTION_ordinal (by decide)
  have ne_RANGE_RESTRICTION_UNION : a_RANGE_RESTRICTION ≠ a_UNION := Fld.ne F_RANGE_RESTRICTION_ordinal F_UNION_ordinal (by decide)
  have ne_RANGE_RESTRICTION_INTERSECTION : a_RANGE_RESTRICTION ≠ a_INTERSECTION := Fld.ne F_RANGE_RESTRICTION_ordinal F_INTERSECTION_ordinal (by decide)
  obtain ⟨n, o, h1, h2, h3, _, L, rfl, ⟨rfl, N⟩, hq⟩ := rm0 l s _ hw tables_1 i0 a_UNION a_INTERSECTION a_DIFFERENCE a_OVERRIDE a_JOIN a_PRODUCT a_DOMAIN_RESTRICTION a_RANGE_RESTRICTION s.heap s.heap.size (Nat.le_refl _) (Old.start s) S_UNION S_INTERSECTION S_DIFFERENCE S_OVERRIDE S_JOIN S_PRODUCT S_DOMAIN_RESTRICTION S_RANGE_RESTRICTION E_UNION E_INTERSECTION E_DIFFERENCE E_OVERRIDE E_JOIN E_PRODUCT E_DOMAIN_RESTRICTION E_RANGE_RESTRICTION ne_DIFFERENCE_UNION ne_DIFFERENCE_INTERSECTION ne_OVERRIDE_UNION ne_OVERRIDE_INTERSECTION ne_JOIN_UNION ne_JOIN_INTERSECTION ne_PRODUCT_UNION ne_PRODUCT_INTERSECTION ne_DOMAIN_RESTRICTION_UNION ne_DOMAIN_RESTRICTION_INTERSECTION ne_RANGE_RESTRICTION_UNION ne_RANGE_RESTRICTION_INTERSECTION p e ha hc hk s m _ below hf ((Spec.applies_iff_loose hf).mp happ).1 ⟨rfl, State.Warmed39.refl s, rfl⟩ trivial
  refine ⟨n, _, h1, h2, h3, hpost _ _ _ _ _ _ ⟨Cond.after_iff.mpr rfl, Cond.after_iff.mpr (eq_i res_at (Term.int_eval (1)) rfl), trivial⟩ ⟨hq.1, hq.2.1, (hq.2.2.sift fun y hy => Or.inr (N y hy)).mono (by decide) (by decide)⟩⟩
theorem main_1_1 : Claimed_1_1 := comes_1 fun _ _ _ _ _ _ h hF => ⟨h.1, hF⟩
theorem main_1_2 : Claimed_1_2 := comes_1 fun _ _ _ _ _ _ h hF => ⟨h.2.1, hF⟩
end Jvm.Pilot.@@N@@
namespace Jvm.Pilot.@@N@@
open Jvm Jvm.ClassFile Sem Op Lib Jvm.Free Jvm.Stand Jvm.Pilot.@@N@@.Jvm.D
/-! MADE BY PROGRAM (witnessworld.py) out of the Statement's table words and the real class files: 12 classes; the members and pool entries that the words name. The judged class is class 1, her method 2. -/
namespace start1
open Jvm.ClassFile
def u (s : String) : CpInfo := .utf8 (stringToUtf16 s)
/-- a pool by its gaps: so many unusable entries, then the entry; so many at the end -/
def gap : Nat → List CpInfo → List CpInfo
  | 0, r => r
  | n + 1, r => .unusable :: gap n r
def poolList (es : List (Nat × CpInfo)) (last : Nat) : List CpInfo := es.foldr (fun e r => gap e.1 (e.2 :: r)) (gap last [])
def pool (es : List (Nat × CpInfo)) (last : Nat) : Array CpInfo := ⟨poolList es last⟩
def fileOf (pool : Array CpInfo) (this : Nat) (attrs : Array Attribute := #[]) (ms : Array MethodInfo := #[]) (fl : Nat := 33) (sup : Nat := 0) (ifs : Array Nat := #[]) (fds : Array FieldInfo := #[]) : ClassFile where
  minorVersion := 0
  majorVersion := 65
  constantPool := pool
  accessFlags := fl
  thisClass := this
  superClass := sup
  interfaces := ifs
  fields := fds
  methods := ms
  attributes := attrs
def plain (name : String) (sup : Option ClassId) : Class where
  name := name
  kind := .ordinary
  loader := none
  accessFlags := 33
  super := sup
  interfaces := #[]
  cf := none
  fields := #[]
  methods := #[]
  instanceTypes := #[]
  staticTypes := #[]
  resolved := #[]
  callSites := []
  init := .initialized
  statics := none
  mirror := none

def pool0 : Array CpInfo := pool [(5, u "<init>"), (0, u "()V"), (1, .class_ 10), (1, u "java/lang/Object")] 113

def k0m0 : Method := { name := "<init>", desc := "()V", sig := { parameters := [], returnType := none }, accessFlags := 1, code := none }
/-- java/lang/Object -/
def k0 : Class := { plain "java/lang/Object" none with
  accessFlags := 33
  interfaces := #[]
  cf := some (fileOf pool0 8 #[] #[{ accessFlags := 1, nameIndex := 5, descriptorIndex := 6, attributes := #[] }] 33 0 #[] #[])
  fields := #[]
  methods := #[k0m0]
  instanceTypes := #[]
  staticTypes := #[]
  resolved := Array.replicate 124 none
  statics := none }

def pool1 : Array CpInfo := pool [(2, .class_ 4), (1, u "java/lang/Object"), (0, u "<init>"), (0, u "()V"), (0, .fieldref 8 9), (0, .class_ 10), (0, .nameAndType 11 12), (0, u "com/example/wariant/wariant/lang/Expression$Binary$Operator"), (0, u "UNION"), (0, u "Lcom/example/wariant/wariant/lang/Expression$Binary$Operator;"), (0, .fieldref 8 14), (0, .nameAndType 15 12), (0, u "INTERSECTION"), (0, .fieldref 8 17), (0, .nameAndType 18 12), (0, u "DIFFERENCE"), (0, .fieldref 8 20), (0, .nameAndType 21 12), (0, u "OVERRIDE"), (0, .fieldref 8 23), (0, .nameAndType 24 12), (0, u "JOIN"), (0, .fieldref 8 26), (0, .nameAndType 27 12), (0, u "PRODUCT"), (0, .fieldref 8 29), (0, .nameAndType 30 12), (0, u "DOMAIN_RESTRICTION"), (0, .fieldref 8 32), (0, .nameAndType 33 12), (0, u "RANGE_RESTRICTION"), (0, .methodref 35 36), (0, .class_ 37), (0, .nameAndType 38 39), (0, u "com/example/wariant/wariant/lang/OperatorJoinsAnyNumberPinLaw"), (0, u "pick"), (0, u "(I)Lcom/example/wariant/wariant/lang/Expression$Binary$Operator;"), (0, .methodref 8 41), (0, .nameAndType 42 43), (0, u "joinsAnyNumber"), (0, u "()Z"), (3, u "law"), (0, u "(I)Z")] 9

def k1m0 : Method := { name := "<init>", desc := "()V", sig := { parameters := [], returnType := none }, accessFlags := 2, code := none }
def k1c1 : Code := { maxStack := 2, maxLocals := 2, code := method_2_code, exceptionTable := #[], attributes := #[] }
def k1m1 : Method := { name := "pick", desc := "(I)Lcom/example/wariant/wariant/lang/Expression$Binary$Operator;", sig := { parameters := [.int], returnType := some (.object "com/example/wariant/wariant/lang/Expression$Binary$Operator") }, accessFlags := 10, code := some k1c1 }
def k1c2 : Code := { maxStack := 2, maxLocals := 4, code := code, exceptionTable := #[], attributes := #[] }
def k1m2 : Method := { name := "law", desc := "(I)Z", sig := { parameters := [.int], returnType := some .boolean }, accessFlags := 9, code := some k1c2 }
/-- com/example/wariant/wariant/lang/OperatorJoinsAnyNumberPinLaw -/
def k1 : Class := { plain "com/example/wariant/wariant/lang/OperatorJoinsAnyNumberPinLaw" (some 0) with
  accessFlags := 49
  interfaces := #[]
  cf := some (fileOf pool1 35 #[] #[{ accessFlags := 2, nameIndex := 5, descriptorIndex := 6, attributes := #[] }, { accessFlags := 10, nameIndex := 38, descriptorIndex := 39, attributes := #[] }, { accessFlags := 9, nameIndex := 47, descriptorIndex := 48, attributes := #[] }] 49 2 #[] #[])
  fields := #[]
  methods := #[k1m0, k1m1, k1m2]
  instanceTypes := #[]
  staticTypes := #[]
  resolved := Array.replicate 58 none
  statics := none }

def pool2 : Array CpInfo := pool [(1, .class_ 2), (0, u "java/lang/constant/Constable"), (0, .class_ 4), (0, u "java/lang/Object")] 6

/-- java/lang/constant/Constable -/
def k2 : Class := { plain "java/lang/constant/Constable" (some 0) with
  accessFlags := 1537
  interfaces := #[]
  cf := some (fileOf pool2 1 #[] #[] 1537 3 #[] #[])
  fields := #[]
  methods := #[]
  instanceTypes := #[]
  staticTypes := #[]
  resolved := Array.replicate 11 none
  statics := none }

def pool3 : Array CpInfo := pool [(1, .class_ 2), (0, u "java/lang/Comparable"), (0, .class_ 4), (0, u "java/lang/Object")] 7

/-- java/lang/Comparable -/
def k3 : Class := { plain "java/lang/Comparable" (some 0) with
  accessFlags := 1537
  interfaces := #[]
  cf := some (fileOf pool3 1 #[] #[] 1537 3 #[] #[])
  fields := #[]
  methods := #[]
  instanceTypes := #[]
  staticTypes := #[]
  resolved := Array.replicate 12 none
  statics := none }

def pool4 : Array CpInfo := pool [(1, .class_ 2), (0, u "java/io/Serializable"), (0, .class_ 4), (0, u "java/lang/Object")] 2

/-- java/io/Serializable -/
def k4 : Class := { plain "java/io/Serializable" (some 0) with
  accessFlags := 1537
  interfaces := #[]
  cf := some (fileOf pool4 1 #[] #[] 1537 3 #[] #[])
  fields := #[]
  methods := #[]
  instanceTypes := #[]
  staticTypes := #[]
  resolved := Array.replicate 7 none
  statics := none }

def pool5 : Array CpInfo := pool [(2, .class_ 4), (1, u "java/lang/Enum"), (0, u "name"), (0, u "Ljava/lang/String;"), (2, u "ordinal"), (0, u "I"), (1, .class_ 14), (1, u "java/lang/Object"), (4, u "hash"), (86, .class_ 108), (1, u "java/lang/Enum$EnumDesc"), (2, .class_ 112), (0, u "java/lang/constant/Constable"), (0, .class_ 114), (0, u "java/lang/Comparable"), (0, .class_ 116), (0, u "java/io/Serializable")] 87

/-- java/lang/Enum -/
def k5 : Class := { plain "java/lang/Enum" (some 0) with
  accessFlags := 1057
  interfaces := #[2, 3, 4]
  cf := some (fileOf pool5 2 #[.nestMembers #[106]] #[] 1057 12 #[111, 113, 115] #[{ accessFlags := 18, nameIndex := 5, descriptorIndex := 6, attributes := #[] }, { accessFlags := 18, nameIndex := 9, descriptorIndex := 10, attributes := #[] }, { accessFlags := 2, nameIndex := 19, descriptorIndex := 10, attributes := #[] }])
  fields := #[{ name := "name", type := (.object "java/lang/String"), accessFlags := 18, slot := 0, constantValue := 0 }, { name := "ordinal", type := .int, accessFlags := 18, slot := 1, constantValue := 0 }, { name := "hash", type := .int, accessFlags := 2, slot := 2, constantValue := 0 }]
  methods := #[]
  instanceTypes := #[(.object "java/lang/String"), .int, .int]
  staticTypes := #[]
  resolved := Array.replicate 204 none
  statics := none }

def pool6 : Array CpInfo := pool [(1, .class_ 2), (0, u "com/example/wariant/wariant/lang/Expression$Binary$Operator"), (0, .fieldref 1 4), (0, .nameAndType 5 6), (0, u "UNION"), (0, u "Lcom/example/wariant/wariant/lang/Expression$Binary$Operator;"), (0, .fieldref 1 8), (0, .nameAndType 9 6), (0, u "INTERSECTION"), (2, u "DIFFERENCE"), (2, u "OVERRIDE"), (2, u "JOIN"), (2, u "PRODUCT"), (2, u "DOMAIN_RESTRICTION"), (2, u "RANGE_RESTRICTION"), (2, u "$VALUES"), (0, u "[Lcom/example/wariant/wariant/lang/Expression$Binary$Operator;"), (6, .class_ 40), (1, u "java/lang/Enum"), (8, u "joinsAnyNumber"), (0, u "()Z"), (53, .class_ 105), (0, u "com/example/wariant/wariant/lang/Expression")] 10

def k6c0 : Code := { maxStack := 2, maxLocals := 1, code := prog_43_method_4_code, exceptionTable := #[], attributes := #[] }
def k6m0 : Method := { name := "joinsAnyNumber", desc := "()Z", sig := { parameters := [], returnType := some .boolean }, accessFlags := 1, code := some k6c0 }
/-- com/example/wariant/wariant/lang/Expression$Binary$Operator -/
def k6 : Class := { plain "com/example/wariant/wariant/lang/Expression$Binary$Operator" (some 5) with
  accessFlags := 16433
  interfaces := #[]
  cf := some (fileOf pool6 1 #[.nestHost 104] #[{ accessFlags := 1, nameIndex := 49, descriptorIndex := 50, attributes := #[] }] 16433 38 #[] #[{ accessFlags := 16409, nameIndex := 5, descriptorIndex := 6, attributes := #[] }, { accessFlags := 16409, nameIndex := 9, descriptorIndex := 6, attributes := #[] }, { accessFlags := 16409, nameIndex := 12, descriptorIndex := 6, attributes := #[] }, { accessFlags := 16409, nameIndex := 15, descriptorIndex := 6, attributes := #[] }, { accessFlags := 16409, nameIndex := 18, descriptorIndex := 6, attributes := #[] }, { accessFlags := 16409, nameIndex := 21, descriptorIndex := 6, attributes := #[] }, { accessFlags := 16409, nameIndex := 24, descriptorIndex := 6, attributes := #[] }, { accessFlags := 16409, nameIndex := 27, descriptorIndex := 6, attributes := #[] }, { accessFlags := 4122, nameIndex := 30, descriptorIndex := 31, attributes := #[] }])
  fields := #[{ name := "UNION", type := (.object "com/example/wariant/wariant/lang/Expression$Binary$Operator"), accessFlags := 16409, slot := 0, constantValue := 0 }, { name := "INTERSECTION", type := (.object "com/example/wariant/wariant/lang/Expression$Binary$Operator"), accessFlags := 16409, slot := 1, constantValue := 0 }, { name := "DIFFERENCE", type := (.object "com/example/wariant/wariant/lang/Expression$Binary$Operator"), accessFlags := 16409, slot := 2, constantValue := 0 }, { name := "OVERRIDE", type := (.object "com/example/wariant/wariant/lang/Expression$Binary$Operator"), accessFlags := 16409, slot := 3, constantValue := 0 }, { name := "JOIN", type := (.object "com/example/wariant/wariant/lang/Expression$Binary$Operator"), accessFlags := 16409, slot := 4, constantValue := 0 }, { name := "PRODUCT", type := (.object "com/example/wariant/wariant/lang/Expression$Binary$Operator"), accessFlags := 16409, slot := 5, constantValue := 0 }, { name := "DOMAIN_RESTRICTION", type := (.object "com/example/wariant/wariant/lang/Expression$Binary$Operator"), accessFlags := 16409, slot := 6, constantValue := 0 }, { name := "RANGE_RESTRICTION", type := (.object "com/example/wariant/wariant/lang/Expression$Binary$Operator"), accessFlags := 16409, slot := 7, constantValue := 0 }, { name := "$VALUES", type := (.array (.object "com/example/wariant/wariant/lang/Expression$Binary$Operator")), accessFlags := 4122, slot := 8, constantValue := 0 }]
  methods := #[k6m0]
  instanceTypes := #[(.object "java/lang/String"), .int, .int]
  staticTypes := #[(.object "com/example/wariant/wariant/lang/Expression$Binary$Operator"), (.object "com/example/wariant/wariant/lang/Expression$Binary$Operator"), (.object "com/example/wariant/wariant/lang/Expression$Binary$Operator"), (.object "com/example/wariant/wariant/lang/Expression$Binary$Operator"), (.object "com/example/wariant/wariant/lang/Expression$Binary$Operator"), (.object "com/example/wariant/wariant/lang/Expression$Binary$Operator"), (.object "com/example/wariant/wariant/lang/Expression$Binary$Operator"), (.object "com/example/wariant/wariant/lang/Expression$Binary$Operator"), (.array (.object "com/example/wariant/wariant/lang/Expression$Binary$Operator"))]
  resolved := Array.replicate 116 none
  statics := some 0 }

def pool7 : Array CpInfo := pool [(1, u "java/lang/Cloneable"), (0, .class_ 1), (0, u "java/lang/Object"), (0, .class_ 3)] 3

/-- java/lang/Cloneable -/
def k7 : Class := { plain "java/lang/Cloneable" (some 0) with
  accessFlags := 1537
  interfaces := #[]
  cf := some (fileOf pool7 2 #[] #[] 1537 4 #[] #[])
  fields := #[]
  methods := #[]
  instanceTypes := #[]
  staticTypes := #[]
  resolved := Array.replicate 8 none
  statics := none }

/-- the primitive byte -/
def k8 : Class := { plain "byte" none with kind := .primitive 'B', accessFlags := 0x411 }
/-- [B -/
def k9 : Class := { plain "[B" (some 0) with kind := .array 8 .byte, interfaces := #[7, 4], accessFlags := 1041 }

/-- the primitive int -/
def k10 : Class := { plain "int" none with kind := .primitive 'I', accessFlags := 0x411 }
/-- [I -/
def k11 : Class := { plain "[I" (some 0) with kind := .array 10 .int, interfaces := #[7, 4], accessFlags := 1041 }

def heap : Heap := #[{ cls := 6, slots := #[.ref 1, .ref 2, .ref 3, .ref 4, .ref 5, .ref 6, .ref 7, .ref 8, .null], vm := .statics 6 },
  { cls := 6, slots := #[.null, .int 0, .int 0], vm := .none },
  { cls := 6, slots := #[.null, .int 1, .int 0], vm := .none },
  { cls := 6, slots := #[.null, .int 2, .int 0], vm := .none },
  { cls := 6, slots := #[.null, .int 3, .int 0], vm := .none },
  { cls := 6, slots := #[.null, .int 4, .int 0], vm := .none },
  { cls := 6, slots := #[.null, .int 5, .int 0], vm := .none },
  { cls := 6, slots := #[.null, .int 6, .int 0], vm := .none },
  { cls := 6, slots := #[.null, .int 7, .int 0], vm := .none }]
def classes : Array Class := #[k0, k1, k2, k3, k4, k5, k6, k7, k8, k9, k10, k11]
def interned : List (Array UInt16 × Addr) := []
def slotsUsed : Nat := 33
def theMethod : MethodId := ⟨1, 2⟩
def args0 : Array Value := #[.int 5]
def aboutOver (below : List Frame) : State where
  vm := { classes := classes, interned := interned.toArray }
  heap := heap
  slotsUsed := slotsUsed
  threads := #[{ frames := .invoking theMethod args0 :: below }]
def below0 : List Frame := [.native { method := ⟨0, 0⟩, args := #[] }]
def about1 : State := aboutOver below0
def p0 : Program := .bare "" "" ""
def e0 : Env := launch0.env 0 0 0
theorem w_frames : about1.frames = Frame.invoking theMethod args0 :: below0 := rfl
set_option maxRecDepth 65536 in
theorem w_args : argsFit about1.vm theMethod args0 = true := by decide +kernel
set_option maxRecDepth 65536 in
theorem w_heap : heapFits about1 = true := by decide +kernel
set_option maxRecDepth 65536 in
theorem w_runnable : about1.curStatus? = some .runnable := by decide +kernel
set_option maxRecDepth 65536 in
theorem w_alone : about1.alone = true := by decide +kernel
set_option maxRecDepth 65536 in
theorem w_named : about1.methodNamed? x = some theMethod := by decide +kernel
set_option maxRecDepth 65536 in
theorem w_hears : about1.hears theMethod below0 = true := by decide +kernel
set_option maxRecDepth 65536 in
theorem w_ripe : about1.ripe theMethod args0 below0 = true := by decide +kernel
theorem w_running : about1.status = .running := rfl
set_option maxRecDepth 65536 in
theorem w_room : about1.hasRoom e0.platform room_1 = true :=
  launch0.hasRoom_least _ room_1 (by decide +kernel) (by decide +kernel) (by decide +kernel) (by decide +kernel) (by decide +kernel) (by decide +kernel)
theorem allAtoms_all (ts : List Jvm.Cond) (a : Array Jvm.Value) (st : Jvm.State) : (allAtoms ts).before a st = ts.all (fun c => c.before a st) := by
  induction ts with
  | nil => rfl
  | cons c t ih =>
    show (Jvm.Cond.and c (allAtoms t)).before a st = _
    rw [Jvm.Cond.before_and, ih, List.all_cons]
def words1 : List Jvm.Cond := Jvm.Cond.code x code maxLocals ret :: tables_1
/-- a 'code' word, met by the world's own term for the bytes: nothing is compared byte by byte -/
theorem code_word {y : MethodName} {bytes : ByteArray} {mx : Nat} {rt : Option FieldType} {a : Array Value} {s : State} {m : MethodId} {meth : Method} {c : Code} (h1 : s.methodNamed? y = some m) (h2 : s.vm.method? m = some meth) (h3 : meth.code = some c) (h4 : c.code = bytes)
    (h5 : (c.maxLocals == mx && c.exceptionTable.isEmpty && decide (c.maxStack ≤ mostOperands) && decide (meth.sig.returnType = rt) && !meth.locks && decide (parseMethodDescriptor y.desc = some meth.sig)) = true) : (Jvm.Cond.code y bytes mx rt).before a s = true := by
  simp only [Bool.and_eq_true, beq_iff_eq, Bool.not_eq_true', decide_eq_true_eq] at h5
  obtain ⟨⟨⟨⟨⟨g1, g2⟩, g3⟩, g4⟩, g5⟩, g6⟩ := h5
  simp [Cond.before, Cond.holds, Cond.value, h1, h2, h3, h4, g1, g2, g3, g4, g5, g6]
def isCode : Jvm.Cond → Bool
  | .code _ _ _ _ => true
  | _ => false
theorem all_split {L : List Jvm.Cond} {P : Jvm.Cond → Bool} (h1 : L.all (fun c => isCode c || P c) = true) (h2 : ∀ c ∈ L.filter isCode, P c = true) : L.all P = true := by
  refine List.all_eq_true.mpr fun c hc => ?_
  have h := List.all_eq_true.mp h1 c hc
  rcases Bool.eq_false_or_eq_true (isCode c) with hi | hi
  · exact h2 c (List.mem_filter.mpr ⟨hc, hi⟩)
  · simpa [hi] using h
set_option maxRecDepth 65536 in
theorem w_c0 : (Jvm.Cond.code x code maxLocals ret).before args0 about1 = true := code_word (m := ⟨1, 2⟩) (meth := k1m2) (c := k1c2) (by decide +kernel) rfl rfl rfl (by decide +kernel)
set_option maxRecDepth 65536 in
theorem w_c1 : (Jvm.Cond.code ({ cls := "com/example/wariant/wariant/lang/OperatorJoinsAnyNumberPinLaw", name := "pick", desc := "(I)Lcom/example/wariant/wariant/lang/Expression$Binary$Operator;" } : Jvm.MethodName) method_2_code (2 : Nat) (Option.some (Jvm.ClassFile.FieldType.object "com/example/wariant/wariant/lang/Expression$Binary$Operator"))).before args0 about1 = true := code_word (m := ⟨1, 1⟩) (meth := k1m1) (c := k1c1) (by decide +kernel) rfl rfl rfl (by decide +kernel)
set_option maxRecDepth 65536 in
theorem w_c2 : (Jvm.Cond.code ({ cls := "com/example/wariant/wariant/lang/Expression$Binary$Operator", name := "joinsAnyNumber", desc := "()Z" } : Jvm.MethodName) prog_43_method_4_code (1 : Nat) (Option.some Jvm.ClassFile.FieldType.boolean)).before args0 about1 = true := code_word (m := ⟨6, 0⟩) (meth := k6m0) (c := k6c0) (by decide +kernel) rfl rfl rfl (by decide +kernel)
def codes1 : List Jvm.Cond := [Jvm.Cond.code x code maxLocals ret, Jvm.Cond.code ({ cls := "com/example/wariant/wariant/lang/OperatorJoinsAnyNumberPinLaw", name := "pick", desc := "(I)Lcom/example/wariant/wariant/lang/Expression$Binary$Operator;" } : Jvm.MethodName) method_2_code (2 : Nat) (Option.some (Jvm.ClassFile.FieldType.object "com/example/wariant/wariant/lang/Expression$Binary$Operator")), Jvm.Cond.code ({ cls := "com/example/wariant/wariant/lang/Expression$Binary$Operator", name := "joinsAnyNumber", desc := "()Z" } : Jvm.MethodName) prog_43_method_4_code (1 : Nat) (Option.some Jvm.ClassFile.FieldType.boolean)]
set_option maxRecDepth 65536 in
theorem codes_eq : words1.filter isCode = codes1 := rfl
theorem w_codes : ∀ c ∈ words1.filter isCode, c.before args0 about1 = true := by
  rw [codes_eq]
  intro c hc
  simp only [codes1, List.mem_cons, List.not_mem_nil, or_false] at hc
  rcases hc with rfl | rfl | rfl
  · exact w_c0
  · exact w_c1
  · exact w_c2
set_option maxRecDepth 65536 in
theorem w_t1 : (words1.take 24).all (fun c => isCode c || c.before args0 about1) = true := by decide +kernel
set_option maxRecDepth 65536 in
theorem w_t2 : (words1.drop 24).all (fun c => isCode c || c.before args0 about1) = true := by decide +kernel
theorem w_tables : (allAtoms (Jvm.Cond.code x code maxLocals ret :: tables_1)).before args0 about1 = true := by
  rw [allAtoms_all]
  show words1.all (fun c => c.before args0 about1) = true
  refine all_split ?_ w_codes
  rw [← List.take_append_drop 24 words1, List.all_append, w_t1, w_t2]
  rfl
set_option maxRecDepth 65536 in
theorem w_case : (Jvm.Cond.and given_1 narrow_1).before args0 about1 = true := by decide +kernel
theorem w_applies : (headSpec (Jvm.Cond.code x code maxLocals ret :: tables_1) room_1).applies x e0.platform about1 = true :=
  (Spec.applies_iff w_frames).mpr ⟨w_running, w_runnable, w_alone, w_named, w_hears, w_ripe, w_room, w_tables⟩
theorem atStart : AtStart classFile x code maxLocals ret World_1 tables_1 room_1 Calls_1 rest_1 Pre_1 launch0 p0 e0 about1 theMethod args0 below0 :=
  ⟨lists_1, trivial, launch0.admits_env _ _ _, launch0.least_env, fairChoices_fair.cas, fairChoices_fair.clock, w_frames, w_args, w_heap, w_applies, trivial, trivial, w_case⟩
end start1
theorem witness_1 : WitnessClaimed_1 := ⟨start1.p0, start1.e0, start1.about1, start1.theMethod, start1.args0, start1.below0, start1.atStart⟩
end Jvm.Pilot.@@N@@
