import JvmDerived
import JvmDerived.Pilot.@@N@@Statement
import JvmDerived.Pilot.@@N@@Code
set_option linter.unusedVariables false
set_option linter.unusedSimpArgs false
namespace Jvm.RoadKit
open Sem ClassFile Op Lib Jvm.Stand Jvm.Free Jvm.LawKit
section Own
variable {p : Program} {l : Launch} {e : Env} {R : Room} {s : State} {m : MethodId} {args : Array Value} {below : List Frame} {meth : Method} {c : Code} {T : State} {locs : List Loc} {cells slots : Nat} {Z : State} {h : Heap} {a : Addr} {k : ClassId} {n j : Int32} {vs : List Value} {dv : Value} {ty : FieldType}
theorem own_retI (X : Stand p l e R s m args below meth c T locs cells slots) (hx : p.tables.exec = Jvm.exec) {pc : Nat} {Ls : Array Slot} {z : Int32} {rest : List Value} (hret : meth.sig.returnType = some .int) (hd : decode c.code pc = .ok (.ireturn, 1)) {fs : List Frame}
    (hl : ∀ (f : JFrame) (acts : List Action), f.method = m → f.locked = none → f.entered = [] → (doReturn e (T.setTop f) acts (some (.int z))).1 = T.setFrames fs) : Steps p.tables e below (T.setTop (mkF m pc Ls (.int z :: rest))) (T.setFrames fs) :=
  retOut X hx hret rfl (Or.inl ⟨rfl, Or.inl rfl, _, rfl⟩) hd hl
/-- the run from st ends as the contract says -/
def own_Ends (p : Program) (e : Env) (below : List Frame) (s : State) (C S : Nat) (Q : Option Value → Heap → List Loc → Prop) (st : State) : Prop :=
  ∃ s₂ o, Steps p.tables e below st s₂ ∧ s₂.status = .running ∧ Ended s₂ below o ∧ ∃ v L, o = .returned v ∧ Q v s₂.heap L ∧ FrameEnd s o s₂ L C S
theorem own_step {C S : Nat} {Q : Option Value → Heap → List Loc → Prop} {st st' : State} (f : ∀ t, Steps p.tables e below st' t → Steps p.tables e below st t) (h : own_Ends p e below s C S Q st') : own_Ends p e below s C S Q st := by
  obtain ⟨s2, o, h1, h2⟩ := h
  exact ⟨s2, o, f _ h1, h2⟩
theorem own_sstep {st st' t : State} (f : ∀ t, Steps p.tables e below st' t → Steps p.tables e below st t) (h : Steps p.tables e below st' t) : Steps p.tables e below st t := f _ h
theorem own_ret (X : Stand p l e R s m args below meth c T locs cells slots) (hlocks : meth.locks = false) {C S : Nat} {Q : Option Value → Heap → List Loc → Prop} {g : JFrame} (v : Option Value) (hv : meth.sig.returnType = none → v = none)
    (st : ∀ fs, (∀ (f : JFrame) (acts : List Action), f.method = m → f.locked = none → f.entered = [] → (doReturn e (T.setTop f) acts v).1 = T.setFrames fs) → Steps p.tables e below (T.setTop g) (T.setFrames fs))
    (hQ : Q v T.heap locs) (hc : cells ≤ C) (hs : slots ≤ S) : own_Ends p e below s C S Q (T.setTop g) := by
  obtain ⟨fs, hr, hrun, hended, hW, hsame⟩ := X.leave (v := v) hv
  exact ⟨_, _, st fs hr, hrun, hended, _, _, rfl, hQ, ⟨_, rfl⟩, hW, hsame.mono hc hs⟩
theorem own_b1 {P : Prop} [Decidable P] (hp : P) : ¬ ((if P then (1 : Int32) else (0 : Int32)) = 0) := by rw [if_pos hp]; decide
theorem own_b1n {P : Prop} [Decidable P] (hp : ¬ P) : ¬ ((if P then (0 : Int32) else (1 : Int32)) = 0) := by rw [if_neg hp]; decide
theorem own_lrem {tb : Tables} [Ours tb] {target : State} {g : JFrame} (ha : At T m c below) (hx : tb.exec = Jvm.exec) (hg : g.method = m) {x y : Int64} {rest : List Value} (hd : decode c.code g.pc = .ok (.lrem, 1)) (hs : g.stack = .long y :: .long x :: rest) (hy : y ≠ 0) (hr : Steps tb e below (T.setTop { g with pc := g.pc + 1, stack := .long (x % y) :: rest }) target) : Steps tb e below (T.setTop g) target :=
  XS.lrem ha hx hg hd hs hy (by rw [lrem_mod]; exact hr)
theorem own_len (X : Stand p l e R s m args below meth c T locs cells slots) (hx : p.tables.exec = Jvm.exec) (hZ : Z.Warmed39 s.vm) (eT : T.heap = h) (A : Arv Z h a k ty n vs dv) {g : JFrame} (hg : g.method = m) {rest : List Value} (hs : g.stack = .ref a :: rest) (hd : decode c.code g.pc = .ok (.arraylength, 1)) :
    ∀ target, Steps p.tables e below (T.setTop { g with pc := g.pc + 1, stack := .int n :: rest }) target → Steps p.tables e below (T.setTop g) target := by
  obtain ⟨cl, Ar, -, S, N, -, -⟩ := A
  intro t k
  refine X.arraylength hx (by rw [eT]; exact Ar.1) (State.isArrayOf_alike hZ.alike Ar.2.1) hg hs hd t ?_
  rw [len_of S N]; exact k
theorem own_ldI (X : Stand p l e R s m args below meth c T locs cells slots) (hx : p.tables.exec = Jvm.exec) (hZ : Z.Warmed39 s.vm) (eT : T.heap = h) (A : Arv Z h a k .int n vs dv) {j : Int32} {v : Value} (hj : ¬ j < 0 ∧ j < n) (hv : vs.getD j.toNatClampNeg dv = v) {g : JFrame} (hg : g.method = m) {rest : List Value} (hs : g.stack = .int j :: .ref a :: rest) (hd : decode c.code g.pc = .ok (.iaload, 1)) :
    ∀ target, Steps p.tables e below (T.setTop { g with pc := g.pc + 1, stack := v :: rest }) target → Steps p.tables e below (T.setTop g) target := by
  obtain ⟨cl, Ar, -, S, N, H, -⟩ := A
  intro t k
  exact X.iaload hx (by rw [eT]; exact Ar.1) (State.isArrayOf_alike hZ.alike Ar.2.1) Ar.2.2 (inb_of S hj) (H.at (inb_of S hj) hv) hg hs hd t k
theorem own_ldJ (X : Stand p l e R s m args below meth c T locs cells slots) (hx : p.tables.exec = Jvm.exec) (hZ : Z.Warmed39 s.vm) (eT : T.heap = h) (A : Arv Z h a k .long n vs dv) {j : Int32} {v : Value} (hj : ¬ j < 0 ∧ j < n) (hv : vs.getD j.toNatClampNeg dv = v) {g : JFrame} (hg : g.method = m) {rest : List Value} (hs : g.stack = .int j :: .ref a :: rest) (hd : decode c.code g.pc = .ok (.laload, 1)) :
    ∀ target, Steps p.tables e below (T.setTop { g with pc := g.pc + 1, stack := v :: rest }) target → Steps p.tables e below (T.setTop g) target := by
  obtain ⟨cl, Ar, -, S, N, H, -⟩ := A
  intro t k
  exact X.laload hx (by rw [eT]; exact Ar.1) (State.isArrayOf_alike hZ.alike Ar.2.1) Ar.2.2 (inb_of S hj) (H.at (inb_of S hj) hv) hg hs hd t k
theorem own_ldC (X : Stand p l e R s m args below meth c T locs cells slots) (hx : p.tables.exec = Jvm.exec) (hZ : Z.Warmed39 s.vm) (eT : T.heap = h) (A : Arv Z h a k .char n vs dv) {j : Int32} {v : Value} (hj : ¬ j < 0 ∧ j < n) (hv : vs.getD j.toNatClampNeg dv = v) {g : JFrame} (hg : g.method = m) {rest : List Value} (hs : g.stack = .int j :: .ref a :: rest) (hd : decode c.code g.pc = .ok (.caload, 1)) :
    ∀ target, Steps p.tables e below (T.setTop { g with pc := g.pc + 1, stack := v :: rest }) target → Steps p.tables e below (T.setTop g) target := by
  obtain ⟨cl, Ar, -, S, N, H, -⟩ := A
  intro t k
  exact X.caload hx (by rw [eT]; exact Ar.1) (State.isArrayOf_alike hZ.alike Ar.2.1) Ar.2.2 (inb_of S hj) (H.at (inb_of S hj) hv) hg hs hd t k
theorem own_ldB (X : Stand p l e R s m args below meth c T locs cells slots) (hx : p.tables.exec = Jvm.exec) (hZ : Z.Warmed39 s.vm) (eT : T.heap = h) (A : Arv Z h a k .byte n vs dv) {j : Int32} {v : Value} (hj : ¬ j < 0 ∧ j < n) (hv : vs.getD j.toNatClampNeg dv = v) {g : JFrame} (hg : g.method = m) {rest : List Value} (hs : g.stack = .int j :: .ref a :: rest) (hd : decode c.code g.pc = .ok (.baload, 1)) :
    ∀ target, Steps p.tables e below (T.setTop { g with pc := g.pc + 1, stack := v :: rest }) target → Steps p.tables e below (T.setTop g) target := by
  obtain ⟨cl, Ar, -, S, N, H, -⟩ := A
  intro t k
  exact X.baloadBytes hx (by rw [eT]; exact Ar.1) (State.isArrayOf_alike hZ.alike Ar.2.1) Ar.2.2 (inb_of S hj) (H.at (inb_of S hj) hv) hg hs hd t k
theorem own_stI (X : Stand p l e R s m args below meth c T locs cells slots) (hx : p.tables.exec = Jvm.exec) (hZ : Z.Warmed39 s.vm) (eT : T.heap = h) (A : Arv Z h a k .int n vs dv) {j x : Int32} {i : Nat} (hj : ¬ j < 0 ∧ j < n) (hi : j.toNatClampNeg = i) (hl : i < vs.length) {g : JFrame} (hg : g.method = m) {rest : List Value} (hs : g.stack = .int x :: .int j :: .ref a :: rest) (hd : decode c.code g.pc = .ok (.iastore, 1)) :
    ∃ T' h', Stand p l e R s m args below meth c T' (locs ++ [⟨a, j.toNatClampNeg⟩]) cells slots ∧ T'.heap = h' ∧ Wr h h' a j.toNatClampNeg (.int x) ∧ Arv Z h' a k .int n (vs.set i (.int x)) dv ∧ ∀ target, Steps p.tables e below (T'.setTop { g with pc := g.pc + 1, stack := rest }) target → Steps p.tables e below (T.setTop g) target := by
  obtain ⟨cl, Ar, q, S, N, H, G⟩ := A
  obtain ⟨T', h', X', e', W, st⟩ := stI X hx hZ eT Ar (inb_of S hj) hg hs hd
  exact ⟨T', h', X', e', W, Arv.set Ar q S N H G rfl W i hi hl, st⟩
theorem own_stJ (X : Stand p l e R s m args below meth c T locs cells slots) (hx : p.tables.exec = Jvm.exec) (hZ : Z.Warmed39 s.vm) (eT : T.heap = h) (A : Arv Z h a k .long n vs dv) {j : Int32} {x : Int64} {i : Nat} (hj : ¬ j < 0 ∧ j < n) (hi : j.toNatClampNeg = i) (hl : i < vs.length) {g : JFrame} (hg : g.method = m) {rest : List Value} (hs : g.stack = .long x :: .int j :: .ref a :: rest) (hd : decode c.code g.pc = .ok (.lastore, 1)) :
    ∃ T' h', Stand p l e R s m args below meth c T' (locs ++ [⟨a, j.toNatClampNeg⟩]) cells slots ∧ T'.heap = h' ∧ Wr h h' a j.toNatClampNeg (.long x) ∧ Arv Z h' a k .long n (vs.set i (.long x)) dv ∧ ∀ target, Steps p.tables e below (T'.setTop { g with pc := g.pc + 1, stack := rest }) target → Steps p.tables e below (T.setTop g) target := by
  obtain ⟨cl, Ar, q, S, N, H, G⟩ := A
  obtain ⟨T', h', X', e', W, st⟩ := stJ X hx hZ eT Ar (inb_of S hj) hg hs hd
  exact ⟨T', h', X', e', W, Arv.set Ar q S N H G rfl W i hi hl, st⟩
theorem own_stB (X : Stand p l e R s m args below meth c T locs cells slots) (hx : p.tables.exec = Jvm.exec) (hZ : Z.Warmed39 s.vm) (eT : T.heap = h) (A : Arv Z h a k .byte n vs dv) {j x : Int32} {i : Nat} (hj : ¬ j < 0 ∧ j < n) (hi : j.toNatClampNeg = i) (hl : i < vs.length) {g : JFrame} (hg : g.method = m) {rest : List Value} (hs : g.stack = .int x :: .int j :: .ref a :: rest) (hd : decode c.code g.pc = .ok (.bastore, 1)) :
    ∃ T' h', Stand p l e R s m args below meth c T' (locs ++ [⟨a, j.toNatClampNeg⟩]) cells slots ∧ T'.heap = h' ∧ Wr h h' a j.toNatClampNeg (.int x.toInt8.toInt32) ∧ Arv Z h' a k .byte n (vs.set i (.int x.toInt8.toInt32)) dv ∧ ∀ target, Steps p.tables e below (T'.setTop { g with pc := g.pc + 1, stack := rest }) target → Steps p.tables e below (T.setTop g) target := by
  obtain ⟨cl, Ar, q, S, N, H, G⟩ := A
  obtain ⟨T', h', X', e', W, st⟩ := stB X hx hZ eT Ar (inb_of S hj) hg hs hd
  exact ⟨T', h', X', e', W, Arv.set Ar q S N H G (fits_nar_byte x) W i hi hl, st⟩
theorem own_stC (X : Stand p l e R s m args below meth c T locs cells slots) (hx : p.tables.exec = Jvm.exec) (hZ : Z.Warmed39 s.vm) (eT : T.heap = h) (A : Arv Z h a k .char n vs dv) {j x : Int32} {i : Nat} (hj : ¬ j < 0 ∧ j < n) (hi : j.toNatClampNeg = i) (hl : i < vs.length) {g : JFrame} (hg : g.method = m) {rest : List Value} (hs : g.stack = .int x :: .int j :: .ref a :: rest) (hd : decode c.code g.pc = .ok (.castore, 1)) :
    ∃ T' h', Stand p l e R s m args below meth c T' (locs ++ [⟨a, j.toNatClampNeg⟩]) cells slots ∧ T'.heap = h' ∧ Wr h h' a j.toNatClampNeg (.int x.toUInt32.toUInt16.toUInt32.toInt32) ∧ Arv Z h' a k .char n (vs.set i (.int x.toUInt32.toUInt16.toUInt32.toInt32)) dv ∧ ∀ target, Steps p.tables e below (T'.setTop { g with pc := g.pc + 1, stack := rest }) target → Steps p.tables e below (T.setTop g) target := by
  obtain ⟨cl, Ar, q, S, N, H, G⟩ := A
  obtain ⟨T', h', X', e', W, st⟩ := stC X hx hZ eT Ar (inb_of S hj) hg hs hd
  exact ⟨T', h', X', e', W, Arv.set Ar q S N H G (fits_nar_char x) W i hi hl, st⟩
theorem own_eqI {t : Term} {q : Int32} (hq : (Jvm.Cond.eq t (.int q)).value args s none s [] = some true) : t.eval args s none [] s = some (.int q) := by
  obtain ⟨x, y, ha, hb, k1, k2⟩ := cmp_v (Or.inl hq)
  rw [Term.int_eval] at hb
  cases hb
  obtain ⟨z, rfl⟩ := k2
  simp [Cond.value, ha, Term.eval] at hq
  rw [ha, hq]
theorem own_eqR {t u : Term} {b : Addr} (hq : (Jvm.Cond.eq t u).value args s none s [] = some true) (hu : u.eval args s none [] s = some (.ref b)) : t.eval args s none [] s = some (.ref b) := by
  obtain ⟨x, y, ha, hb, k1, k2⟩ := cmp_v (Or.inl hq)
  cases hu.symm.trans hb
  have q := gotT (eq_R ha hb k2.2 rfl) hq
  rw [ha, q]
theorem own_lenA {t : Term} {cl : Cell} {q : Int32} (ht : t.eval args s none [] s = some (.ref a)) (A : Arr s s.heap a cl ty) (hq : (Term.length t).eval args s none [] s = some (.int q)) : cl.slots.size < 2 ^ 31 ∧ cl.slots.size.toInt32 = q := by
  have ha := Arr.fin (U := s) (Vm.Alike.refl _) A
  by_cases hl : cl.slots.size < 2 ^ 31
  · rw [len_f ht ha hl] at hq
    exact ⟨hl, Value.int.inj (Option.some.inj hq)⟩
  · simp [Term.eval, ht, ha, hl] at hq
theorem own_ldR (X : Stand p l e R s m args below meth c T locs cells slots) (hx : p.tables.exec = Jvm.exec) (hZ : Z.Warmed39 s.vm) (eT : T.heap = h) (A : Arv Z h a k ty n vs dv) (hr : ty.isReference = true) {j : Int32} {v : Value} (hj : ¬ j < 0 ∧ j < n) (hv : vs.getD j.toNatClampNeg dv = v) {g : JFrame} (hg : g.method = m) {rest : List Value} (hs : g.stack = .int j :: .ref a :: rest) (hd : decode c.code g.pc = .ok (.aaload, 1)) :
    ∀ target, Steps p.tables e below (T.setTop { g with pc := g.pc + 1, stack := v :: rest }) target → Steps p.tables e below (T.setTop g) target := by
  obtain ⟨cl, Ar, -, S, N, H, -⟩ := A
  intro t k
  exact X.aaload hx (by rw [eT]; exact Ar.1) (State.isArrayOf_alike hZ.alike Ar.2.1) hr Ar.2.2 (inb_of S hj) (H.at (inb_of S hj) hv) hg hs hd t k
theorem own_nf {y y' : MethodName} (hc : y'.cls = y.cls) (w : (Jvm.Cond.instanceMethod y).before args s = true) (hn : NotFace s y) : NotFace s y' := fun r0 h0 => by
  obtain ⟨mk, methM, hnamed, -⟩ := Cond.instanceMethod_spec w
  obtain ⟨kr, h1, h2⟩ := hn mk hnamed
  have q1 := findClass_of_methodNamed hnamed
  have q2 := findClass_of_methodNamed h0
  rw [hc] at q2
  have q3 : mk.cls = r0.cls := Option.some.inj (q1.symm.trans q2)
  exact ⟨kr, q3 ▸ h1, h2⟩
theorem own_selp {y : MethodName} (w : (Jvm.Cond.instanceMethod y).before args s = true) (hn : NotFace s y) (hp : s.PrivateAt y) (hy : y.cls ≠ "java/lang/invoke/MethodHandle" ∧ y.cls ≠ "java/lang/invoke/VarHandle") : (Jvm.Cond.selects y.cls y y).before args s = true := by
  obtain ⟨mk, methM, hnamed, -⟩ := Cond.instanceMethod_spec w
  obtain ⟨kr, h1, h2⟩ := hn mk hnamed
  exact selects_self_of_private (findClass_of_methodNamed hnamed) h1 h2 hp w hy
theorem own_same {y : MethodName} (w : (Jvm.Cond.instanceMethod y).before args s = true) (hn : NotFace s y) (hy : y.cls ≠ "java/lang/invoke/MethodHandle" ∧ y.cls ≠ "java/lang/invoke/VarHandle") : (Jvm.Cond.sameMethod y.cls y.cls y.name y.desc).before args s = true := by
  obtain ⟨mk, methM, hnamed, -⟩ := Cond.instanceMethod_spec w
  obtain ⟨kr, h1, h2⟩ := hn mk hnamed
  have q1 := findClass_of_methodNamed hnamed
  have q2 := State.methodFound?_of_named hnamed hy
  have q3 : s.methodNamed? ⟨y.cls, y.name, y.desc⟩ = some mk := hnamed
  simp [Cond.before, Cond.holds, Cond.value, q1, q2, q3, h1, h2]
theorem own_stR (X : Stand p l e R s m args below meth c T locs cells slots) (hx : p.tables.exec = Jvm.exec) (hZ : Z.Warmed39 s.vm) (eT : T.heap = h) (A : Arv Z h a k ty n vs dv) (hr : ty.isReference = true) {j : Int32} {v : Value} {i : Nat} (F : Sto Z h a v) (hf : fits ty v = true) (hj : ¬ j < 0 ∧ j < n) (hi : j.toNatClampNeg = i) (hl : i < vs.length) {g : JFrame} (hg : g.method = m) {rest : List Value} (hs : g.stack = v :: .int j :: .ref a :: rest) (hd : decode c.code g.pc = .ok (.aastore, 1)) :
    ∃ T' h', Stand p l e R s m args below meth c T' (locs ++ [⟨a, j.toNatClampNeg⟩]) cells slots ∧ T'.heap = h' ∧ Wr h h' a j.toNatClampNeg v ∧ Arv Z h' a k ty n (vs.set i v) dv ∧ ∀ target, Steps p.tables e below (T'.setTop { g with pc := g.pc + 1, stack := rest }) target → Steps p.tables e below (T.setTop g) target := by
  obtain ⟨cl, Ar, q, S, N, H, G⟩ := A
  obtain ⟨T', h', X', e', W, st⟩ := stR X hx hZ eT Ar (inb_of S hj) hr F hg hs hd
  exact ⟨T', h', X', e', W, Arv.set Ar q S N H G hf W i hi hl, st⟩
theorem own_stoA {y : Addr} {C : String} {t0 : FieldType} (A : Arv Z h a k t0 n vs dv) (O : OvrA Z k ty C) (I : Ins Z h y C true) : Sto Z h a (.ref y) := by
  obtain ⟨cl, Ar, q, -⟩ := A
  exact Sto.ofVA Ar q O I
theorem own_stoV {y : Addr} {C : String} {t0 : FieldType} (A : Arv Z h a k t0 n vs dv) (O : Ovr Z k C) (I : Ins Z h y C true) : Sto Z h a (.ref y) := by
  obtain ⟨cl, Ar, q, -⟩ := A
  exact Sto.ofV Ar q O I
theorem own_getD_cp (vs vd : List Value) (dv dd : Value) (sp dp nn i : Nat) : ((vd ++ List.replicate (dp + nn) dd).take dp ++ ((List.range nn).map fun i => vs.getD (sp + i) dv) ++ (vd ++ List.replicate (dp + nn) dd).drop (dp + nn)).getD i dd = if dp ≤ i ∧ i < dp + nn then vs.getD (sp + (i - dp)) dv else vd.getD i dd := by
  have hlen : dp ≤ (vd ++ List.replicate (dp + nn) dd).length := by simp; omega
  have hpad := pad_rep vd dd (dp + nn) i
  by_cases h1 : i < dp
  · rw [if_neg (by omega), ← hpad]
    have e1 : ((vd ++ List.replicate (dp + nn) dd).take dp).length = dp := by rw [List.length_take]; omega
    rw [List.getD_eq_getElem?_getD, List.append_assoc, List.getElem?_append_left (by rw [e1]; exact h1), List.getElem?_take, if_pos h1, List.getD_eq_getElem?_getD]
  · by_cases h2 : i < dp + nn
    · rw [if_pos ⟨by omega, h2⟩]
      have e1 : ((vd ++ List.replicate (dp + nn) dd).take dp).length = dp := by rw [List.length_take]; omega
      rw [List.getD_eq_getElem?_getD, List.append_assoc, List.getElem?_append_right (by rw [e1]; omega), e1, List.getElem?_append_left (by simp; omega)]
      simp [show i - dp < nn by omega]
    · rw [if_neg (by omega), ← hpad]
      have e1 : ((vd ++ List.replicate (dp + nn) dd).take dp).length = dp := by rw [List.length_take]; omega
      rw [List.getD_eq_getElem?_getD, List.getElem?_append_right (by rw [List.length_append, e1]; simp; omega), List.getElem?_drop, List.getD_eq_getElem?_getD]
      congr 2
      rw [List.length_append, e1]; simp; omega
theorem own_cp {b : Addr} {a0 : Array Value} (X : Stand p l e R s m args below meth c T locs cells slots) (hx : p.tables.exec = Jvm.exec) (hZ : Z.Warmed39 s.vm) {own : String} {index : Nat} (hown : s.vm.findClass own = some m.cls)
    (w1 : (Cond.methodLink own index Jvm.Stand.acN).before a0 Z = true) (w2 : (Cond.native Jvm.Stand.acN).before a0 Z = true) (w3 : (Cond.static Jvm.Stand.acN).before a0 Z = true) (w4 : (Cond.initialized "java/lang/System").before a0 Z = true) (eT : T.heap = h)
    {k' : ClassId} {z z' sp dp nn : Int32} {vd : List Value} {dd : Value} (A : Arv Z h a k ty z vs dv) (B : Arv Z h b k' ty z' vd dd) (hty : refKind ty = false)
    (h1 : 0 ≤ sp.toInt) (h2 : 0 ≤ dp.toInt) (h3 : 0 ≤ nn.toInt) (h4 : sp.toInt + nn.toInt ≤ z.toInt) (h5 : dp.toInt + nn.toInt ≤ z'.toInt) {n0 : Nat} (N : Fr n0 locs) (ge : n0 ≤ b)
    {g : JFrame} (hg : g.method = m) (hsize : g.locals.size = c.maxLocals) {rest : List Value} (hs : g.stack = .int nn :: .int dp :: .ref b :: .int sp :: .ref a :: rest) (hd : decode c.code g.pc = .ok (.invokestatic index, 3))
    (hf : 1 ≤ R.frames) {W : Nat} (hW : 2 * g.monitorRoom + (rest.map fun v => v.category).sum ≤ W) (hlo : W + 18 ≤ R.locals) :
    ∃ T' h' L vd', Stand p l e R s m args below meth c T' L cells slots ∧ T'.heap = h' ∧ Fr n0 L ∧ Keep h h' [b] ∧ Arv Z h' b k' ty z' vd' dd ∧ (∀ i : Nat, vd'.getD i dd = if dp.toNatClampNeg ≤ i ∧ i < dp.toNatClampNeg + nn.toNatClampNeg then vs.getD (sp.toNatClampNeg + (i - dp.toNatClampNeg)) dv else vd.getD i dd) ∧
      ∀ target, Steps p.tables e below (T'.setTop { g with pc := g.pc + 3, stack := rest }) target → Steps p.tables e below (T.setTop g) target := by
  have e0 : (0 : Int32).toInt = 0 := by decide
  have lt : ∀ {x : Int32}, 0 ≤ x.toInt → ¬ x < 0 := fun q => by rw [Int32.lt_iff_toInt_lt]; omega
  have nz : ¬ z < 0 := lt (by omega)
  have nz' : ¬ z' < 0 := lt (by omega)
  have c1 := nat_of (lt h1); have c2 := nat_of (lt h2); have c3 := nat_of (lt h3); have c4 := nat_of nz; have c5 := nat_of nz'
  obtain ⟨T', h', L, X', e', N', K', V', st⟩ := cpA X hx hZ hown w1 w2 w3 w4 eT A (B.pad (pad_rep vd dd (dp.toNatClampNeg + nn.toNatClampNeg))) (us := _) (Or.inl ⟨rfl, hty⟩) (lt h1) (lt h2) (lt h3) (by omega) (by omega) rfl (by simp) N ge hg hsize hs hd hf hW (by exact hlo)
  exact ⟨T', h', L, _, X', e', N', K', V', fun i => own_getD_cp vs vd dv dd _ _ _ i, st⟩
end Own
end Jvm.RoadKit

namespace Jvm.Pilot.@@N@@
open Jvm Jvm.ClassFile Sem Op Lib Jvm.Free Jvm.Stand Jvm.LawKit Jvm.RoadKit Bundle Jvm.Pilot.@@N@@.Jvm.D
theorem pd_0 : parseMethodDescriptor "()V" = some ⟨[], none⟩ := by decide +kernel
theorem pd_1 : parseMethodDescriptor "()I" = some ⟨[], some .int⟩ := by decide +kernel

theorem own_k5 (x : Int32) : ¬ ((x &&& (2147483647 : Int32)) % (5 : Int32)) < (0 : Int32) ∧ ((x &&& (2147483647 : Int32)) % (5 : Int32)) < (5 : Int32) := by
  have a := c_mask x 2147483647 31 (by decide) (by decide)
  have h : 0 ≤ (x &&& (2147483647 : Int32)).toInt := by omega
  have b := (c_irem (x &&& (2147483647 : Int32)) 5 5 (by decide)).1 h
  rw [Int32.lt_iff_toInt_lt, Int32.lt_iff_toInt_lt]
  have d0 : (0 : Int32).toInt = 0 := by decide
  have d5 : (5 : Int32).toInt = 5 := by decide
  omega
theorem own_ltt {k a b : Int32} (h : k < a) (q : a.toInt ≤ b.toInt) : k < b := by rw [Int32.lt_iff_toInt_lt] at h ⊢; omega
theorem own_mid {k a b : Int32} (h1 : ¬ k < a) (h2 : k < b) (q : b.toInt = a.toInt + 1) : a = k := by
  rw [Int32.lt_iff_toInt_lt] at h1 h2
  apply Int32.toInt_inj.mp; omega

theorem d5_0 : decode jdk_22_method_1_code 0 = .ok (.aload_n 0, 1) := by decide +kernel
theorem d5_1 : decode jdk_22_method_1_code 1 = .ok (.invokespecial 1, 3) := by decide +kernel
theorem d5_4 : decode jdk_22_method_1_code 4 = .ok (.return_, 1) := by decide +kernel
theorem pn_3 : plainName "java/util/AbstractCollection" = true := by first | (simp [plainName, overriddenIn]; done) | decide +kernel
theorem ef_5_R (m : MethodId) (x0 : Addr) : entryFrame m #[(.ref x0)] 1 = mkF m 0 #[.val (.ref x0)] [] := by first | (simp [entryFrame, mkF, argsToLocals, Value.category]; done) | rfl
def Q_rm5 (Z : State) (x0 : Addr) (h0 : Heap) (n0 : Nat) (v : Option Value) (h : Heap) (L : List Loc) : Prop := v = none ∧ Fr n0 L ∧ h = h0
set_option maxRecDepth 65536 in
set_option maxHeartbeats 40000000 in
theorem rm5 (l : Launch) (Z : State) (a0 : Array Value) (hw : ∀ d ∈ tables_1, d.before a0 Z = true) (ws : List Jvm.Cond) (x0 : Addr) (h0 : Heap) (n0 : Nat) (Z0 : n0 ≤ h0.size) :
    MetFree l (⟨"java/util/AbstractCollection", "<init>", "()V"⟩ : MethodName) (head1 (Jvm.Cond.code (⟨"java/util/AbstractCollection", "<init>", "()V"⟩ : MethodName) jdk_22_method_1_code 1 none :: ws) ({ frames := 1, cells := 0, slots := 0, locals := 12 } : Room)) (fun a U => a = #[(.ref x0)] ∧ Z.Warmed39 U.vm ∧ U.heap = h0) (fun _ _ _ _ _ => True) (fun _ U o U' => ∃ v L, o = .returned v ∧ Q_rm5 Z x0 h0 n0 v U'.heap L ∧ FrameEnd U o U' L ({ frames := 1, cells := 0, slots := 0, locals := 12 } : Room).cells ({ frames := 1, cells := 0, slots := 0, locals := 12 } : Room).slots) := by
  refine MetFree.of_bodySF (plainFor_of_name pn_3) hisR ?_
  intro p e s m args below meth c s₁ Bd hml0 hP hK
  obtain ⟨rfl, hZ, hh⟩ := hP
  have hx := Bd.exec
  have hby := Bd.bytes
  have hml : c.maxLocals = 1 := hml0
  have hown : s.vm.findClass "java/util/AbstractCollection" = some m.cls := findClass_of_methodNamed Bd.named
  have hnm := (name_of_methodNamed Bd.named Bd.method).1
  have X0 : Stand p l e ({ frames := 1, cells := 0, slots := 0, locals := 12 } : Room) s m #[(.ref x0)] below meth c s₁ [] 0 0 := Stand.of_body Bd
  have e0 : s₁.heap = h0 := by rw [← hh, Bd.state]; rfl
  have N0 := Fr.nil n0
  show own_Ends p e below s ({ frames := 1, cells := 0, slots := 0, locals := 12 } : Room).cells ({ frames := 1, cells := 0, slots := 0, locals := 12 } : Room).slots (Q_rm5 Z x0 h0 n0) (s₁.setTop (entryFrame m #[(.ref x0)] 1))
  rw [ef_5_R]
  refine own_step (st' := s₁.setTop (mkF m 1 #[.val (.ref x0)] [(.ref x0)])) (fun t k => XS.aloadN X0.here hx rfl (hb hby d5_0) rfl rfl k) ?_
  obtain ⟨T1, X1, e1, st1⟩ := initO X0 hx hZ hown (hw _ (List.mem_of_getElem? (i := 28) rfl)) (hw _ (List.mem_of_getElem? (i := 8) rfl)) (hw _ (List.mem_of_getElem? (i := 9) rfl)) e0 (g := (mkF m 1 #[.val (.ref x0)] [(.ref x0)])) rfl (by rw [hml]; rfl) rfl (hb hby d5_1) (by decide) (W := 0) (by show 2 * 0 + _ ≤ _; exact Nat.le_of_eq rfl) (by decide)
  refine own_step (st' := T1.setTop (mkF m 4 #[.val (.ref x0)] [])) st1 ?_
  refine own_ret X1 Bd.notSynchronized (none) (fun _ => rfl) (fun fs hr => X1.returnOut hx Bd.returns (hb hby d5_4) hr) ?_ (by decide) (by decide)
  rw [e1]
  exact ⟨rfl, N0, rfl⟩
theorem d4_0 : decode jdk_39_method_1_code 0 = .ok (.aload_n 0, 1) := by decide +kernel
theorem d4_1 : decode jdk_39_method_1_code 1 = .ok (.invokespecial 1, 3) := by decide +kernel
theorem d4_4 : decode jdk_39_method_1_code 4 = .ok (.aload_n 0, 1) := by decide +kernel
theorem d4_5 : decode jdk_39_method_1_code 5 = .ok (.iconst 0, 1) := by decide +kernel
theorem d4_6 : decode jdk_39_method_1_code 6 = .ok (.putfield 7, 3) := by decide +kernel
theorem d4_9 : decode jdk_39_method_1_code 9 = .ok (.return_, 1) := by decide +kernel
theorem pn_4 : plainName "java/util/AbstractList" = true := by first | (simp [plainName, overriddenIn]; done) | decide +kernel
theorem ef_4_R (m : MethodId) (x0 : Addr) : entryFrame m #[(.ref x0)] 1 = mkF m 0 #[.val (.ref x0)] [] := by first | (simp [entryFrame, mkF, argsToLocals, Value.category]; done) | rfl
def Q_rm4 (Z : State) (x0 : Addr) (h0 : Heap) (n0 : Nat) (v : Option Value) (h : Heap) (L : List Loc) : Prop := v = none ∧ Fr n0 L ∧ Keep h0 h [x0] ∧ Fld Z h x0 "java/util/ArrayList" "size" "I" (.int (0 : Int32)) ∧ Fld Z h x0 "java/util/ArrayList" "elementData" "[Ljava/lang/Object;" .null
set_option maxRecDepth 65536 in
set_option maxHeartbeats 40000000 in
theorem rm4 (l : Launch) (Z : State) (a0 : Array Value) (hw : ∀ d ∈ tables_1, d.before a0 Z = true) (ws : List Jvm.Cond) (x0 : Addr) (h0 : Heap) (n0 : Nat) (Z0 : n0 ≤ h0.size) (p_0 : Fld Z h0 x0 "java/util/AbstractList" "modCount" "I" (.int (0 : Int32))) (p_1 : Fld Z h0 x0 "java/util/ArrayList" "size" "I" (.int (0 : Int32))) (p_2 : Fld Z h0 x0 "java/util/ArrayList" "elementData" "[Ljava/lang/Object;" .null) (p_3 : Exa Z h0 x0 "java/util/ArrayList") (p_4 : n0 ≤ x0) :
    MetFree l (⟨"java/util/AbstractList", "<init>", "()V"⟩ : MethodName) (head1 (Jvm.Cond.code (⟨"java/util/AbstractList", "<init>", "()V"⟩ : MethodName) jdk_39_method_1_code 1 none :: ws) ({ frames := 2, cells := 0, slots := 0, locals := 24 } : Room)) (fun a U => a = #[(.ref x0)] ∧ Z.Warmed39 U.vm ∧ U.heap = h0) (fun _ _ _ _ _ => True) (fun _ U o U' => ∃ v L, o = .returned v ∧ Q_rm4 Z x0 h0 n0 v U'.heap L ∧ FrameEnd U o U' L ({ frames := 2, cells := 0, slots := 0, locals := 24 } : Room).cells ({ frames := 2, cells := 0, slots := 0, locals := 24 } : Room).slots) := by
  refine MetFree.of_bodySF (plainFor_of_name pn_4) hisR ?_
  intro p e s m args below meth c s₁ Bd hml0 hP hK
  obtain ⟨rfl, hZ, hh⟩ := hP
  have hx := Bd.exec
  have hby := Bd.bytes
  have hml : c.maxLocals = 1 := hml0
  have hown : s.vm.findClass "java/util/AbstractList" = some m.cls := findClass_of_methodNamed Bd.named
  have hnm := (name_of_methodNamed Bd.named Bd.method).1
  have X0 : Stand p l e ({ frames := 2, cells := 0, slots := 0, locals := 24 } : Room) s m #[(.ref x0)] below meth c s₁ [] 0 0 := Stand.of_body Bd
  have e0 : s₁.heap = h0 := by rw [← hh, Bd.state]; rfl
  have N0 := Fr.nil n0
  show own_Ends p e below s ({ frames := 2, cells := 0, slots := 0, locals := 24 } : Room).cells ({ frames := 2, cells := 0, slots := 0, locals := 24 } : Room).slots (Q_rm4 Z x0 h0 n0) (s₁.setTop (entryFrame m #[(.ref x0)] 1))
  rw [ef_4_R]
  refine own_step (st' := s₁.setTop (mkF m 1 #[.val (.ref x0)] [(.ref x0)])) (fun t k => XS.aloadN X0.here hx rfl (hb hby d4_0) rfl rfl k) ?_
  obtain ⟨_, _, ⟨T1, L1, k1, n1⟩, -, X1, ⟨Lc1, hQ1, l1, y1, z1⟩, st1⟩ := X0.specialBack hx (y := (⟨"java/util/AbstractCollection", "<init>", "()V"⟩ : MethodName)) rfl hown (mvT hZ (hw _ (List.mem_of_getElem? (i := 22) rfl))) (mvT hZ (hw _ (List.mem_of_getElem? (i := 23) rfl))) (mvT hZ (hw _ (List.mem_of_getElem? (i := 27) rfl))) (by decide) (backOf (W := 0) (rm5 l Z a0 hw [] x0 h0 n0 Z0) hZ (hw _ (List.mem_of_getElem? (i := 27) rfl)) (hw _ (List.mem_of_getElem? (i := 26) rfl)) (by decide) (by decide)) (g := (mkF m 1 #[.val (.ref x0)] [(.ref x0)])) rfl (by rw [hml]; rfl) (Steps.refl _) (a := x0) (argsL := []) (rest := []) (lenOf pd_0 rfl) rfl (by show 2 * 0 + _ ≤ _; exact Nat.le_of_eq rfl) (hb hby d4_1) (fun _ _ => ⟨rfl, e0, (by decide : 0 + 0 ≤ _), (by decide : 0 + 0 ≤ _)⟩)
  dsimp only [Pt.U, Pt.locs, Pt.cells, Pt.slots] at X1 l1 y1 z1 st1 hQ1
  subst l1 y1 z1
  obtain ⟨rfl, N1q, e1⟩ := hQ1
  have N1 := Fr.app N0 N1q
  refine own_step (st' := T1.setTop (mkF m 4 #[.val (.ref x0)] [])) (fun t k => st1.trans k) ?_
  refine own_step (st' := T1.setTop (mkF m 5 #[.val (.ref x0)] [(.ref x0)])) (fun t k => XS.aloadN X1.here hx rfl (hb hby d4_4) rfl rfl k) ?_
  refine own_step (st' := T1.setTop (mkF m 6 #[.val (.ref x0)] [(.int (0 : Int32)), (.ref x0)])) (fun t k => XS.iconst X1.here hx rfl (hb hby d4_5) k) ?_
  obtain ⟨T2, h2, X2, e2, W2, st2⟩ := putF X1 hx hZ hown (host := "") (Or.inl (hw _ (List.mem_of_getElem? (i := 29) rfl))) Via.refl e1 p_0 p_3 (Or.inl (hw _ (List.mem_of_getElem? (i := 30) rfl))) (hw _ (List.mem_of_getElem? (i := 11) rfl)) (ty := .int) (by decide) rfl rfl (g := (mkF m 6 #[.val (.ref x0)] [(.int (0 : Int32)), (.ref x0)])) rfl rfl (hb hby d4_6)
  have F2 := p_0.same W2
  have f3 := p_1.other W2 (Or.inr (slot_ne (Or.inl (hw _ (List.mem_of_getElem? (i := 60) rfl))) (Or.inl (hw _ (List.mem_of_getElem? (i := 30) rfl))) (by decide) (t := .int) (t' := .int) (by decide) (by decide)))
  have f4 := p_2.other W2 (Or.inr (slot_ne (Or.inl (hw _ (List.mem_of_getElem? (i := 33) rfl))) (Or.inl (hw _ (List.mem_of_getElem? (i := 30) rfl))) (by decide) (t := (.array (.object "java/lang/Object"))) (t' := .int) (by decide) (by decide)))
  have f5 := p_3.wr W2
  have K6 : Keep h0 h2 [x0] := (Keep.refl h0 [x0]).wr W2 (Or.inl (List.mem_of_getElem? (i := 0) rfl))
  have Z7 : n0 ≤ h2.size := Nat.le_trans Z0 (Keep.of_wr W2).1
  have N8 := Fr.snoc X2 N1 p_4
  refine own_step (st' := T2.setTop (mkF m 9 #[.val (.ref x0)] [])) st2 ?_
  refine own_ret X2 Bd.notSynchronized (none) (fun _ => rfl) (fun fs hr => X2.returnOut hx Bd.returns (hb hby d4_9) hr) ?_ (by decide) (by decide)
  rw [e2]
  exact ⟨rfl, N8, K6, f3, f4⟩
theorem d3_0 : decode jdk_38_method_2_code 0 = .ok (.aload_n 0, 1) := by decide +kernel
theorem d3_1 : decode jdk_38_method_2_code 1 = .ok (.invokespecial 1, 3) := by decide +kernel
theorem d3_4 : decode jdk_38_method_2_code 4 = .ok (.aload_n 0, 1) := by decide +kernel
theorem d3_5 : decode jdk_38_method_2_code 5 = .ok (.getstatic 39, 3) := by decide +kernel
theorem d3_8 : decode jdk_38_method_2_code 8 = .ok (.putfield 9, 3) := by decide +kernel
theorem d3_11 : decode jdk_38_method_2_code 11 = .ok (.return_, 1) := by decide +kernel
theorem pn_5 : plainName "java/util/ArrayList" = true := by first | (simp [plainName, overriddenIn]; done) | decide +kernel
theorem ef_3_R (m : MethodId) (x0 : Addr) : entryFrame m #[(.ref x0)] 1 = mkF m 0 #[.val (.ref x0)] [] := by first | (simp [entryFrame, mkF, argsToLocals, Value.category]; done) | rfl
def Q_rm3 (Z : State) (x0 : Addr) (dd : Addr) (h0 : Heap) (n0 : Nat) (v : Option Value) (h : Heap) (L : List Loc) : Prop := v = none ∧ Fr n0 L ∧ Keep h0 h [x0] ∧ Fld Z h x0 "java/util/ArrayList" "size" "I" (.int (0 : Int32))
set_option maxRecDepth 65536 in
set_option maxHeartbeats 40000000 in
theorem rm3 (l : Launch) (Z : State) (a0 : Array Value) (hw : ∀ d ∈ tables_1, d.before a0 Z = true) (ws : List Jvm.Cond) (x0 : Addr) (dd : Addr) (h0 : Heap) (n0 : Nat) (Z0 : n0 ≤ h0.size) (O0 : Old Z n0 h0) (p_0 : Fld Z h0 x0 "java/util/AbstractList" "modCount" "I" (.int (0 : Int32))) (p_1 : Fld Z h0 x0 "java/util/ArrayList" "size" "I" (.int (0 : Int32))) (p_2 : Fld Z h0 x0 "java/util/ArrayList" "elementData" "[Ljava/lang/Object;" .null) (p_3 : Exa Z h0 x0 "java/util/ArrayList") (p_4 : n0 ≤ x0) (p_5 : Sta Z Z.heap "java/util/ArrayList" "DEFAULTCAPACITY_EMPTY_ELEMENTDATA" "[Ljava/lang/Object;" (.ref dd)) :
    MetFree l (⟨"java/util/ArrayList", "<init>", "()V"⟩ : MethodName) (head1 (Jvm.Cond.code (⟨"java/util/ArrayList", "<init>", "()V"⟩ : MethodName) jdk_38_method_2_code 1 none :: ws) ({ frames := 3, cells := 0, slots := 0, locals := 36 } : Room)) (fun a U => a = #[(.ref x0)] ∧ Z.Warmed39 U.vm ∧ U.heap = h0) (fun _ _ _ _ _ => True) (fun _ U o U' => ∃ v L, o = .returned v ∧ Q_rm3 Z x0 dd h0 n0 v U'.heap L ∧ FrameEnd U o U' L ({ frames := 3, cells := 0, slots := 0, locals := 36 } : Room).cells ({ frames := 3, cells := 0, slots := 0, locals := 36 } : Room).slots) := by
  refine MetFree.of_bodySF (plainFor_of_name pn_5) hisR ?_
  intro p e s m args below meth c s₁ Bd hml0 hP hK
  obtain ⟨rfl, hZ, hh⟩ := hP
  have hx := Bd.exec
  have hby := Bd.bytes
  have hml : c.maxLocals = 1 := hml0
  have hown : s.vm.findClass "java/util/ArrayList" = some m.cls := findClass_of_methodNamed Bd.named
  have hnm := (name_of_methodNamed Bd.named Bd.method).1
  have X0 : Stand p l e ({ frames := 3, cells := 0, slots := 0, locals := 36 } : Room) s m #[(.ref x0)] below meth c s₁ [] 0 0 := Stand.of_body Bd
  have e0 : s₁.heap = h0 := by rw [← hh, Bd.state]; rfl
  have N0 := Fr.nil n0
  show own_Ends p e below s ({ frames := 3, cells := 0, slots := 0, locals := 36 } : Room).cells ({ frames := 3, cells := 0, slots := 0, locals := 36 } : Room).slots (Q_rm3 Z x0 dd h0 n0) (s₁.setTop (entryFrame m #[(.ref x0)] 1))
  rw [ef_3_R]
  refine own_step (st' := s₁.setTop (mkF m 1 #[.val (.ref x0)] [(.ref x0)])) (fun t k => XS.aloadN X0.here hx rfl (hb hby d3_0) rfl rfl k) ?_
  obtain ⟨_, _, ⟨T1, L1, k1, n1⟩, -, X1, ⟨Lc1, hQ1, l1, y1, z1⟩, st1⟩ := X0.specialBack hx (y := (⟨"java/util/AbstractList", "<init>", "()V"⟩ : MethodName)) rfl hown (mvT hZ (hw _ (List.mem_of_getElem? (i := 16) rfl))) (mvT hZ (hw _ (List.mem_of_getElem? (i := 17) rfl))) (mvT hZ (hw _ (List.mem_of_getElem? (i := 21) rfl))) (by decide) (backOf (W := 0) (rm4 l Z a0 hw [] x0 h0 n0 Z0 p_0 p_1 p_2 p_3 p_4) hZ (hw _ (List.mem_of_getElem? (i := 21) rfl)) (hw _ (List.mem_of_getElem? (i := 20) rfl)) (by decide) (by decide)) (g := (mkF m 1 #[.val (.ref x0)] [(.ref x0)])) rfl (by rw [hml]; rfl) (Steps.refl _) (a := x0) (argsL := []) (rest := []) (lenOf pd_0 rfl) rfl (by show 2 * 0 + _ ≤ _; exact Nat.le_of_eq rfl) (hb hby d3_1) (fun _ _ => ⟨rfl, e0, (by decide : 0 + 0 ≤ _), (by decide : 0 + 0 ≤ _)⟩)
  dsimp only [Pt.U, Pt.locs, Pt.cells, Pt.slots] at X1 l1 y1 z1 st1 hQ1
  subst l1 y1 z1
  obtain ⟨rfl, N1q, K1, pq1_0, pq1_1⟩ := hQ1
  have N1 := Fr.app N0 N1q
  obtain ⟨h1, e1⟩ : ∃ z, T1.heap = z := ⟨_, rfl⟩
  rw [e1] at K1 pq1_0 pq1_1
  have f2 := p_3.keep K1
  have O3 := O0.keep K1 (allS p_4 all0)
  have K4 : Keep h0 h1 [x0] := (Keep.refl h0 [x0]).trans K1 (allS (Or.inl (List.mem_of_getElem? (i := 0) rfl)) all0)
  have Z5 : n0 ≤ h1.size := Nat.le_trans Z0 K1.1
  refine own_step (st' := T1.setTop (mkF m 4 #[.val (.ref x0)] [])) (fun t k => st1.trans k) ?_
  refine own_step (st' := T1.setTop (mkF m 5 #[.val (.ref x0)] [(.ref x0)])) (fun t k => XS.aloadN X1.here hx rfl (hb hby d3_4) rfl rfl k) ?_
  obtain ⟨T6, X6, e6, st6⟩ := getS2 X1 hx hZ hown (host := "") (Or.inl (hw _ (List.mem_of_getElem? (i := 31) rfl))) Via.refl e1 (p_5.ext O3.2) (g := (mkF m 5 #[.val (.ref x0)] [(.ref x0)])) rfl (hb hby d3_5)
  refine own_step (st' := T6.setTop (mkF m 8 #[.val (.ref x0)] [(.ref dd), (.ref x0)])) st6 ?_
  obtain ⟨T7, h7, X7, e7, W7, st7⟩ := putF X6 hx hZ hown (host := "") (Or.inl (hw _ (List.mem_of_getElem? (i := 32) rfl))) Via.refl e6 pq1_1 f2 (Or.inl (hw _ (List.mem_of_getElem? (i := 33) rfl))) (hw _ (List.mem_of_getElem? (i := 11) rfl)) (ty := (.array (.object "java/lang/Object"))) (by decide) rfl rfl (g := (mkF m 8 #[.val (.ref x0)] [(.ref dd), (.ref x0)])) rfl rfl (hb hby d3_8)
  have F7 := pq1_1.same W7
  have f8 := f2.wr W7
  have f9 := pq1_0.other W7 (Or.inr (slot_ne (Or.inl (hw _ (List.mem_of_getElem? (i := 60) rfl))) (Or.inl (hw _ (List.mem_of_getElem? (i := 33) rfl))) (by decide) (t := .int) (t' := (.array (.object "java/lang/Object"))) (by decide) (by decide)))
  have O10 := O3.wr W7 p_4
  have K11 : Keep h0 h7 [x0] := K4.wr W7 (Or.inl (List.mem_of_getElem? (i := 0) rfl))
  have Z12 : n0 ≤ h7.size := Nat.le_trans Z5 (Keep.of_wr W7).1
  have N13 := Fr.snoc X7 N1 p_4
  refine own_step (st' := T7.setTop (mkF m 11 #[.val (.ref x0)] [])) st7 ?_
  refine own_ret X7 Bd.notSynchronized (none) (fun _ => rfl) (fun fs hr => X7.returnOut hx Bd.returns (hb hby d3_11) hr) ?_ (by decide) (by decide)
  rw [e7]
  exact ⟨rfl, N13, K11, f9⟩
theorem d1_0 : decode prog_4_method_1_code 0 = .ok (.aload_n 0, 1) := by decide +kernel
theorem d1_1 : decode prog_4_method_1_code 1 = .ok (.invokespecial 1, 3) := by decide +kernel
theorem d1_4 : decode prog_4_method_1_code 4 = .ok (.aload_n 0, 1) := by decide +kernel
theorem d1_5 : decode prog_4_method_1_code 5 = .ok (.new 7, 3) := by decide +kernel
theorem d1_8 : decode prog_4_method_1_code 8 = .ok (.dup, 1) := by decide +kernel
theorem d1_9 : decode prog_4_method_1_code 9 = .ok (.invokespecial 9, 3) := by decide +kernel
theorem d1_12 : decode prog_4_method_1_code 12 = .ok (.putfield 10, 3) := by decide +kernel
theorem d1_15 : decode prog_4_method_1_code 15 = .ok (.aload_n 0, 1) := by decide +kernel
theorem d1_16 : decode prog_4_method_1_code 16 = .ok (.new 7, 3) := by decide +kernel
theorem d1_19 : decode prog_4_method_1_code 19 = .ok (.dup, 1) := by decide +kernel
theorem d1_20 : decode prog_4_method_1_code 20 = .ok (.invokespecial 9, 3) := by decide +kernel
theorem d1_23 : decode prog_4_method_1_code 23 = .ok (.putfield 16, 3) := by decide +kernel
theorem d1_26 : decode prog_4_method_1_code 26 = .ok (.return_, 1) := by decide +kernel
theorem pn_0 : plainName "com/example/wariant/wariant/engine/Cnf" = true := by first | (simp [plainName, overriddenIn]; done) | decide +kernel
theorem ef_1_R (m : MethodId) (x0 : Addr) : entryFrame m #[(.ref x0)] 1 = mkF m 0 #[.val (.ref x0)] [] := by first | (simp [entryFrame, mkF, argsToLocals, Value.category]; done) | rfl
def Q_rm1 (Z : State) (x0 : Addr) (dd : Addr) (h0 : Heap) (n0 : Nat) (v : Option Value) (h : Heap) (L : List Loc) : Prop := ∃ b : Addr, v = none ∧ Fr n0 L ∧ Keep h0 h [x0] ∧ h0.size ≤ b ∧ Fld Z h x0 "com/example/wariant/wariant/engine/Cnf" "variableCount" "I" (.int (0 : Int32)) ∧ Fld Z h x0 "com/example/wariant/wariant/engine/Cnf" "clauses" "Ljava/util/List;" (.ref b) ∧ Exa Z h b "java/util/ArrayList" ∧ Fld Z h b "java/util/ArrayList" "size" "I" (.int (0 : Int32))
set_option maxRecDepth 65536 in
set_option maxHeartbeats 40000000 in
theorem rm1 (l : Launch) (Z : State) (a0 : Array Value) (hw : ∀ d ∈ tables_1, d.before a0 Z = true) (ws : List Jvm.Cond) (x0 : Addr) (dd : Addr) (h0 : Heap) (n0 : Nat) (Z0 : n0 ≤ h0.size) (O0 : Old Z n0 h0) (p_0 : Fld Z h0 x0 "com/example/wariant/wariant/engine/Cnf" "clauses" "Ljava/util/List;" .null) (p_1 : Fld Z h0 x0 "com/example/wariant/wariant/engine/Cnf" "firstDecisions" "Ljava/util/List;" .null) (p_2 : Fld Z h0 x0 "com/example/wariant/wariant/engine/Cnf" "variableCount" "I" (.int (0 : Int32))) (p_3 : Exa Z h0 x0 "com/example/wariant/wariant/engine/Cnf") (p_4 : n0 ≤ x0) (p_5 : Sta Z Z.heap "java/util/ArrayList" "DEFAULTCAPACITY_EMPTY_ELEMENTDATA" "[Ljava/lang/Object;" (.ref dd)) :
    MetFree l (⟨"com/example/wariant/wariant/engine/Cnf", "<init>", "()V"⟩ : MethodName) (head1 (Jvm.Cond.code (⟨"com/example/wariant/wariant/engine/Cnf", "<init>", "()V"⟩ : MethodName) prog_4_method_1_code 1 none :: ws) ({ frames := 4, cells := 2, slots := 6, locals := 50 } : Room)) (fun a U => a = #[(.ref x0)] ∧ Z.Warmed39 U.vm ∧ U.heap = h0) (fun _ _ _ _ _ => True) (fun _ U o U' => ∃ v L, o = .returned v ∧ Q_rm1 Z x0 dd h0 n0 v U'.heap L ∧ FrameEnd U o U' L ({ frames := 4, cells := 2, slots := 6, locals := 50 } : Room).cells ({ frames := 4, cells := 2, slots := 6, locals := 50 } : Room).slots) := by
  refine MetFree.of_bodySF (plainFor_of_name pn_0) hisR ?_
  intro p e s m args below meth c s₁ Bd hml0 hP hK
  obtain ⟨rfl, hZ, hh⟩ := hP
  have hx := Bd.exec
  have hby := Bd.bytes
  have hml : c.maxLocals = 1 := hml0
  have hown : s.vm.findClass "com/example/wariant/wariant/engine/Cnf" = some m.cls := findClass_of_methodNamed Bd.named
  have hnm := (name_of_methodNamed Bd.named Bd.method).1
  have X0 : Stand p l e ({ frames := 4, cells := 2, slots := 6, locals := 50 } : Room) s m #[(.ref x0)] below meth c s₁ [] 0 0 := Stand.of_body Bd
  have e0 : s₁.heap = h0 := by rw [← hh, Bd.state]; rfl
  have N0 := Fr.nil n0
  show own_Ends p e below s ({ frames := 4, cells := 2, slots := 6, locals := 50 } : Room).cells ({ frames := 4, cells := 2, slots := 6, locals := 50 } : Room).slots (Q_rm1 Z x0 dd h0 n0) (s₁.setTop (entryFrame m #[(.ref x0)] 1))
  rw [ef_1_R]
  refine own_step (st' := s₁.setTop (mkF m 1 #[.val (.ref x0)] [(.ref x0)])) (fun t k => XS.aloadN X0.here hx rfl (hb hby d1_0) rfl rfl k) ?_
  obtain ⟨T1, X1, e1, st1⟩ := initO X0 hx hZ hown (hw _ (List.mem_of_getElem? (i := 7) rfl)) (hw _ (List.mem_of_getElem? (i := 8) rfl)) (hw _ (List.mem_of_getElem? (i := 9) rfl)) e0 (g := (mkF m 1 #[.val (.ref x0)] [(.ref x0)])) rfl (by rw [hml]; rfl) rfl (hb hby d1_1) (by decide) (W := 0) (by show 2 * 0 + _ ≤ _; exact Nat.le_of_eq rfl) (by decide)
  refine own_step (st' := T1.setTop (mkF m 4 #[.val (.ref x0)] [])) st1 ?_
  refine own_step (st' := T1.setTop (mkF m 5 #[.val (.ref x0)] [(.ref x0)])) (fun t k => XS.aloadN X1.here hx rfl (hb hby d1_4) rfl rfl k) ?_
  obtain ⟨T2, h2, X2, e2, E2, A2, D2, -, st2⟩ := newO X1 hx hZ hown (hw _ (List.mem_of_getElem? (i := 10) rfl)) (hw _ (List.mem_of_getElem? (i := 11) rfl)) (hw _ (List.mem_of_getElem? (i := 12) rfl)) e1 (g := (mkF m 5 #[.val (.ref x0)] [(.ref x0)])) rfl (hb hby d1_5) (by decide) (by decide)
  obtain ⟨b2, g2⟩ : ∃ z, z = h0.size := ⟨_, rfl⟩
  rw [← g2] at A2 D2 st2
  have ne3 : x0 ≠ b2 := Nat.ne_of_lt (Nat.lt_of_lt_of_le p_0.lt (Nat.le_of_eq g2.symm))
  have g_b2 : n0 ≤ b2 := Nat.le_trans Z0 (Nat.le_of_eq g2.symm)
  have sz_b2 : h0.size ≤ b2 := Nat.le_trans (Keep.refl h0 [x0]).1 (Nat.le_of_eq g2.symm)
  have f4 := p_0.ext E2
  have f5 := p_1.ext E2
  have f6 := p_2.ext E2
  have f7 := p_3.ext E2
  have O8 := O0.ext E2
  have K9 : Keep h0 h2 [x0] := (Keep.refl h0 [x0]).ext E2
  have Z10 : n0 ≤ h2.size := Nat.le_trans Z0 E2.1
  have f11 : Fld Z h2 b2 "java/util/AbstractList" "modCount" "I" (.int (0 : Int32)) := D2 (Or.inl (hw _ (List.mem_of_getElem? (i := 30) rfl))) (ty := .int) (by decide)
  have f12 : Fld Z h2 b2 "java/util/ArrayList" "elementData" "[Ljava/lang/Object;" .null := D2 (Or.inl (hw _ (List.mem_of_getElem? (i := 33) rfl))) (ty := (.array (.object "java/lang/Object"))) (by decide)
  have f13 : Fld Z h2 b2 "java/util/ArrayList" "size" "I" (.int (0 : Int32)) := D2 (Or.inl (hw _ (List.mem_of_getElem? (i := 60) rfl))) (ty := .int) (by decide)
  refine own_step (st' := T2.setTop (mkF m 8 #[.val (.ref x0)] [(.ref b2), (.ref x0)])) st2 ?_
  refine own_step (st' := T2.setTop (mkF m 9 #[.val (.ref x0)] [(.ref b2), (.ref b2), (.ref x0)])) (fun t k => XS.dup X2.here hx rfl (hb hby d1_8) rfl rfl k) ?_
  obtain ⟨_, _, ⟨T14, L14, k14, n14⟩, -, X14, ⟨Lc14, hQ14, l14, y14, z14⟩, st14⟩ := X2.specialBack hx (y := (⟨"java/util/ArrayList", "<init>", "()V"⟩ : MethodName)) rfl hown (mvT hZ (hw _ (List.mem_of_getElem? (i := 13) rfl))) (mvT hZ (hw _ (List.mem_of_getElem? (i := 14) rfl))) (mvT hZ (hw _ (List.mem_of_getElem? (i := 15) rfl))) (by decide) (backOf (W := 2) (rm3 l Z a0 hw [] b2 dd h2 n0 Z10 O8 f11 f13 f12 A2 g_b2 p_5) hZ (hw _ (List.mem_of_getElem? (i := 15) rfl)) (hw _ (List.mem_of_getElem? (i := 12) rfl)) (by decide) (by decide)) (g := (mkF m 9 #[.val (.ref x0)] [(.ref b2), (.ref b2), (.ref x0)])) rfl (by rw [hml]; rfl) (Steps.refl _) (a := b2) (argsL := []) (rest := [(.ref b2), (.ref x0)]) (lenOf pd_0 rfl) rfl (by show 2 * 0 + _ ≤ _; exact Nat.le_of_eq rfl) (hb hby d1_9) (fun _ _ => ⟨rfl, e2, (by decide : 1 + 0 ≤ _), (by decide : 3 + 0 ≤ _)⟩)
  dsimp only [Pt.U, Pt.locs, Pt.cells, Pt.slots] at X14 l14 y14 z14 st14 hQ14
  subst l14 y14 z14
  obtain ⟨rfl, N14q, K14, pq14_0⟩ := hQ14
  have N14 := Fr.app N0 N14q
  obtain ⟨h14, e14⟩ : ∃ z, T14.heap = z := ⟨_, rfl⟩
  rw [e14] at K14 pq14_0
  have f15 := f4.keep K14 (ninS ne3 nin0)
  have f16 := f5.keep K14 (ninS ne3 nin0)
  have f17 := f6.keep K14 (ninS ne3 nin0)
  have f18 := f7.keep K14
  have f19 := A2.keep K14
  have O20 := O8.keep K14 (allS g_b2 all0)
  have K21 : Keep h0 h14 [x0] := K9.trans K14 (allS (Or.inr sz_b2) all0)
  have Z22 : n0 ≤ h14.size := Nat.le_trans Z10 K14.1
  refine own_step (st' := T14.setTop (mkF m 12 #[.val (.ref x0)] [(.ref b2), (.ref x0)])) (fun t k => st14.trans k) ?_
  obtain ⟨T23, h23, X23, e23, W23, st23⟩ := putF X14 hx hZ hown (host := "") (Or.inl (hw _ (List.mem_of_getElem? (i := 34) rfl))) Via.refl e14 f15 f18 (Or.inr ⟨(hw _ (List.mem_of_getElem? (i := 35) rfl)), rfl, hnm⟩) (hw _ (List.mem_of_getElem? (i := 2) rfl)) (ty := (.object "java/util/List")) (by decide) rfl rfl (g := (mkF m 12 #[.val (.ref x0)] [(.ref b2), (.ref x0)])) rfl rfl (hb hby d1_12)
  have F23 := f15.same W23
  have f24 := f16.other W23 (Or.inr (slot_ne (Or.inr (hw _ (List.mem_of_getElem? (i := 37) rfl))) (Or.inr (hw _ (List.mem_of_getElem? (i := 35) rfl))) (by decide) (t := (.object "java/util/List")) (t' := (.object "java/util/List")) (by decide) (by decide)))
  have f25 := f17.other W23 (Or.inr (slot_ne (Or.inl (hw _ (List.mem_of_getElem? (i := 44) rfl))) (Or.inr (hw _ (List.mem_of_getElem? (i := 35) rfl))) (by decide) (t := .int) (t' := (.object "java/util/List")) (by decide) (by decide)))
  have f26 := f18.wr W23
  have f27 := f19.wr W23
  have f28 := pq14_0.other W23 (Or.inl (Ne.symm ne3))
  have O29 := O20.wr W23 p_4
  have K30 : Keep h0 h23 [x0] := K21.wr W23 (Or.inl (List.mem_of_getElem? (i := 0) rfl))
  have Z31 : n0 ≤ h23.size := Nat.le_trans Z22 (Keep.of_wr W23).1
  have N32 := Fr.snoc X23 N14 p_4
  refine own_step (st' := T23.setTop (mkF m 15 #[.val (.ref x0)] [])) st23 ?_
  refine own_step (st' := T23.setTop (mkF m 16 #[.val (.ref x0)] [(.ref x0)])) (fun t k => XS.aloadN X23.here hx rfl (hb hby d1_15) rfl rfl k) ?_
  obtain ⟨T33, h33, X33, e33, E33, A33, D33, -, st33⟩ := newO X23 hx hZ hown (hw _ (List.mem_of_getElem? (i := 10) rfl)) (hw _ (List.mem_of_getElem? (i := 11) rfl)) (hw _ (List.mem_of_getElem? (i := 12) rfl)) e23 (g := (mkF m 16 #[.val (.ref x0)] [(.ref x0)])) rfl (hb hby d1_16) (by decide) (by decide)
  obtain ⟨b33, g33⟩ : ∃ z, z = h23.size := ⟨_, rfl⟩
  rw [← g33] at A33 D33 st33
  have ne34 : x0 ≠ b33 := Nat.ne_of_lt (Nat.lt_of_lt_of_le f24.lt (Nat.le_of_eq g33.symm))
  have ne35 : b2 ≠ b33 := Nat.ne_of_lt (Nat.lt_of_lt_of_le f27.lt (Nat.le_of_eq g33.symm))
  have g_b33 : n0 ≤ b33 := Nat.le_trans Z31 (Nat.le_of_eq g33.symm)
  have sz_b33 : h0.size ≤ b33 := Nat.le_trans K30.1 (Nat.le_of_eq g33.symm)
  have f36 := f24.ext E33
  have f37 := f25.ext E33
  have f38 := f26.ext E33
  have f39 := f27.ext E33
  have f40 := f28.ext E33
  have f41 := F23.ext E33
  have O42 := O29.ext E33
  have K43 : Keep h0 h33 [x0] := K30.ext E33
  have Z44 : n0 ≤ h33.size := Nat.le_trans Z31 E33.1
  have f45 : Fld Z h33 b33 "java/util/AbstractList" "modCount" "I" (.int (0 : Int32)) := D33 (Or.inl (hw _ (List.mem_of_getElem? (i := 30) rfl))) (ty := .int) (by decide)
  have f46 : Fld Z h33 b33 "java/util/ArrayList" "elementData" "[Ljava/lang/Object;" .null := D33 (Or.inl (hw _ (List.mem_of_getElem? (i := 33) rfl))) (ty := (.array (.object "java/lang/Object"))) (by decide)
  have f47 : Fld Z h33 b33 "java/util/ArrayList" "size" "I" (.int (0 : Int32)) := D33 (Or.inl (hw _ (List.mem_of_getElem? (i := 60) rfl))) (ty := .int) (by decide)
  refine own_step (st' := T33.setTop (mkF m 19 #[.val (.ref x0)] [(.ref b33), (.ref x0)])) st33 ?_
  refine own_step (st' := T33.setTop (mkF m 20 #[.val (.ref x0)] [(.ref b33), (.ref b33), (.ref x0)])) (fun t k => XS.dup X33.here hx rfl (hb hby d1_19) rfl rfl k) ?_
  obtain ⟨_, _, ⟨T48, L48, k48, n48⟩, -, X48, ⟨Lc48, hQ48, l48, y48, z48⟩, st48⟩ := X33.specialBack hx (y := (⟨"java/util/ArrayList", "<init>", "()V"⟩ : MethodName)) rfl hown (mvT hZ (hw _ (List.mem_of_getElem? (i := 13) rfl))) (mvT hZ (hw _ (List.mem_of_getElem? (i := 14) rfl))) (mvT hZ (hw _ (List.mem_of_getElem? (i := 15) rfl))) (by decide) (backOf (W := 2) (rm3 l Z a0 hw [] b33 dd h33 n0 Z44 O42 f45 f47 f46 A33 g_b33 p_5) hZ (hw _ (List.mem_of_getElem? (i := 15) rfl)) (hw _ (List.mem_of_getElem? (i := 12) rfl)) (by decide) (by decide)) (g := (mkF m 20 #[.val (.ref x0)] [(.ref b33), (.ref b33), (.ref x0)])) rfl (by rw [hml]; rfl) (Steps.refl _) (a := b33) (argsL := []) (rest := [(.ref b33), (.ref x0)]) (lenOf pd_0 rfl) rfl (by show 2 * 0 + _ ≤ _; exact Nat.le_of_eq rfl) (hb hby d1_20) (fun _ _ => ⟨rfl, e33, (by decide : 2 + 0 ≤ _), (by decide : 6 + 0 ≤ _)⟩)
  dsimp only [Pt.U, Pt.locs, Pt.cells, Pt.slots] at X48 l48 y48 z48 st48 hQ48
  subst l48 y48 z48
  obtain ⟨rfl, N48q, K48, pq48_0⟩ := hQ48
  have N48 := Fr.app N32 N48q
  obtain ⟨h48, e48⟩ : ∃ z, T48.heap = z := ⟨_, rfl⟩
  rw [e48] at K48 pq48_0
  have f49 := f36.keep K48 (ninS ne34 nin0)
  have f50 := f37.keep K48 (ninS ne34 nin0)
  have f51 := f38.keep K48
  have f52 := f39.keep K48
  have f53 := f40.keep K48 (ninS ne35 nin0)
  have f54 := f41.keep K48 (ninS ne34 nin0)
  have f55 := A33.keep K48
  have O56 := O42.keep K48 (allS g_b33 all0)
  have K57 : Keep h0 h48 [x0] := K43.trans K48 (allS (Or.inr sz_b33) all0)
  have Z58 : n0 ≤ h48.size := Nat.le_trans Z44 K48.1
  refine own_step (st' := T48.setTop (mkF m 23 #[.val (.ref x0)] [(.ref b33), (.ref x0)])) (fun t k => st48.trans k) ?_
  obtain ⟨T59, h59, X59, e59, W59, st59⟩ := putF X48 hx hZ hown (host := "") (Or.inl (hw _ (List.mem_of_getElem? (i := 36) rfl))) Via.refl e48 f49 f51 (Or.inr ⟨(hw _ (List.mem_of_getElem? (i := 37) rfl)), rfl, hnm⟩) (hw _ (List.mem_of_getElem? (i := 2) rfl)) (ty := (.object "java/util/List")) (by decide) rfl rfl (g := (mkF m 23 #[.val (.ref x0)] [(.ref b33), (.ref x0)])) rfl rfl (hb hby d1_23)
  have F59 := f49.same W59
  have f60 := f50.other W59 (Or.inr (slot_ne (Or.inl (hw _ (List.mem_of_getElem? (i := 44) rfl))) (Or.inr (hw _ (List.mem_of_getElem? (i := 37) rfl))) (by decide) (t := .int) (t' := (.object "java/util/List")) (by decide) (by decide)))
  have f61 := f51.wr W59
  have f62 := f52.wr W59
  have f63 := f53.other W59 (Or.inl (Ne.symm ne3))
  have f64 := f54.other W59 (Or.inr (slot_ne (Or.inr (hw _ (List.mem_of_getElem? (i := 35) rfl))) (Or.inr (hw _ (List.mem_of_getElem? (i := 37) rfl))) (by decide) (t := (.object "java/util/List")) (t' := (.object "java/util/List")) (by decide) (by decide)))
  have f65 := f55.wr W59
  have f66 := pq48_0.other W59 (Or.inl (Ne.symm ne34))
  have O67 := O56.wr W59 p_4
  have K68 : Keep h0 h59 [x0] := K57.wr W59 (Or.inl (List.mem_of_getElem? (i := 0) rfl))
  have Z69 : n0 ≤ h59.size := Nat.le_trans Z58 (Keep.of_wr W59).1
  have N70 := Fr.snoc X59 N48 p_4
  refine own_step (st' := T59.setTop (mkF m 26 #[.val (.ref x0)] [])) st59 ?_
  refine own_ret X59 Bd.notSynchronized (none) (fun _ => rfl) (fun fs hr => X59.returnOut hx Bd.returns (hb hby d1_26) hr) ?_ (by decide) (by decide)
  rw [e59]
  exact ⟨b2, rfl, N70, K68, sz_b2, f60, f64, f62, f63⟩
theorem d8_0 : decode jdk_38_method_8_code 0 = .ok (.aload_n 0, 1) := by decide +kernel
theorem d8_1 : decode jdk_38_method_8_code 1 = .ok (.getfield 48, 3) := by decide +kernel
theorem d8_4 : decode jdk_38_method_8_code 4 = .ok (.ireturn, 1) := by decide +kernel
theorem ef_8_R (m : MethodId) (x0 : Addr) : entryFrame m #[(.ref x0)] 1 = mkF m 0 #[.val (.ref x0)] [] := by first | (simp [entryFrame, mkF, argsToLocals, Value.category]; done) | rfl
def Q_rm8 (Z : State) (x0 : Addr) (n : Int32) (h0 : Heap) (n0 : Nat) (v : Option Value) (h : Heap) (L : List Loc) : Prop := v = some (.int n) ∧ Fr n0 L ∧ h = h0
set_option maxRecDepth 65536 in
set_option maxHeartbeats 40000000 in
theorem rm8 (l : Launch) (Z : State) (a0 : Array Value) (hw : ∀ d ∈ tables_1, d.before a0 Z = true) (ws : List Jvm.Cond) (x0 : Addr) (n : Int32) (h0 : Heap) (n0 : Nat) (Z0 : n0 ≤ h0.size) (p_0 : Fld Z h0 x0 "java/util/ArrayList" "size" "I" (.int n)) :
    MetFree l (⟨"java/util/ArrayList", "size", "()I"⟩ : MethodName) (head1 (Jvm.Cond.code (⟨"java/util/ArrayList", "size", "()I"⟩ : MethodName) jdk_38_method_8_code 1 (some .int) :: ws) ({ frames := 0, cells := 0, slots := 0, locals := 0 } : Room)) (fun a U => a = #[(.ref x0)] ∧ Z.Warmed39 U.vm ∧ U.heap = h0) (fun _ _ _ _ _ => True) (fun _ U o U' => ∃ v L, o = .returned v ∧ Q_rm8 Z x0 n h0 n0 v U'.heap L ∧ FrameEnd U o U' L ({ frames := 0, cells := 0, slots := 0, locals := 0 } : Room).cells ({ frames := 0, cells := 0, slots := 0, locals := 0 } : Room).slots) := by
  refine MetFree.of_bodySF (plainFor_of_name pn_5) hisR ?_
  intro p e s m args below meth c s₁ Bd hml0 hP hK
  obtain ⟨rfl, hZ, hh⟩ := hP
  have hx := Bd.exec
  have hby := Bd.bytes
  have hml : c.maxLocals = 1 := hml0
  have hown : s.vm.findClass "java/util/ArrayList" = some m.cls := findClass_of_methodNamed Bd.named
  have hnm := (name_of_methodNamed Bd.named Bd.method).1
  have X0 : Stand p l e ({ frames := 0, cells := 0, slots := 0, locals := 0 } : Room) s m #[(.ref x0)] below meth c s₁ [] 0 0 := Stand.of_body Bd
  have e0 : s₁.heap = h0 := by rw [← hh, Bd.state]; rfl
  have N0 := Fr.nil n0
  show own_Ends p e below s ({ frames := 0, cells := 0, slots := 0, locals := 0 } : Room).cells ({ frames := 0, cells := 0, slots := 0, locals := 0 } : Room).slots (Q_rm8 Z x0 n h0 n0) (s₁.setTop (entryFrame m #[(.ref x0)] 1))
  rw [ef_8_R]
  refine own_step (st' := s₁.setTop (mkF m 1 #[.val (.ref x0)] [(.ref x0)])) (fun t k => XS.aloadN X0.here hx rfl (hb hby d8_0) rfl rfl k) ?_
  obtain ⟨T1, X1, e1, st1⟩ := getF X0 hx hZ hown (host := "") (Or.inl (hw _ (List.mem_of_getElem? (i := 59) rfl))) Via.refl e0 p_0 (g := (mkF m 1 #[.val (.ref x0)] [(.ref x0)])) rfl rfl (hb hby d8_1)
  refine own_step (st' := T1.setTop (mkF m 4 #[.val (.ref x0)] [(.int n)])) st1 ?_
  refine own_ret X1 Bd.notSynchronized (some (.int n)) (fun h => by rw [Bd.returns] at h; cases h) (fun fs hr => own_retI X1 hx Bd.returns (hb hby d8_4) hr) ?_ (by decide) (by decide)
  rw [e1]
  exact ⟨rfl, N0, rfl⟩
theorem d6_0 : decode prog_4_method_7_code 0 = .ok (.aload_n 0, 1) := by decide +kernel
theorem d6_1 : decode prog_4_method_7_code 1 = .ok (.getfield 19, 3) := by decide +kernel
theorem d6_4 : decode prog_4_method_7_code 4 = .ok (.ireturn, 1) := by decide +kernel
theorem ef_6_R (m : MethodId) (x0 : Addr) : entryFrame m #[(.ref x0)] 1 = mkF m 0 #[.val (.ref x0)] [] := by first | (simp [entryFrame, mkF, argsToLocals, Value.category]; done) | rfl
def Q_rm6 (Z : State) (x0 : Addr) (n : Int32) (h0 : Heap) (n0 : Nat) (v : Option Value) (h : Heap) (L : List Loc) : Prop := v = some (.int n) ∧ Fr n0 L ∧ h = h0
set_option maxRecDepth 65536 in
set_option maxHeartbeats 40000000 in
theorem rm6 (l : Launch) (Z : State) (a0 : Array Value) (hw : ∀ d ∈ tables_1, d.before a0 Z = true) (ws : List Jvm.Cond) (x0 : Addr) (n : Int32) (h0 : Heap) (n0 : Nat) (Z0 : n0 ≤ h0.size) (p_0 : Fld Z h0 x0 "com/example/wariant/wariant/engine/Cnf" "variableCount" "I" (.int n)) :
    MetFree l (⟨"com/example/wariant/wariant/engine/Cnf", "variableCount", "()I"⟩ : MethodName) (head1 (Jvm.Cond.code (⟨"com/example/wariant/wariant/engine/Cnf", "variableCount", "()I"⟩ : MethodName) prog_4_method_7_code 1 (some .int) :: ws) ({ frames := 0, cells := 0, slots := 0, locals := 0 } : Room)) (fun a U => a = #[(.ref x0)] ∧ Z.Warmed39 U.vm ∧ U.heap = h0) (fun _ _ _ _ _ => True) (fun _ U o U' => ∃ v L, o = .returned v ∧ Q_rm6 Z x0 n h0 n0 v U'.heap L ∧ FrameEnd U o U' L ({ frames := 0, cells := 0, slots := 0, locals := 0 } : Room).cells ({ frames := 0, cells := 0, slots := 0, locals := 0 } : Room).slots) := by
  refine MetFree.of_bodySF (plainFor_of_name pn_0) hisR ?_
  intro p e s m args below meth c s₁ Bd hml0 hP hK
  obtain ⟨rfl, hZ, hh⟩ := hP
  have hx := Bd.exec
  have hby := Bd.bytes
  have hml : c.maxLocals = 1 := hml0
  have hown : s.vm.findClass "com/example/wariant/wariant/engine/Cnf" = some m.cls := findClass_of_methodNamed Bd.named
  have hnm := (name_of_methodNamed Bd.named Bd.method).1
  have X0 : Stand p l e ({ frames := 0, cells := 0, slots := 0, locals := 0 } : Room) s m #[(.ref x0)] below meth c s₁ [] 0 0 := Stand.of_body Bd
  have e0 : s₁.heap = h0 := by rw [← hh, Bd.state]; rfl
  have N0 := Fr.nil n0
  show own_Ends p e below s ({ frames := 0, cells := 0, slots := 0, locals := 0 } : Room).cells ({ frames := 0, cells := 0, slots := 0, locals := 0 } : Room).slots (Q_rm6 Z x0 n h0 n0) (s₁.setTop (entryFrame m #[(.ref x0)] 1))
  rw [ef_6_R]
  refine own_step (st' := s₁.setTop (mkF m 1 #[.val (.ref x0)] [(.ref x0)])) (fun t k => XS.aloadN X0.here hx rfl (hb hby d6_0) rfl rfl k) ?_
  obtain ⟨T1, X1, e1, st1⟩ := getF X0 hx hZ hown (host := "") (Or.inl (hw _ (List.mem_of_getElem? (i := 43) rfl))) Via.refl e0 p_0 (g := (mkF m 1 #[.val (.ref x0)] [(.ref x0)])) rfl rfl (hb hby d6_1)
  refine own_step (st' := T1.setTop (mkF m 4 #[.val (.ref x0)] [(.int n)])) st1 ?_
  refine own_ret X1 Bd.notSynchronized (some (.int n)) (fun h => by rw [Bd.returns] at h; cases h) (fun fs hr => own_retI X1 hx Bd.returns (hb hby d6_4) hr) ?_ (by decide) (by decide)
  rw [e1]
  exact ⟨rfl, N0, rfl⟩
theorem d7_0 : decode prog_4_method_8_code 0 = .ok (.aload_n 0, 1) := by decide +kernel
theorem d7_1 : decode prog_4_method_8_code 1 = .ok (.getfield 10, 3) := by decide +kernel
theorem d7_4 : decode prog_4_method_8_code 4 = .ok (.invokeinterface 59 1, 5) := by decide +kernel
theorem d7_9 : decode prog_4_method_8_code 9 = .ok (.ireturn, 1) := by decide +kernel
theorem ef_7_R (m : MethodId) (x0 : Addr) : entryFrame m #[(.ref x0)] 1 = mkF m 0 #[.val (.ref x0)] [] := by first | (simp [entryFrame, mkF, argsToLocals, Value.category]; done) | rfl
def Q_rm7 (Z : State) (x0 : Addr) (b : Addr) (n : Int32) (h0 : Heap) (n0 : Nat) (v : Option Value) (h : Heap) (L : List Loc) : Prop := v = some (.int n) ∧ Fr n0 L ∧ h = h0
set_option maxRecDepth 65536 in
set_option maxHeartbeats 40000000 in
theorem rm7 (l : Launch) (Z : State) (a0 : Array Value) (hw : ∀ d ∈ tables_1, d.before a0 Z = true) (ws : List Jvm.Cond) (x0 : Addr) (b : Addr) (n : Int32) (h0 : Heap) (n0 : Nat) (Z0 : n0 ≤ h0.size) (p_0 : Fld Z h0 x0 "com/example/wariant/wariant/engine/Cnf" "clauses" "Ljava/util/List;" (.ref b)) (p_1 : Exa Z h0 b "java/util/ArrayList") (p_2 : Fld Z h0 b "java/util/ArrayList" "size" "I" (.int n)) :
    MetFree l (⟨"com/example/wariant/wariant/engine/Cnf", "clauseCount", "()I"⟩ : MethodName) (head1 (Jvm.Cond.code (⟨"com/example/wariant/wariant/engine/Cnf", "clauseCount", "()I"⟩ : MethodName) prog_4_method_8_code 1 (some .int) :: ws) ({ frames := 1, cells := 0, slots := 0, locals := 12 } : Room)) (fun a U => a = #[(.ref x0)] ∧ Z.Warmed39 U.vm ∧ U.heap = h0) (fun _ _ _ _ _ => True) (fun _ U o U' => ∃ v L, o = .returned v ∧ Q_rm7 Z x0 b n h0 n0 v U'.heap L ∧ FrameEnd U o U' L ({ frames := 1, cells := 0, slots := 0, locals := 12 } : Room).cells ({ frames := 1, cells := 0, slots := 0, locals := 12 } : Room).slots) := by
  refine MetFree.of_bodySF (plainFor_of_name pn_0) hisR ?_
  intro p e s m args below meth c s₁ Bd hml0 hP hK
  obtain ⟨rfl, hZ, hh⟩ := hP
  have hx := Bd.exec
  have hby := Bd.bytes
  have hml : c.maxLocals = 1 := hml0
  have hown : s.vm.findClass "com/example/wariant/wariant/engine/Cnf" = some m.cls := findClass_of_methodNamed Bd.named
  have hnm := (name_of_methodNamed Bd.named Bd.method).1
  have X0 : Stand p l e ({ frames := 1, cells := 0, slots := 0, locals := 12 } : Room) s m #[(.ref x0)] below meth c s₁ [] 0 0 := Stand.of_body Bd
  have e0 : s₁.heap = h0 := by rw [← hh, Bd.state]; rfl
  have N0 := Fr.nil n0
  show own_Ends p e below s ({ frames := 1, cells := 0, slots := 0, locals := 12 } : Room).cells ({ frames := 1, cells := 0, slots := 0, locals := 12 } : Room).slots (Q_rm7 Z x0 b n h0 n0) (s₁.setTop (entryFrame m #[(.ref x0)] 1))
  rw [ef_7_R]
  refine own_step (st' := s₁.setTop (mkF m 1 #[.val (.ref x0)] [(.ref x0)])) (fun t k => XS.aloadN X0.here hx rfl (hb hby d7_0) rfl rfl k) ?_
  obtain ⟨T1, X1, e1, st1⟩ := getF X0 hx hZ hown (host := "") (Or.inl (hw _ (List.mem_of_getElem? (i := 34) rfl))) Via.refl e0 p_0 (g := (mkF m 1 #[.val (.ref x0)] [(.ref x0)])) rfl rfl (hb hby d7_1)
  refine own_step (st' := T1.setTop (mkF m 4 #[.val (.ref x0)] [(.ref b)])) st1 ?_
  obtain ⟨cq2, kq2, q2a, q2b, q2c⟩ := isOf hZ e1 p_1
  obtain ⟨_, _, ⟨T2, L2, k2, n2⟩, -, X2, ⟨Lc2, hQ2, l2, y2, z2⟩, st2⟩ := X1.interfaceBack hx (xi := (⟨"java/util/List", "size", "()I"⟩ : MethodName)) (y := (⟨"java/util/ArrayList", "size", "()I"⟩ : MethodName)) hown (mvT hZ (hw _ (List.mem_of_getElem? (i := 50) rfl))) (mvT hZ (hw _ (List.mem_of_getElem? (i := 51) rfl))) (mvT hZ (hw _ (List.mem_of_getElem? (i := 52) rfl))) (mvT hZ (hw _ (List.mem_of_getElem? (i := 53) rfl))) (mvT hZ (hw _ (List.mem_of_getElem? (i := 54) rfl))) (mvT hZ (hw _ (List.mem_of_getElem? (i := 55) rfl))) (mvT hZ (hw _ (List.mem_of_getElem? (i := 56) rfl))) (mvT hZ (hw _ (List.mem_of_getElem? (i := 57) rfl))) (by decide) (backOf (W := 0) (rm8 l Z a0 hw [] b n h0 n0 Z0 p_2) hZ (hw _ (List.mem_of_getElem? (i := 58) rfl)) (hw _ (List.mem_of_getElem? (i := 12) rfl)) (by decide) (by decide)) q2a q2b q2c (g := (mkF m 4 #[.val (.ref x0)] [(.ref b)])) rfl (by rw [hml]; rfl) (Steps.refl _) (argsL := []) (rest := []) (lenOf pd_1 rfl) rfl (by show 2 * 0 + _ ≤ _; exact Nat.le_of_eq rfl) (hb hby d7_4) (fun _ _ => ⟨rfl, e1, (by decide : 0 + 0 ≤ _), (by decide : 0 + 0 ≤ _)⟩)
  dsimp only [Pt.U, Pt.locs, Pt.cells, Pt.slots] at X2 l2 y2 z2 st2 hQ2
  subst l2 y2 z2
  obtain ⟨rfl, N2q, e2⟩ := hQ2
  have N2 := Fr.app N0 N2q
  refine own_step (st' := T2.setTop (mkF m 9 #[.val (.ref x0)] [(.int n)])) (fun t k => st2.trans k) ?_
  refine own_ret X2 Bd.notSynchronized (some (.int n)) (fun h => by rw [Bd.returns] at h; cases h) (fun fs hr => own_retI X2 hx Bd.returns (hb hby d7_9) hr) ?_ (by decide) (by decide)
  rw [e2]
  exact ⟨rfl, N2, rfl⟩
theorem d9_0 : decode prog_4_method_2_code 0 = .ok (.aload_n 0, 1) := by decide +kernel
theorem d9_1 : decode prog_4_method_2_code 1 = .ok (.dup, 1) := by decide +kernel
theorem d9_2 : decode prog_4_method_2_code 2 = .ok (.getfield 19, 3) := by decide +kernel
theorem d9_5 : decode prog_4_method_2_code 5 = .ok (.iconst 1, 1) := by decide +kernel
theorem d9_6 : decode prog_4_method_2_code 6 = .ok (.iadd, 1) := by decide +kernel
theorem d9_7 : decode prog_4_method_2_code 7 = .ok (.putfield 19, 3) := by decide +kernel
theorem d9_10 : decode prog_4_method_2_code 10 = .ok (.aload_n 0, 1) := by decide +kernel
theorem d9_11 : decode prog_4_method_2_code 11 = .ok (.getfield 19, 3) := by decide +kernel
theorem d9_14 : decode prog_4_method_2_code 14 = .ok (.ireturn, 1) := by decide +kernel
theorem ef_9_R (m : MethodId) (x0 : Addr) : entryFrame m #[(.ref x0)] 1 = mkF m 0 #[.val (.ref x0)] [] := by first | (simp [entryFrame, mkF, argsToLocals, Value.category]; done) | rfl
def Q_rm9 (Z : State) (x0 : Addr) (n : Int32) (b : Addr) (h0 : Heap) (n0 : Nat) (v : Option Value) (h : Heap) (L : List Loc) : Prop := v = some (.int (n + (1 : Int32))) ∧ Fr n0 L ∧ Keep h0 h [x0] ∧ Fld Z h x0 "com/example/wariant/wariant/engine/Cnf" "variableCount" "I" (.int (n + (1 : Int32))) ∧ Fld Z h x0 "com/example/wariant/wariant/engine/Cnf" "clauses" "Ljava/util/List;" (.ref b)
set_option maxRecDepth 65536 in
set_option maxHeartbeats 40000000 in
theorem rm9 (l : Launch) (Z : State) (a0 : Array Value) (hw : ∀ d ∈ tables_1, d.before a0 Z = true) (ws : List Jvm.Cond) (x0 : Addr) (n : Int32) (b : Addr) (h0 : Heap) (n0 : Nat) (Z0 : n0 ≤ h0.size) (p_0 : Fld Z h0 x0 "com/example/wariant/wariant/engine/Cnf" "variableCount" "I" (.int n)) (p_1 : Exa Z h0 x0 "com/example/wariant/wariant/engine/Cnf") (p_2 : n0 ≤ x0) (p_3 : Fld Z h0 x0 "com/example/wariant/wariant/engine/Cnf" "clauses" "Ljava/util/List;" (.ref b)) :
    MetFree l (⟨"com/example/wariant/wariant/engine/Cnf", "newVariable", "()I"⟩ : MethodName) (head1 (Jvm.Cond.code (⟨"com/example/wariant/wariant/engine/Cnf", "newVariable", "()I"⟩ : MethodName) prog_4_method_2_code 1 (some .int) :: ws) ({ frames := 0, cells := 0, slots := 0, locals := 0 } : Room)) (fun a U => a = #[(.ref x0)] ∧ Z.Warmed39 U.vm ∧ U.heap = h0) (fun _ _ _ _ _ => True) (fun _ U o U' => ∃ v L, o = .returned v ∧ Q_rm9 Z x0 n b h0 n0 v U'.heap L ∧ FrameEnd U o U' L ({ frames := 0, cells := 0, slots := 0, locals := 0 } : Room).cells ({ frames := 0, cells := 0, slots := 0, locals := 0 } : Room).slots) := by
  refine MetFree.of_bodySF (plainFor_of_name pn_0) hisR ?_
  intro p e s m args below meth c s₁ Bd hml0 hP hK
  obtain ⟨rfl, hZ, hh⟩ := hP
  have hx := Bd.exec
  have hby := Bd.bytes
  have hml : c.maxLocals = 1 := hml0
  have hown : s.vm.findClass "com/example/wariant/wariant/engine/Cnf" = some m.cls := findClass_of_methodNamed Bd.named
  have hnm := (name_of_methodNamed Bd.named Bd.method).1
  have X0 : Stand p l e ({ frames := 0, cells := 0, slots := 0, locals := 0 } : Room) s m #[(.ref x0)] below meth c s₁ [] 0 0 := Stand.of_body Bd
  have e0 : s₁.heap = h0 := by rw [← hh, Bd.state]; rfl
  have N0 := Fr.nil n0
  show own_Ends p e below s ({ frames := 0, cells := 0, slots := 0, locals := 0 } : Room).cells ({ frames := 0, cells := 0, slots := 0, locals := 0 } : Room).slots (Q_rm9 Z x0 n b h0 n0) (s₁.setTop (entryFrame m #[(.ref x0)] 1))
  rw [ef_9_R]
  refine own_step (st' := s₁.setTop (mkF m 1 #[.val (.ref x0)] [(.ref x0)])) (fun t k => XS.aloadN X0.here hx rfl (hb hby d9_0) rfl rfl k) ?_
  refine own_step (st' := s₁.setTop (mkF m 2 #[.val (.ref x0)] [(.ref x0), (.ref x0)])) (fun t k => XS.dup X0.here hx rfl (hb hby d9_1) rfl rfl k) ?_
  obtain ⟨T1, X1, e1, st1⟩ := getF X0 hx hZ hown (host := "") (Or.inl (hw _ (List.mem_of_getElem? (i := 43) rfl))) Via.refl e0 p_0 (g := (mkF m 2 #[.val (.ref x0)] [(.ref x0), (.ref x0)])) rfl rfl (hb hby d9_2)
  refine own_step (st' := T1.setTop (mkF m 5 #[.val (.ref x0)] [(.int n), (.ref x0)])) st1 ?_
  refine own_step (st' := T1.setTop (mkF m 6 #[.val (.ref x0)] [(.int (1 : Int32)), (.int n), (.ref x0)])) (fun t k => XS.iconst X1.here hx rfl (hb hby d9_5) k) ?_
  refine own_step (st' := T1.setTop (mkF m 7 #[.val (.ref x0)] [(.int (n + (1 : Int32))), (.ref x0)])) (fun t k => XS.iadd X1.here hx rfl (hb hby d9_6) rfl k) ?_
  obtain ⟨T2, h2, X2, e2, W2, st2⟩ := putF X1 hx hZ hown (host := "") (Or.inl (hw _ (List.mem_of_getElem? (i := 43) rfl))) Via.refl e1 p_0 p_1 (Or.inl (hw _ (List.mem_of_getElem? (i := 44) rfl))) (hw _ (List.mem_of_getElem? (i := 2) rfl)) (ty := .int) (by decide) rfl rfl (g := (mkF m 7 #[.val (.ref x0)] [(.int (n + (1 : Int32))), (.ref x0)])) rfl rfl (hb hby d9_7)
  have F2 := p_0.same W2
  have f3 := p_1.wr W2
  have f4 := p_3.other W2 (Or.inr (slot_ne (Or.inr (hw _ (List.mem_of_getElem? (i := 35) rfl))) (Or.inl (hw _ (List.mem_of_getElem? (i := 44) rfl))) (by decide) (t := (.object "java/util/List")) (t' := .int) (by decide) (by decide)))
  have K5 : Keep h0 h2 [x0] := (Keep.refl h0 [x0]).wr W2 (Or.inl (List.mem_of_getElem? (i := 0) rfl))
  have Z6 : n0 ≤ h2.size := Nat.le_trans Z0 (Keep.of_wr W2).1
  have N7 := Fr.snoc X2 N0 p_2
  refine own_step (st' := T2.setTop (mkF m 10 #[.val (.ref x0)] [])) st2 ?_
  refine own_step (st' := T2.setTop (mkF m 11 #[.val (.ref x0)] [(.ref x0)])) (fun t k => XS.aloadN X2.here hx rfl (hb hby d9_10) rfl rfl k) ?_
  obtain ⟨T8, X8, e8, st8⟩ := getF X2 hx hZ hown (host := "") (Or.inl (hw _ (List.mem_of_getElem? (i := 43) rfl))) Via.refl e2 F2 (g := (mkF m 11 #[.val (.ref x0)] [(.ref x0)])) rfl rfl (hb hby d9_11)
  refine own_step (st' := T8.setTop (mkF m 14 #[.val (.ref x0)] [(.int (n + (1 : Int32)))])) st8 ?_
  refine own_ret X8 Bd.notSynchronized (some (.int (n + (1 : Int32)))) (fun h => by rw [Bd.returns] at h; cases h) (fun fs hr => own_retI X8 hx Bd.returns (hb hby d9_14) hr) ?_ (by decide) (by decide)
  rw [e8]
  exact ⟨rfl, N7, K5, F2, f4⟩
theorem pn_1 : plainName "com/example/wariant/wariant/engine/CnfNewVariablePinLaw" = true := by first | (simp [plainName, overriddenIn]; done) | decide +kernel
theorem ef_0_I (m : MethodId) (x0 : Int32) : entryFrame m #[(.int x0)] maxLocals = mkF m 0 #[.val (.int x0), .unset, .unset, .unset, .unset] [] := by first | (simp [entryFrame, mkF, argsToLocals, Value.category, maxLocals]; done) | rfl
def Q_rm0 (Z : State) (x0 : Int32) (dd : Addr) (h0 : Heap) (n0 : Nat) (v : Option Value) (h : Heap) (L : List Loc) : Prop := v = some (.int (1 : Int32)) ∧ Fr n0 L
set_option maxRecDepth 65536 in
set_option maxHeartbeats 40000000 in
theorem rm0 (l : Launch) (Z : State) (a0 : Array Value) (hw : ∀ d ∈ tables_1, d.before a0 Z = true) (ws : List Jvm.Cond) (x0 : Int32) (dd : Addr) (h0 : Heap) (n0 : Nat) (Z0 : n0 ≤ h0.size) (O0 : Old Z n0 h0) (p_0 : Sta Z Z.heap "java/util/ArrayList" "DEFAULTCAPACITY_EMPTY_ELEMENTDATA" "[Ljava/lang/Object;" (.ref dd)) :
    MetFree l x (head1 (Jvm.Cond.code x code maxLocals ret :: ws) room_1) (fun a U => a = #[(.int x0)] ∧ Z.Warmed39 U.vm ∧ U.heap = h0) (fun _ _ _ _ _ => True) (fun _ U o U' => ∃ v L, o = .returned v ∧ Q_rm0 Z x0 dd h0 n0 v U'.heap L ∧ FrameEnd U o U' L room_1.cells room_1.slots) := by
  refine MetFree.of_bodySF (plainFor_of_name pn_1) hisR ?_
  intro p e s m args below meth c s₁ Bd hml0 hP hK
  obtain ⟨rfl, hZ, hh⟩ := hP
  have hx := Bd.exec
  have hby := Bd.bytes
  have hml : c.maxLocals = 5 := hml0
  have hown : s.vm.findClass "com/example/wariant/wariant/engine/CnfNewVariablePinLaw" = some m.cls := findClass_of_methodNamed Bd.named
  have hnm := (name_of_methodNamed Bd.named Bd.method).1
  have X0 : Stand p l e room_1 s m #[(.int x0)] below meth c s₁ [] 0 0 := Stand.of_body Bd
  have e0 : s₁.heap = h0 := by rw [← hh, Bd.state]; rfl
  have N0 := Fr.nil n0
  show own_Ends p e below s room_1.cells room_1.slots (Q_rm0 Z x0 dd h0 n0) (s₁.setTop (entryFrame m #[(.int x0)] maxLocals))
  rw [ef_0_I]
  refine own_step (st' := s₁.setTop (mkF m 1 #[.val (.int x0), .unset, .unset, .unset, .unset] [(.int x0)])) (fun t k => XS.iloadN X0.here hx rfl (hb hby at_0) rfl k) ?_
  refine own_step (st' := s₁.setTop (mkF m 3 #[.val (.int x0), .unset, .unset, .unset, .unset] [(.int (2147483647 : Int32)), (.int x0)])) (fun t k => X0.ldcInt hx hown (mvT hZ (hw _ (List.mem_of_getElem? (i := 0) rfl))) (g := (mkF m 1 #[.val (.int x0), .unset, .unset, .unset, .unset] [(.int x0)])) rfl (hb hby at_1) t k) ?_
  refine own_step (st' := s₁.setTop (mkF m 4 #[.val (.int x0), .unset, .unset, .unset, .unset] [(.int (x0 &&& (2147483647 : Int32)))])) (fun t k => XS.iand X0.here hx rfl (hb hby at_3) rfl k) ?_
  refine own_step (st' := s₁.setTop (mkF m 5 #[.val (.int x0), .unset, .unset, .unset, .unset] [(.int (5 : Int32)), (.int (x0 &&& (2147483647 : Int32)))])) (fun t k => XS.iconst X0.here hx rfl (hb hby at_4) k) ?_
  refine own_step (st' := s₁.setTop (mkF m 6 #[.val (.int x0), .unset, .unset, .unset, .unset] [(.int ((x0 &&& (2147483647 : Int32)) % (5 : Int32)))])) (fun t k => iremM (g := (mkF m 5 #[.val (.int x0), .unset, .unset, .unset, .unset] [(.int (5 : Int32)), (.int (x0 &&& (2147483647 : Int32)))])) X0 hx rfl (hb hby at_5) rfl (by decide) k) ?_
  obtain ⟨kk, e_kk⟩ : ∃ z : Int32, z = ((x0 &&& (2147483647 : Int32)) % (5 : Int32)) := ⟨_, rfl⟩
  rw [← e_kk]
  have hkk : ¬ kk < (0 : Int32) ∧ kk < (5 : Int32) := by rw [e_kk]; exact own_k5 x0
  refine own_step (st' := s₁.setTop (mkF m 7 #[.val (.int x0), .val (.int kk), .unset, .unset, .unset] [])) (fun t k => XS.istoreN X0.here hx rfl (hb hby at_6) rfl (l' := #[.val (.int x0), .val (.int kk), .unset, .unset, .unset]) rfl k) ?_
  obtain ⟨T1, h1, X1, e1, E1, A1, D1, -, st1⟩ := newO X0 hx hZ hown (hw _ (List.mem_of_getElem? (i := 1) rfl)) (hw _ (List.mem_of_getElem? (i := 2) rfl)) (hw _ (List.mem_of_getElem? (i := 3) rfl)) e0 (g := (mkF m 7 #[.val (.int x0), .val (.int kk), .unset, .unset, .unset] [])) rfl (hb hby at_7) (by decide) (by decide)
  obtain ⟨b1, g1⟩ : ∃ z, z = h0.size := ⟨_, rfl⟩
  rw [← g1] at A1 D1 st1
  have g_b1 : n0 ≤ b1 := Nat.le_trans Z0 (Nat.le_of_eq g1.symm)
  have O2 := O0.ext E1
  have Z3 : n0 ≤ h1.size := Nat.le_trans Z0 E1.1
  have f4 : Fld Z h1 b1 "com/example/wariant/wariant/engine/Cnf" "clauses" "Ljava/util/List;" .null := D1 (Or.inr (hw _ (List.mem_of_getElem? (i := 35) rfl))) (ty := (.object "java/util/List")) (by decide)
  have f5 : Fld Z h1 b1 "com/example/wariant/wariant/engine/Cnf" "firstDecisions" "Ljava/util/List;" .null := D1 (Or.inr (hw _ (List.mem_of_getElem? (i := 37) rfl))) (ty := (.object "java/util/List")) (by decide)
  have f6 : Fld Z h1 b1 "com/example/wariant/wariant/engine/Cnf" "variableCount" "I" (.int (0 : Int32)) := D1 (Or.inl (hw _ (List.mem_of_getElem? (i := 44) rfl))) (ty := .int) (by decide)
  refine own_step (st' := T1.setTop (mkF m 10 #[.val (.int x0), .val (.int kk), .unset, .unset, .unset] [(.ref b1)])) st1 ?_
  refine own_step (st' := T1.setTop (mkF m 11 #[.val (.int x0), .val (.int kk), .unset, .unset, .unset] [(.ref b1), (.ref b1)])) (fun t k => XS.dup X1.here hx rfl (hb hby at_10) rfl rfl k) ?_
  obtain ⟨_, _, ⟨T7, L7, k7, n7⟩, -, X7, ⟨Lc7, hQ7, l7, y7, z7⟩, st7⟩ := X1.specialBack hx (y := (⟨"com/example/wariant/wariant/engine/Cnf", "<init>", "()V"⟩ : MethodName)) rfl hown (mvT hZ (hw _ (List.mem_of_getElem? (i := 4) rfl))) (mvT hZ (hw _ (List.mem_of_getElem? (i := 5) rfl))) (mvT hZ (hw _ (List.mem_of_getElem? (i := 6) rfl))) (by decide) (backOf (W := 1) (rm1 l Z a0 hw [] b1 dd h1 n0 Z3 O2 f4 f5 f6 A1 g_b1 p_0) hZ (hw _ (List.mem_of_getElem? (i := 6) rfl)) (hw _ (List.mem_of_getElem? (i := 3) rfl)) (by decide) (by decide)) (g := (mkF m 11 #[.val (.int x0), .val (.int kk), .unset, .unset, .unset] [(.ref b1), (.ref b1)])) rfl (by rw [hml]; rfl) (Steps.refl _) (a := b1) (argsL := []) (rest := [(.ref b1)]) (lenOf pd_0 rfl) rfl (by show 2 * 0 + _ ≤ _; exact Nat.le_of_eq rfl) (hb hby at_11) (fun _ _ => ⟨rfl, e1, (by decide : 1 + 2 ≤ _), (by decide : 3 + 6 ≤ _)⟩)
  dsimp only [Pt.U, Pt.locs, Pt.cells, Pt.slots] at X7 l7 y7 z7 st7 hQ7
  subst l7 y7 z7
  obtain ⟨b_7, rfl, N7q, K7, pq7_0, pq7_1, pq7_2, pq7_3, pq7_4⟩ := hQ7
  have N7 := Fr.app N0 N7q
  obtain ⟨h7, e7⟩ : ∃ z, T7.heap = z := ⟨_, rfl⟩
  rw [e7] at K7 pq7_1 pq7_2 pq7_3 pq7_4
  have ne8 : b1 ≠ b_7 := Nat.ne_of_lt (Nat.lt_of_lt_of_le A1.lt pq7_0)
  have g_b_7 : n0 ≤ b_7 := Nat.le_trans Z3 pq7_0
  have f9 := A1.keep K7
  have O10 := O2.keep K7 (allS g_b1 all0)
  have Z11 : n0 ≤ h7.size := Nat.le_trans Z3 K7.1
  refine own_step (st' := T7.setTop (mkF m 14 #[.val (.int x0), .val (.int kk), .unset, .unset, .unset] [(.ref b1)])) (fun t k => st7.trans k) ?_
  refine own_step (st' := T7.setTop (mkF m 15 #[.val (.int x0), .val (.int kk), .val (.ref b1), .unset, .unset] [])) (fun t k => XS.astoreN X7.here hx rfl (hb hby at_14) rfl rfl (l' := #[.val (.int x0), .val (.int kk), .val (.ref b1), .unset, .unset]) rfl k) ?_
  refine own_step (st' := T7.setTop (mkF m 16 #[.val (.int x0), .val (.int kk), .val (.ref b1), .unset, .unset] [(.ref b1)])) (fun t k => XS.aloadN X7.here hx rfl (hb hby at_15) rfl rfl k) ?_
  obtain ⟨cq12, kq12, q12a, q12b, q12c⟩ := isOf hZ e7 f9
  obtain ⟨_, _, ⟨T12, L12, k12, n12⟩, -, X12, ⟨Lc12, hQ12, l12, y12, z12⟩, st12⟩ := X7.virtualBack hx (y := (⟨"com/example/wariant/wariant/engine/Cnf", "variableCount", "()I"⟩ : MethodName)) (z := (⟨"com/example/wariant/wariant/engine/Cnf", "variableCount", "()I"⟩ : MethodName)) hown (mvT hZ (hw _ (List.mem_of_getElem? (i := 38) rfl))) (mvT hZ (hw _ (List.mem_of_getElem? (i := 39) rfl))) (notFace_of_selects (args := #[]) (mvT hZ (hw _ (List.mem_of_getElem? (i := 41) rfl)))) (mvT hZ (hw _ (List.mem_of_getElem? (i := 41) rfl))) (mvT hZ (hw _ (List.mem_of_getElem? (i := 40) rfl))) (by decide) (backOf (W := 0) (rm6 l Z a0 hw [] b1 (0 : Int32) h7 n0 Z11 pq7_1) hZ (hw _ (List.mem_of_getElem? (i := 42) rfl)) (hw _ (List.mem_of_getElem? (i := 3) rfl)) (by decide) (by decide)) q12a q12c (g := (mkF m 16 #[.val (.int x0), .val (.int kk), .val (.ref b1), .unset, .unset] [(.ref b1)])) rfl (by rw [hml]; rfl) (Steps.refl _) (argsL := []) (rest := []) (lenOf pd_1 rfl) rfl (by show 2 * 0 + _ ≤ _; exact Nat.le_of_eq rfl) (hb hby at_16) (fun _ _ => ⟨rfl, e7, (by decide : 3 + 0 ≤ _), (by decide : 9 + 0 ≤ _)⟩)
  dsimp only [Pt.U, Pt.locs, Pt.cells, Pt.slots] at X12 l12 y12 z12 st12 hQ12
  subst l12 y12 z12
  obtain ⟨rfl, N12q, e12⟩ := hQ12
  have N12 := Fr.app N7 N12q
  refine own_step (st' := T12.setTop (mkF m 19 #[.val (.int x0), .val (.int kk), .val (.ref b1), .unset, .unset] [(.int (0 : Int32))])) (fun t k => st12.trans k) ?_
  refine own_step (st' := T12.setTop (mkF m 22 #[.val (.int x0), .val (.int kk), .val (.ref b1), .unset, .unset] [])) (fun t k => XS.ifNo X12.here hx rfl (hb hby at_19) rfl ((if0 _ _).trans (teq (by decide)).2) k) ?_
  refine own_step (st' := T12.setTop (mkF m 23 #[.val (.int x0), .val (.int kk), .val (.ref b1), .unset, .unset] [(.int (1 : Int32))])) (fun t k => XS.iconst X12.here hx rfl (hb hby at_22) k) ?_
  refine own_step (st' := T12.setTop (mkF m 27 #[.val (.int x0), .val (.int kk), .val (.ref b1), .unset, .unset] [(.int (1 : Int32))])) (fun t k => XS.goto X12.here hx rfl (pc0 := 23) (pc' := 27) rfl (hb hby at_23) (by decide) (by decide) k) ?_
  refine own_step (st' := T12.setTop (mkF m 28 #[.val (.int x0), .val (.int kk), .val (.ref b1), .val (.int (1 : Int32)), .unset] [])) (fun t k => XS.istoreN X12.here hx rfl (hb hby at_27) rfl (l' := #[.val (.int x0), .val (.int kk), .val (.ref b1), .val (.int (1 : Int32)), .unset]) rfl k) ?_
  refine own_step (st' := T12.setTop (mkF m 29 #[.val (.int x0), .val (.int kk), .val (.ref b1), .val (.int (1 : Int32)), .unset] [(.int kk)])) (fun t k => XS.iloadN X12.here hx rfl (hb hby at_28) rfl k) ?_
  refine own_step (st' := T12.setTop (mkF m 30 #[.val (.int x0), .val (.int kk), .val (.ref b1), .val (.int (1 : Int32)), .unset] [(.int (1 : Int32)), (.int kk)])) (fun t k => XS.iconst X12.here hx rfl (hb hby at_29) k) ?_
  by_cases hc13 : kk < (1 : Int32)
  · refine own_step (st' := T12.setTop (mkF m 55 #[.val (.int x0), .val (.int kk), .val (.ref b1), .val (.int (1 : Int32)), .unset] [])) (fun t k => XS.icmpYes X12.here hx rfl (pc0 := 30) (pc' := 55) rfl (hb hby at_30) rfl (tlt hc13).1 (by decide) (by decide) k) ?_
    refine own_step (st' := T12.setTop (mkF m 56 #[.val (.int x0), .val (.int kk), .val (.ref b1), .val (.int (1 : Int32)), .unset] [(.int kk)])) (fun t k => XS.iloadN X12.here hx rfl (hb hby at_55) rfl k) ?_
    refine own_step (st' := T12.setTop (mkF m 57 #[.val (.int x0), .val (.int kk), .val (.ref b1), .val (.int (1 : Int32)), .unset] [(.int (2 : Int32)), (.int kk)])) (fun t k => XS.iconst X12.here hx rfl (hb hby at_56) k) ?_
    refine own_step (st' := T12.setTop (mkF m 82 #[.val (.int x0), .val (.int kk), .val (.ref b1), .val (.int (1 : Int32)), .unset] [])) (fun t k => XS.icmpYes X12.here hx rfl (pc0 := 57) (pc' := 82) rfl (hb hby at_57) rfl (tlt (own_ltt hc13 (by decide))).1 (by decide) (by decide) k) ?_
    refine own_step (st' := T12.setTop (mkF m 83 #[.val (.int x0), .val (.int kk), .val (.ref b1), .val (.int (1 : Int32)), .unset] [(.int kk)])) (fun t k => XS.iloadN X12.here hx rfl (hb hby at_82) rfl k) ?_
    refine own_step (st' := T12.setTop (mkF m 84 #[.val (.int x0), .val (.int kk), .val (.ref b1), .val (.int (1 : Int32)), .unset] [(.int (3 : Int32)), (.int kk)])) (fun t k => XS.iconst X12.here hx rfl (hb hby at_83) k) ?_
    refine own_step (st' := T12.setTop (mkF m 109 #[.val (.int x0), .val (.int kk), .val (.ref b1), .val (.int (1 : Int32)), .unset] [])) (fun t k => XS.icmpYes X12.here hx rfl (pc0 := 84) (pc' := 109) rfl (hb hby at_84) rfl (tlt (own_ltt hc13 (by decide))).1 (by decide) (by decide) k) ?_
    refine own_step (st' := T12.setTop (mkF m 110 #[.val (.int x0), .val (.int kk), .val (.ref b1), .val (.int (1 : Int32)), .unset] [(.int kk)])) (fun t k => XS.iloadN X12.here hx rfl (hb hby at_109) rfl k) ?_
    refine own_step (st' := T12.setTop (mkF m 111 #[.val (.int x0), .val (.int kk), .val (.ref b1), .val (.int (1 : Int32)), .unset] [(.int (4 : Int32)), (.int kk)])) (fun t k => XS.iconst X12.here hx rfl (hb hby at_110) k) ?_
    refine own_step (st' := T12.setTop (mkF m 136 #[.val (.int x0), .val (.int kk), .val (.ref b1), .val (.int (1 : Int32)), .unset] [])) (fun t k => XS.icmpYes X12.here hx rfl (pc0 := 111) (pc' := 136) rfl (hb hby at_111) rfl (tlt (own_ltt hc13 (by decide))).1 (by decide) (by decide) k) ?_
    refine own_step (st' := T12.setTop (mkF m 137 #[.val (.int x0), .val (.int kk), .val (.ref b1), .val (.int (1 : Int32)), .unset] [(.int (1 : Int32))])) (fun t k => XS.iloadN X12.here hx rfl (hb hby at_136) rfl k) ?_
    refine own_step (st' := T12.setTop (mkF m 140 #[.val (.int x0), .val (.int kk), .val (.ref b1), .val (.int (1 : Int32)), .unset] [])) (fun t k => XS.ifNo X12.here hx rfl (hb hby at_137) rfl ((if0 _ _).trans (feq (by decide)).1) k) ?_
    refine own_step (st' := T12.setTop (mkF m 141 #[.val (.int x0), .val (.int kk), .val (.ref b1), .val (.int (1 : Int32)), .unset] [(.ref b1)])) (fun t k => XS.aloadN X12.here hx rfl (hb hby at_140) rfl rfl k) ?_
    obtain ⟨cq14, kq14, q14a, q14b, q14c⟩ := isOf hZ e12 f9
    obtain ⟨_, _, ⟨T14, L14, k14, n14⟩, -, X14, ⟨Lc14, hQ14, l14, y14, z14⟩, st14⟩ := X12.virtualBack hx (y := (⟨"com/example/wariant/wariant/engine/Cnf", "variableCount", "()I"⟩ : MethodName)) (z := (⟨"com/example/wariant/wariant/engine/Cnf", "variableCount", "()I"⟩ : MethodName)) hown (mvT hZ (hw _ (List.mem_of_getElem? (i := 38) rfl))) (mvT hZ (hw _ (List.mem_of_getElem? (i := 39) rfl))) (notFace_of_selects (args := #[]) (mvT hZ (hw _ (List.mem_of_getElem? (i := 41) rfl)))) (mvT hZ (hw _ (List.mem_of_getElem? (i := 41) rfl))) (mvT hZ (hw _ (List.mem_of_getElem? (i := 40) rfl))) (by decide) (backOf (W := 0) (rm6 l Z a0 hw [] b1 (0 : Int32) h7 n0 Z11 pq7_1) hZ (hw _ (List.mem_of_getElem? (i := 42) rfl)) (hw _ (List.mem_of_getElem? (i := 3) rfl)) (by decide) (by decide)) q14a q14c (g := (mkF m 141 #[.val (.int x0), .val (.int kk), .val (.ref b1), .val (.int (1 : Int32)), .unset] [(.ref b1)])) rfl (by rw [hml]; rfl) (Steps.refl _) (argsL := []) (rest := []) (lenOf pd_1 rfl) rfl (by show 2 * 0 + _ ≤ _; exact Nat.le_of_eq rfl) (hb hby at_141) (fun _ _ => ⟨rfl, e12, (by decide : 3 + 0 ≤ _), (by decide : 9 + 0 ≤ _)⟩)
    dsimp only [Pt.U, Pt.locs, Pt.cells, Pt.slots] at X14 l14 y14 z14 st14 hQ14
    subst l14 y14 z14
    obtain ⟨rfl, N14q, e14⟩ := hQ14
    have N14 := Fr.app N12 N14q
    refine own_step (st' := T14.setTop (mkF m 144 #[.val (.int x0), .val (.int kk), .val (.ref b1), .val (.int (1 : Int32)), .unset] [(.int (0 : Int32))])) (fun t k => st14.trans k) ?_
    refine own_step (st' := T14.setTop (mkF m 145 #[.val (.int x0), .val (.int kk), .val (.ref b1), .val (.int (1 : Int32)), .unset] [(.int kk), (.int (0 : Int32))])) (fun t k => XS.iloadN X14.here hx rfl (hb hby at_144) rfl k) ?_
    refine own_step (st' := T14.setTop (mkF m 148 #[.val (.int x0), .val (.int kk), .val (.ref b1), .val (.int (1 : Int32)), .unset] [])) (fun t k => XS.icmpNo X14.here hx rfl (hb hby at_145) rfl (teq ((by decide : (0 : Int32) = (0 : Int32)).trans (own_mid hkk.1 hc13 (by decide)))).2 k) ?_
    refine own_step (st' := T14.setTop (mkF m 149 #[.val (.int x0), .val (.int kk), .val (.ref b1), .val (.int (1 : Int32)), .unset] [(.int (1 : Int32))])) (fun t k => XS.iconst X14.here hx rfl (hb hby at_148) k) ?_
    refine own_step (st' := T14.setTop (mkF m 153 #[.val (.int x0), .val (.int kk), .val (.ref b1), .val (.int (1 : Int32)), .unset] [(.int (1 : Int32))])) (fun t k => XS.goto X14.here hx rfl (pc0 := 149) (pc' := 153) rfl (hb hby at_149) (by decide) (by decide) k) ?_
    refine own_step (st' := T14.setTop (mkF m 154 #[.val (.int x0), .val (.int kk), .val (.ref b1), .val (.int (1 : Int32)), .unset] [])) (fun t k => XS.istoreN X14.here hx rfl (hb hby at_153) rfl (l' := #[.val (.int x0), .val (.int kk), .val (.ref b1), .val (.int (1 : Int32)), .unset]) rfl k) ?_
    refine own_step (st' := T14.setTop (mkF m 155 #[.val (.int x0), .val (.int kk), .val (.ref b1), .val (.int (1 : Int32)), .unset] [(.int (1 : Int32))])) (fun t k => XS.iloadN X14.here hx rfl (hb hby at_154) rfl k) ?_
    refine own_step (st' := T14.setTop (mkF m 158 #[.val (.int x0), .val (.int kk), .val (.ref b1), .val (.int (1 : Int32)), .unset] [])) (fun t k => XS.ifNo X14.here hx rfl (hb hby at_155) rfl ((if0 _ _).trans (feq (by decide)).1) k) ?_
    refine own_step (st' := T14.setTop (mkF m 159 #[.val (.int x0), .val (.int kk), .val (.ref b1), .val (.int (1 : Int32)), .unset] [(.ref b1)])) (fun t k => XS.aloadN X14.here hx rfl (hb hby at_158) rfl rfl k) ?_
    obtain ⟨cq15, kq15, q15a, q15b, q15c⟩ := isOf hZ e14 f9
    obtain ⟨_, _, ⟨T15, L15, k15, n15⟩, -, X15, ⟨Lc15, hQ15, l15, y15, z15⟩, st15⟩ := X14.virtualBack hx (y := (⟨"com/example/wariant/wariant/engine/Cnf", "clauseCount", "()I"⟩ : MethodName)) (z := (⟨"com/example/wariant/wariant/engine/Cnf", "clauseCount", "()I"⟩ : MethodName)) hown (mvT hZ (hw _ (List.mem_of_getElem? (i := 45) rfl))) (mvT hZ (hw _ (List.mem_of_getElem? (i := 46) rfl))) (notFace_of_selects (args := #[]) (mvT hZ (hw _ (List.mem_of_getElem? (i := 48) rfl)))) (mvT hZ (hw _ (List.mem_of_getElem? (i := 48) rfl))) (mvT hZ (hw _ (List.mem_of_getElem? (i := 47) rfl))) (by decide) (backOf (W := 0) (rm7 l Z a0 hw [] b1 b_7 (0 : Int32) h7 n0 Z11 pq7_2 pq7_3 pq7_4) hZ (hw _ (List.mem_of_getElem? (i := 49) rfl)) (hw _ (List.mem_of_getElem? (i := 3) rfl)) (by decide) (by decide)) q15a q15c (g := (mkF m 159 #[.val (.int x0), .val (.int kk), .val (.ref b1), .val (.int (1 : Int32)), .unset] [(.ref b1)])) rfl (by rw [hml]; rfl) (Steps.refl _) (argsL := []) (rest := []) (lenOf pd_1 rfl) rfl (by show 2 * 0 + _ ≤ _; exact Nat.le_of_eq rfl) (hb hby at_159) (fun _ _ => ⟨rfl, e14, (by decide : 3 + 0 ≤ _), (by decide : 9 + 0 ≤ _)⟩)
    dsimp only [Pt.U, Pt.locs, Pt.cells, Pt.slots] at X15 l15 y15 z15 st15 hQ15
    subst l15 y15 z15
    obtain ⟨rfl, N15q, e15⟩ := hQ15
    have N15 := Fr.app N14 N15q
    refine own_step (st' := T15.setTop (mkF m 162 #[.val (.int x0), .val (.int kk), .val (.ref b1), .val (.int (1 : Int32)), .unset] [(.int (0 : Int32))])) (fun t k => st15.trans k) ?_
    refine own_step (st' := T15.setTop (mkF m 165 #[.val (.int x0), .val (.int kk), .val (.ref b1), .val (.int (1 : Int32)), .unset] [])) (fun t k => XS.ifNo X15.here hx rfl (hb hby at_162) rfl ((if0 _ _).trans (teq (by decide)).2) k) ?_
    refine own_step (st' := T15.setTop (mkF m 166 #[.val (.int x0), .val (.int kk), .val (.ref b1), .val (.int (1 : Int32)), .unset] [(.int (1 : Int32))])) (fun t k => XS.iconst X15.here hx rfl (hb hby at_165) k) ?_
    refine own_step (st' := T15.setTop (mkF m 170 #[.val (.int x0), .val (.int kk), .val (.ref b1), .val (.int (1 : Int32)), .unset] [(.int (1 : Int32))])) (fun t k => XS.goto X15.here hx rfl (pc0 := 166) (pc' := 170) rfl (hb hby at_166) (by decide) (by decide) k) ?_
    refine own_step (st' := T15.setTop (mkF m 171 #[.val (.int x0), .val (.int kk), .val (.ref b1), .val (.int (1 : Int32)), .unset] [])) (fun t k => XS.istoreN X15.here hx rfl (hb hby at_170) rfl (l' := #[.val (.int x0), .val (.int kk), .val (.ref b1), .val (.int (1 : Int32)), .unset]) rfl k) ?_
    refine own_step (st' := T15.setTop (mkF m 172 #[.val (.int x0), .val (.int kk), .val (.ref b1), .val (.int (1 : Int32)), .unset] [(.int (1 : Int32))])) (fun t k => XS.iloadN X15.here hx rfl (hb hby at_171) rfl k) ?_
    refine own_ret X15 Bd.notSynchronized (some (.int (1 : Int32))) (fun h => by rw [Bd.returns] at h; cases h) (fun fs hr => retN X15 hx (t := .boolean) Bd.returns (by simp) (hb hby at_172) hr) ?_ (by decide) (by decide)
    rw [e15]
    exact ⟨rfl, N15⟩
  · refine own_step (st' := T12.setTop (mkF m 33 #[.val (.int x0), .val (.int kk), .val (.ref b1), .val (.int (1 : Int32)), .unset] [])) (fun t k => XS.icmpNo X12.here hx rfl (hb hby at_30) rfl (flt hc13).1 k) ?_
    refine own_step (st' := T12.setTop (mkF m 34 #[.val (.int x0), .val (.int kk), .val (.ref b1), .val (.int (1 : Int32)), .unset] [(.ref b1)])) (fun t k => XS.aloadN X12.here hx rfl (hb hby at_33) rfl rfl k) ?_
    obtain ⟨cq16, kq16, q16a, q16b, q16c⟩ := isOf hZ e12 f9
    obtain ⟨_, _, ⟨T16, L16, k16, n16⟩, -, X16, ⟨Lc16, hQ16, l16, y16, z16⟩, st16⟩ := X12.virtualBack hx (y := (⟨"com/example/wariant/wariant/engine/Cnf", "newVariable", "()I"⟩ : MethodName)) (z := (⟨"com/example/wariant/wariant/engine/Cnf", "newVariable", "()I"⟩ : MethodName)) hown (mvT hZ (hw _ (List.mem_of_getElem? (i := 61) rfl))) (mvT hZ (hw _ (List.mem_of_getElem? (i := 62) rfl))) (notFace_of_selects (args := #[]) (mvT hZ (hw _ (List.mem_of_getElem? (i := 64) rfl)))) (mvT hZ (hw _ (List.mem_of_getElem? (i := 64) rfl))) (mvT hZ (hw _ (List.mem_of_getElem? (i := 63) rfl))) (by decide) (backOf (W := 0) (rm9 l Z a0 hw [] b1 (0 : Int32) b_7 h7 n0 Z11 pq7_1 f9 g_b1 pq7_2) hZ (hw _ (List.mem_of_getElem? (i := 65) rfl)) (hw _ (List.mem_of_getElem? (i := 3) rfl)) (by decide) (by decide)) q16a q16c (g := (mkF m 34 #[.val (.int x0), .val (.int kk), .val (.ref b1), .val (.int (1 : Int32)), .unset] [(.ref b1)])) rfl (by rw [hml]; rfl) (Steps.refl _) (argsL := []) (rest := []) (lenOf pd_1 rfl) rfl (by show 2 * 0 + _ ≤ _; exact Nat.le_of_eq rfl) (hb hby at_34) (fun _ _ => ⟨rfl, e12, (by decide : 3 + 0 ≤ _), (by decide : 9 + 0 ≤ _)⟩)
    dsimp only [Pt.U, Pt.locs, Pt.cells, Pt.slots] at X16 l16 y16 z16 st16 hQ16
    subst l16 y16 z16
    obtain ⟨rfl, N16q, K16, pq16_0, pq16_1⟩ := hQ16
    have N16 := Fr.app N12 N16q
    obtain ⟨h16, e16⟩ : ∃ z, T16.heap = z := ⟨_, rfl⟩
    rw [e16] at K16 pq16_0 pq16_1
    have f17 := f9.keep K16
    have f18 := pq7_3.keep K16
    have f19 := pq7_4.keep K16 (ninS (Ne.symm ne8) nin0)
    have O20 := O10.keep K16 (allS g_b1 all0)
    have Z21 : n0 ≤ h16.size := Nat.le_trans Z11 K16.1
    refine own_step (st' := T16.setTop (mkF m 37 #[.val (.int x0), .val (.int kk), .val (.ref b1), .val (.int (1 : Int32)), .unset] [(.int ((0 : Int32) + (1 : Int32)))])) (fun t k => st16.trans k) ?_
    refine own_step (st' := T16.setTop (mkF m 39 #[.val (.int x0), .val (.int kk), .val (.ref b1), .val (.int (1 : Int32)), .val (.int ((0 : Int32) + (1 : Int32)))] [])) (fun t k => XS.istore X16.here hx rfl (hb hby at_37) rfl (l' := #[.val (.int x0), .val (.int kk), .val (.ref b1), .val (.int (1 : Int32)), .val (.int ((0 : Int32) + (1 : Int32)))]) rfl k) ?_
    refine own_step (st' := T16.setTop (mkF m 40 #[.val (.int x0), .val (.int kk), .val (.ref b1), .val (.int (1 : Int32)), .val (.int ((0 : Int32) + (1 : Int32)))] [(.int (1 : Int32))])) (fun t k => XS.iloadN X16.here hx rfl (hb hby at_39) rfl k) ?_
    refine own_step (st' := T16.setTop (mkF m 43 #[.val (.int x0), .val (.int kk), .val (.ref b1), .val (.int (1 : Int32)), .val (.int ((0 : Int32) + (1 : Int32)))] [])) (fun t k => XS.ifNo X16.here hx rfl (hb hby at_40) rfl ((if0 _ _).trans (feq (by decide)).1) k) ?_
    refine own_step (st' := T16.setTop (mkF m 45 #[.val (.int x0), .val (.int kk), .val (.ref b1), .val (.int (1 : Int32)), .val (.int ((0 : Int32) + (1 : Int32)))] [(.int ((0 : Int32) + (1 : Int32)))])) (fun t k => XS.iload X16.here hx rfl (hb hby at_43) rfl k) ?_
    refine own_step (st' := T16.setTop (mkF m 46 #[.val (.int x0), .val (.int kk), .val (.ref b1), .val (.int (1 : Int32)), .val (.int ((0 : Int32) + (1 : Int32)))] [(.int (1 : Int32)), (.int ((0 : Int32) + (1 : Int32)))])) (fun t k => XS.iconst X16.here hx rfl (hb hby at_45) k) ?_
    refine own_step (st' := T16.setTop (mkF m 49 #[.val (.int x0), .val (.int kk), .val (.ref b1), .val (.int (1 : Int32)), .val (.int ((0 : Int32) + (1 : Int32)))] [])) (fun t k => XS.icmpNo X16.here hx rfl (hb hby at_46) rfl (teq (by decide)).2 k) ?_
    refine own_step (st' := T16.setTop (mkF m 50 #[.val (.int x0), .val (.int kk), .val (.ref b1), .val (.int (1 : Int32)), .val (.int ((0 : Int32) + (1 : Int32)))] [(.int (1 : Int32))])) (fun t k => XS.iconst X16.here hx rfl (hb hby at_49) k) ?_
    refine own_step (st' := T16.setTop (mkF m 54 #[.val (.int x0), .val (.int kk), .val (.ref b1), .val (.int (1 : Int32)), .val (.int ((0 : Int32) + (1 : Int32)))] [(.int (1 : Int32))])) (fun t k => XS.goto X16.here hx rfl (pc0 := 50) (pc' := 54) rfl (hb hby at_50) (by decide) (by decide) k) ?_
    refine own_step (st' := T16.setTop (mkF m 55 #[.val (.int x0), .val (.int kk), .val (.ref b1), .val (.int (1 : Int32)), .val (.int ((0 : Int32) + (1 : Int32)))] [])) (fun t k => XS.istoreN X16.here hx rfl (hb hby at_54) rfl (l' := #[.val (.int x0), .val (.int kk), .val (.ref b1), .val (.int (1 : Int32)), .val (.int ((0 : Int32) + (1 : Int32)))]) rfl k) ?_
    refine own_step (st' := T16.setTop (mkF m 56 #[.val (.int x0), .val (.int kk), .val (.ref b1), .val (.int (1 : Int32)), .val (.int ((0 : Int32) + (1 : Int32)))] [(.int kk)])) (fun t k => XS.iloadN X16.here hx rfl (hb hby at_55) rfl k) ?_
    refine own_step (st' := T16.setTop (mkF m 57 #[.val (.int x0), .val (.int kk), .val (.ref b1), .val (.int (1 : Int32)), .val (.int ((0 : Int32) + (1 : Int32)))] [(.int (2 : Int32)), (.int kk)])) (fun t k => XS.iconst X16.here hx rfl (hb hby at_56) k) ?_
    by_cases hc22 : kk < (2 : Int32)
    · refine own_step (st' := T16.setTop (mkF m 82 #[.val (.int x0), .val (.int kk), .val (.ref b1), .val (.int (1 : Int32)), .val (.int ((0 : Int32) + (1 : Int32)))] [])) (fun t k => XS.icmpYes X16.here hx rfl (pc0 := 57) (pc' := 82) rfl (hb hby at_57) rfl (tlt hc22).1 (by decide) (by decide) k) ?_
      refine own_step (st' := T16.setTop (mkF m 83 #[.val (.int x0), .val (.int kk), .val (.ref b1), .val (.int (1 : Int32)), .val (.int ((0 : Int32) + (1 : Int32)))] [(.int kk)])) (fun t k => XS.iloadN X16.here hx rfl (hb hby at_82) rfl k) ?_
      refine own_step (st' := T16.setTop (mkF m 84 #[.val (.int x0), .val (.int kk), .val (.ref b1), .val (.int (1 : Int32)), .val (.int ((0 : Int32) + (1 : Int32)))] [(.int (3 : Int32)), (.int kk)])) (fun t k => XS.iconst X16.here hx rfl (hb hby at_83) k) ?_
      refine own_step (st' := T16.setTop (mkF m 109 #[.val (.int x0), .val (.int kk), .val (.ref b1), .val (.int (1 : Int32)), .val (.int ((0 : Int32) + (1 : Int32)))] [])) (fun t k => XS.icmpYes X16.here hx rfl (pc0 := 84) (pc' := 109) rfl (hb hby at_84) rfl (tlt (own_ltt hc22 (by decide))).1 (by decide) (by decide) k) ?_
      refine own_step (st' := T16.setTop (mkF m 110 #[.val (.int x0), .val (.int kk), .val (.ref b1), .val (.int (1 : Int32)), .val (.int ((0 : Int32) + (1 : Int32)))] [(.int kk)])) (fun t k => XS.iloadN X16.here hx rfl (hb hby at_109) rfl k) ?_
      refine own_step (st' := T16.setTop (mkF m 111 #[.val (.int x0), .val (.int kk), .val (.ref b1), .val (.int (1 : Int32)), .val (.int ((0 : Int32) + (1 : Int32)))] [(.int (4 : Int32)), (.int kk)])) (fun t k => XS.iconst X16.here hx rfl (hb hby at_110) k) ?_
      refine own_step (st' := T16.setTop (mkF m 136 #[.val (.int x0), .val (.int kk), .val (.ref b1), .val (.int (1 : Int32)), .val (.int ((0 : Int32) + (1 : Int32)))] [])) (fun t k => XS.icmpYes X16.here hx rfl (pc0 := 111) (pc' := 136) rfl (hb hby at_111) rfl (tlt (own_ltt hc22 (by decide))).1 (by decide) (by decide) k) ?_
      refine own_step (st' := T16.setTop (mkF m 137 #[.val (.int x0), .val (.int kk), .val (.ref b1), .val (.int (1 : Int32)), .val (.int ((0 : Int32) + (1 : Int32)))] [(.int (1 : Int32))])) (fun t k => XS.iloadN X16.here hx rfl (hb hby at_136) rfl k) ?_
      refine own_step (st' := T16.setTop (mkF m 140 #[.val (.int x0), .val (.int kk), .val (.ref b1), .val (.int (1 : Int32)), .val (.int ((0 : Int32) + (1 : Int32)))] [])) (fun t k => XS.ifNo X16.here hx rfl (hb hby at_137) rfl ((if0 _ _).trans (feq (by decide)).1) k) ?_
      refine own_step (st' := T16.setTop (mkF m 141 #[.val (.int x0), .val (.int kk), .val (.ref b1), .val (.int (1 : Int32)), .val (.int ((0 : Int32) + (1 : Int32)))] [(.ref b1)])) (fun t k => XS.aloadN X16.here hx rfl (hb hby at_140) rfl rfl k) ?_
      obtain ⟨cq23, kq23, q23a, q23b, q23c⟩ := isOf hZ e16 f17
      obtain ⟨_, _, ⟨T23, L23, k23, n23⟩, -, X23, ⟨Lc23, hQ23, l23, y23, z23⟩, st23⟩ := X16.virtualBack hx (y := (⟨"com/example/wariant/wariant/engine/Cnf", "variableCount", "()I"⟩ : MethodName)) (z := (⟨"com/example/wariant/wariant/engine/Cnf", "variableCount", "()I"⟩ : MethodName)) hown (mvT hZ (hw _ (List.mem_of_getElem? (i := 38) rfl))) (mvT hZ (hw _ (List.mem_of_getElem? (i := 39) rfl))) (notFace_of_selects (args := #[]) (mvT hZ (hw _ (List.mem_of_getElem? (i := 41) rfl)))) (mvT hZ (hw _ (List.mem_of_getElem? (i := 41) rfl))) (mvT hZ (hw _ (List.mem_of_getElem? (i := 40) rfl))) (by decide) (backOf (W := 0) (rm6 l Z a0 hw [] b1 ((0 : Int32) + (1 : Int32)) h16 n0 Z21 pq16_0) hZ (hw _ (List.mem_of_getElem? (i := 42) rfl)) (hw _ (List.mem_of_getElem? (i := 3) rfl)) (by decide) (by decide)) q23a q23c (g := (mkF m 141 #[.val (.int x0), .val (.int kk), .val (.ref b1), .val (.int (1 : Int32)), .val (.int ((0 : Int32) + (1 : Int32)))] [(.ref b1)])) rfl (by rw [hml]; rfl) (Steps.refl _) (argsL := []) (rest := []) (lenOf pd_1 rfl) rfl (by show 2 * 0 + _ ≤ _; exact Nat.le_of_eq rfl) (hb hby at_141) (fun _ _ => ⟨rfl, e16, (by decide : 3 + 0 ≤ _), (by decide : 9 + 0 ≤ _)⟩)
      dsimp only [Pt.U, Pt.locs, Pt.cells, Pt.slots] at X23 l23 y23 z23 st23 hQ23
      subst l23 y23 z23
      obtain ⟨rfl, N23q, e23⟩ := hQ23
      have N23 := Fr.app N16 N23q
      refine own_step (st' := T23.setTop (mkF m 144 #[.val (.int x0), .val (.int kk), .val (.ref b1), .val (.int (1 : Int32)), .val (.int ((0 : Int32) + (1 : Int32)))] [(.int ((0 : Int32) + (1 : Int32)))])) (fun t k => st23.trans k) ?_
      refine own_step (st' := T23.setTop (mkF m 145 #[.val (.int x0), .val (.int kk), .val (.ref b1), .val (.int (1 : Int32)), .val (.int ((0 : Int32) + (1 : Int32)))] [(.int kk), (.int ((0 : Int32) + (1 : Int32)))])) (fun t k => XS.iloadN X23.here hx rfl (hb hby at_144) rfl k) ?_
      refine own_step (st' := T23.setTop (mkF m 148 #[.val (.int x0), .val (.int kk), .val (.ref b1), .val (.int (1 : Int32)), .val (.int ((0 : Int32) + (1 : Int32)))] [])) (fun t k => XS.icmpNo X23.here hx rfl (hb hby at_145) rfl (teq ((by decide : ((0 : Int32) + (1 : Int32)) = (1 : Int32)).trans (own_mid hc13 hc22 (by decide)))).2 k) ?_
      refine own_step (st' := T23.setTop (mkF m 149 #[.val (.int x0), .val (.int kk), .val (.ref b1), .val (.int (1 : Int32)), .val (.int ((0 : Int32) + (1 : Int32)))] [(.int (1 : Int32))])) (fun t k => XS.iconst X23.here hx rfl (hb hby at_148) k) ?_
      refine own_step (st' := T23.setTop (mkF m 153 #[.val (.int x0), .val (.int kk), .val (.ref b1), .val (.int (1 : Int32)), .val (.int ((0 : Int32) + (1 : Int32)))] [(.int (1 : Int32))])) (fun t k => XS.goto X23.here hx rfl (pc0 := 149) (pc' := 153) rfl (hb hby at_149) (by decide) (by decide) k) ?_
      refine own_step (st' := T23.setTop (mkF m 154 #[.val (.int x0), .val (.int kk), .val (.ref b1), .val (.int (1 : Int32)), .val (.int ((0 : Int32) + (1 : Int32)))] [])) (fun t k => XS.istoreN X23.here hx rfl (hb hby at_153) rfl (l' := #[.val (.int x0), .val (.int kk), .val (.ref b1), .val (.int (1 : Int32)), .val (.int ((0 : Int32) + (1 : Int32)))]) rfl k) ?_
      refine own_step (st' := T23.setTop (mkF m 155 #[.val (.int x0), .val (.int kk), .val (.ref b1), .val (.int (1 : Int32)), .val (.int ((0 : Int32) + (1 : Int32)))] [(.int (1 : Int32))])) (fun t k => XS.iloadN X23.here hx rfl (hb hby at_154) rfl k) ?_
      refine own_step (st' := T23.setTop (mkF m 158 #[.val (.int x0), .val (.int kk), .val (.ref b1), .val (.int (1 : Int32)), .val (.int ((0 : Int32) + (1 : Int32)))] [])) (fun t k => XS.ifNo X23.here hx rfl (hb hby at_155) rfl ((if0 _ _).trans (feq (by decide)).1) k) ?_
      refine own_step (st' := T23.setTop (mkF m 159 #[.val (.int x0), .val (.int kk), .val (.ref b1), .val (.int (1 : Int32)), .val (.int ((0 : Int32) + (1 : Int32)))] [(.ref b1)])) (fun t k => XS.aloadN X23.here hx rfl (hb hby at_158) rfl rfl k) ?_
      obtain ⟨cq24, kq24, q24a, q24b, q24c⟩ := isOf hZ e23 f17
      obtain ⟨_, _, ⟨T24, L24, k24, n24⟩, -, X24, ⟨Lc24, hQ24, l24, y24, z24⟩, st24⟩ := X23.virtualBack hx (y := (⟨"com/example/wariant/wariant/engine/Cnf", "clauseCount", "()I"⟩ : MethodName)) (z := (⟨"com/example/wariant/wariant/engine/Cnf", "clauseCount", "()I"⟩ : MethodName)) hown (mvT hZ (hw _ (List.mem_of_getElem? (i := 45) rfl))) (mvT hZ (hw _ (List.mem_of_getElem? (i := 46) rfl))) (notFace_of_selects (args := #[]) (mvT hZ (hw _ (List.mem_of_getElem? (i := 48) rfl)))) (mvT hZ (hw _ (List.mem_of_getElem? (i := 48) rfl))) (mvT hZ (hw _ (List.mem_of_getElem? (i := 47) rfl))) (by decide) (backOf (W := 0) (rm7 l Z a0 hw [] b1 b_7 (0 : Int32) h16 n0 Z21 pq16_1 f18 f19) hZ (hw _ (List.mem_of_getElem? (i := 49) rfl)) (hw _ (List.mem_of_getElem? (i := 3) rfl)) (by decide) (by decide)) q24a q24c (g := (mkF m 159 #[.val (.int x0), .val (.int kk), .val (.ref b1), .val (.int (1 : Int32)), .val (.int ((0 : Int32) + (1 : Int32)))] [(.ref b1)])) rfl (by rw [hml]; rfl) (Steps.refl _) (argsL := []) (rest := []) (lenOf pd_1 rfl) rfl (by show 2 * 0 + _ ≤ _; exact Nat.le_of_eq rfl) (hb hby at_159) (fun _ _ => ⟨rfl, e23, (by decide : 3 + 0 ≤ _), (by decide : 9 + 0 ≤ _)⟩)
      dsimp only [Pt.U, Pt.locs, Pt.cells, Pt.slots] at X24 l24 y24 z24 st24 hQ24
      subst l24 y24 z24
      obtain ⟨rfl, N24q, e24⟩ := hQ24
      have N24 := Fr.app N23 N24q
      refine own_step (st' := T24.setTop (mkF m 162 #[.val (.int x0), .val (.int kk), .val (.ref b1), .val (.int (1 : Int32)), .val (.int ((0 : Int32) + (1 : Int32)))] [(.int (0 : Int32))])) (fun t k => st24.trans k) ?_
      refine own_step (st' := T24.setTop (mkF m 165 #[.val (.int x0), .val (.int kk), .val (.ref b1), .val (.int (1 : Int32)), .val (.int ((0 : Int32) + (1 : Int32)))] [])) (fun t k => XS.ifNo X24.here hx rfl (hb hby at_162) rfl ((if0 _ _).trans (teq (by decide)).2) k) ?_
      refine own_step (st' := T24.setTop (mkF m 166 #[.val (.int x0), .val (.int kk), .val (.ref b1), .val (.int (1 : Int32)), .val (.int ((0 : Int32) + (1 : Int32)))] [(.int (1 : Int32))])) (fun t k => XS.iconst X24.here hx rfl (hb hby at_165) k) ?_
      refine own_step (st' := T24.setTop (mkF m 170 #[.val (.int x0), .val (.int kk), .val (.ref b1), .val (.int (1 : Int32)), .val (.int ((0 : Int32) + (1 : Int32)))] [(.int (1 : Int32))])) (fun t k => XS.goto X24.here hx rfl (pc0 := 166) (pc' := 170) rfl (hb hby at_166) (by decide) (by decide) k) ?_
      refine own_step (st' := T24.setTop (mkF m 171 #[.val (.int x0), .val (.int kk), .val (.ref b1), .val (.int (1 : Int32)), .val (.int ((0 : Int32) + (1 : Int32)))] [])) (fun t k => XS.istoreN X24.here hx rfl (hb hby at_170) rfl (l' := #[.val (.int x0), .val (.int kk), .val (.ref b1), .val (.int (1 : Int32)), .val (.int ((0 : Int32) + (1 : Int32)))]) rfl k) ?_
      refine own_step (st' := T24.setTop (mkF m 172 #[.val (.int x0), .val (.int kk), .val (.ref b1), .val (.int (1 : Int32)), .val (.int ((0 : Int32) + (1 : Int32)))] [(.int (1 : Int32))])) (fun t k => XS.iloadN X24.here hx rfl (hb hby at_171) rfl k) ?_
      refine own_ret X24 Bd.notSynchronized (some (.int (1 : Int32))) (fun h => by rw [Bd.returns] at h; cases h) (fun fs hr => retN X24 hx (t := .boolean) Bd.returns (by simp) (hb hby at_172) hr) ?_ (by decide) (by decide)
      rw [e24]
      exact ⟨rfl, N24⟩
    · refine own_step (st' := T16.setTop (mkF m 60 #[.val (.int x0), .val (.int kk), .val (.ref b1), .val (.int (1 : Int32)), .val (.int ((0 : Int32) + (1 : Int32)))] [])) (fun t k => XS.icmpNo X16.here hx rfl (hb hby at_57) rfl (flt hc22).1 k) ?_
      refine own_step (st' := T16.setTop (mkF m 61 #[.val (.int x0), .val (.int kk), .val (.ref b1), .val (.int (1 : Int32)), .val (.int ((0 : Int32) + (1 : Int32)))] [(.ref b1)])) (fun t k => XS.aloadN X16.here hx rfl (hb hby at_60) rfl rfl k) ?_
      obtain ⟨cq25, kq25, q25a, q25b, q25c⟩ := isOf hZ e16 f17
      obtain ⟨_, _, ⟨T25, L25, k25, n25⟩, -, X25, ⟨Lc25, hQ25, l25, y25, z25⟩, st25⟩ := X16.virtualBack hx (y := (⟨"com/example/wariant/wariant/engine/Cnf", "newVariable", "()I"⟩ : MethodName)) (z := (⟨"com/example/wariant/wariant/engine/Cnf", "newVariable", "()I"⟩ : MethodName)) hown (mvT hZ (hw _ (List.mem_of_getElem? (i := 61) rfl))) (mvT hZ (hw _ (List.mem_of_getElem? (i := 62) rfl))) (notFace_of_selects (args := #[]) (mvT hZ (hw _ (List.mem_of_getElem? (i := 64) rfl)))) (mvT hZ (hw _ (List.mem_of_getElem? (i := 64) rfl))) (mvT hZ (hw _ (List.mem_of_getElem? (i := 63) rfl))) (by decide) (backOf (W := 0) (rm9 l Z a0 hw [] b1 ((0 : Int32) + (1 : Int32)) b_7 h16 n0 Z21 pq16_0 f17 g_b1 pq16_1) hZ (hw _ (List.mem_of_getElem? (i := 65) rfl)) (hw _ (List.mem_of_getElem? (i := 3) rfl)) (by decide) (by decide)) q25a q25c (g := (mkF m 61 #[.val (.int x0), .val (.int kk), .val (.ref b1), .val (.int (1 : Int32)), .val (.int ((0 : Int32) + (1 : Int32)))] [(.ref b1)])) rfl (by rw [hml]; rfl) (Steps.refl _) (argsL := []) (rest := []) (lenOf pd_1 rfl) rfl (by show 2 * 0 + _ ≤ _; exact Nat.le_of_eq rfl) (hb hby at_61) (fun _ _ => ⟨rfl, e16, (by decide : 3 + 0 ≤ _), (by decide : 9 + 0 ≤ _)⟩)
      dsimp only [Pt.U, Pt.locs, Pt.cells, Pt.slots] at X25 l25 y25 z25 st25 hQ25
      subst l25 y25 z25
      obtain ⟨rfl, N25q, K25, pq25_0, pq25_1⟩ := hQ25
      have N25 := Fr.app N16 N25q
      obtain ⟨h25, e25⟩ : ∃ z, T25.heap = z := ⟨_, rfl⟩
      rw [e25] at K25 pq25_0 pq25_1
      have f26 := f17.keep K25
      have f27 := f18.keep K25
      have f28 := f19.keep K25 (ninS (Ne.symm ne8) nin0)
      have O29 := O20.keep K25 (allS g_b1 all0)
      have Z30 : n0 ≤ h25.size := Nat.le_trans Z21 K25.1
      refine own_step (st' := T25.setTop (mkF m 64 #[.val (.int x0), .val (.int kk), .val (.ref b1), .val (.int (1 : Int32)), .val (.int ((0 : Int32) + (1 : Int32)))] [(.int (((0 : Int32) + (1 : Int32)) + (1 : Int32)))])) (fun t k => st25.trans k) ?_
      refine own_step (st' := T25.setTop (mkF m 66 #[.val (.int x0), .val (.int kk), .val (.ref b1), .val (.int (1 : Int32)), .val (.int (((0 : Int32) + (1 : Int32)) + (1 : Int32)))] [])) (fun t k => XS.istore X25.here hx rfl (hb hby at_64) rfl (l' := #[.val (.int x0), .val (.int kk), .val (.ref b1), .val (.int (1 : Int32)), .val (.int (((0 : Int32) + (1 : Int32)) + (1 : Int32)))]) rfl k) ?_
      refine own_step (st' := T25.setTop (mkF m 67 #[.val (.int x0), .val (.int kk), .val (.ref b1), .val (.int (1 : Int32)), .val (.int (((0 : Int32) + (1 : Int32)) + (1 : Int32)))] [(.int (1 : Int32))])) (fun t k => XS.iloadN X25.here hx rfl (hb hby at_66) rfl k) ?_
      refine own_step (st' := T25.setTop (mkF m 70 #[.val (.int x0), .val (.int kk), .val (.ref b1), .val (.int (1 : Int32)), .val (.int (((0 : Int32) + (1 : Int32)) + (1 : Int32)))] [])) (fun t k => XS.ifNo X25.here hx rfl (hb hby at_67) rfl ((if0 _ _).trans (feq (by decide)).1) k) ?_
      refine own_step (st' := T25.setTop (mkF m 72 #[.val (.int x0), .val (.int kk), .val (.ref b1), .val (.int (1 : Int32)), .val (.int (((0 : Int32) + (1 : Int32)) + (1 : Int32)))] [(.int (((0 : Int32) + (1 : Int32)) + (1 : Int32)))])) (fun t k => XS.iload X25.here hx rfl (hb hby at_70) rfl k) ?_
      refine own_step (st' := T25.setTop (mkF m 73 #[.val (.int x0), .val (.int kk), .val (.ref b1), .val (.int (1 : Int32)), .val (.int (((0 : Int32) + (1 : Int32)) + (1 : Int32)))] [(.int (2 : Int32)), (.int (((0 : Int32) + (1 : Int32)) + (1 : Int32)))])) (fun t k => XS.iconst X25.here hx rfl (hb hby at_72) k) ?_
      refine own_step (st' := T25.setTop (mkF m 76 #[.val (.int x0), .val (.int kk), .val (.ref b1), .val (.int (1 : Int32)), .val (.int (((0 : Int32) + (1 : Int32)) + (1 : Int32)))] [])) (fun t k => XS.icmpNo X25.here hx rfl (hb hby at_73) rfl (teq (by decide)).2 k) ?_
      refine own_step (st' := T25.setTop (mkF m 77 #[.val (.int x0), .val (.int kk), .val (.ref b1), .val (.int (1 : Int32)), .val (.int (((0 : Int32) + (1 : Int32)) + (1 : Int32)))] [(.int (1 : Int32))])) (fun t k => XS.iconst X25.here hx rfl (hb hby at_76) k) ?_
      refine own_step (st' := T25.setTop (mkF m 81 #[.val (.int x0), .val (.int kk), .val (.ref b1), .val (.int (1 : Int32)), .val (.int (((0 : Int32) + (1 : Int32)) + (1 : Int32)))] [(.int (1 : Int32))])) (fun t k => XS.goto X25.here hx rfl (pc0 := 77) (pc' := 81) rfl (hb hby at_77) (by decide) (by decide) k) ?_
      refine own_step (st' := T25.setTop (mkF m 82 #[.val (.int x0), .val (.int kk), .val (.ref b1), .val (.int (1 : Int32)), .val (.int (((0 : Int32) + (1 : Int32)) + (1 : Int32)))] [])) (fun t k => XS.istoreN X25.here hx rfl (hb hby at_81) rfl (l' := #[.val (.int x0), .val (.int kk), .val (.ref b1), .val (.int (1 : Int32)), .val (.int (((0 : Int32) + (1 : Int32)) + (1 : Int32)))]) rfl k) ?_
      refine own_step (st' := T25.setTop (mkF m 83 #[.val (.int x0), .val (.int kk), .val (.ref b1), .val (.int (1 : Int32)), .val (.int (((0 : Int32) + (1 : Int32)) + (1 : Int32)))] [(.int kk)])) (fun t k => XS.iloadN X25.here hx rfl (hb hby at_82) rfl k) ?_
      refine own_step (st' := T25.setTop (mkF m 84 #[.val (.int x0), .val (.int kk), .val (.ref b1), .val (.int (1 : Int32)), .val (.int (((0 : Int32) + (1 : Int32)) + (1 : Int32)))] [(.int (3 : Int32)), (.int kk)])) (fun t k => XS.iconst X25.here hx rfl (hb hby at_83) k) ?_
      by_cases hc31 : kk < (3 : Int32)
      · refine own_step (st' := T25.setTop (mkF m 109 #[.val (.int x0), .val (.int kk), .val (.ref b1), .val (.int (1 : Int32)), .val (.int (((0 : Int32) + (1 : Int32)) + (1 : Int32)))] [])) (fun t k => XS.icmpYes X25.here hx rfl (pc0 := 84) (pc' := 109) rfl (hb hby at_84) rfl (tlt hc31).1 (by decide) (by decide) k) ?_
        refine own_step (st' := T25.setTop (mkF m 110 #[.val (.int x0), .val (.int kk), .val (.ref b1), .val (.int (1 : Int32)), .val (.int (((0 : Int32) + (1 : Int32)) + (1 : Int32)))] [(.int kk)])) (fun t k => XS.iloadN X25.here hx rfl (hb hby at_109) rfl k) ?_
        refine own_step (st' := T25.setTop (mkF m 111 #[.val (.int x0), .val (.int kk), .val (.ref b1), .val (.int (1 : Int32)), .val (.int (((0 : Int32) + (1 : Int32)) + (1 : Int32)))] [(.int (4 : Int32)), (.int kk)])) (fun t k => XS.iconst X25.here hx rfl (hb hby at_110) k) ?_
        refine own_step (st' := T25.setTop (mkF m 136 #[.val (.int x0), .val (.int kk), .val (.ref b1), .val (.int (1 : Int32)), .val (.int (((0 : Int32) + (1 : Int32)) + (1 : Int32)))] [])) (fun t k => XS.icmpYes X25.here hx rfl (pc0 := 111) (pc' := 136) rfl (hb hby at_111) rfl (tlt (own_ltt hc31 (by decide))).1 (by decide) (by decide) k) ?_
        refine own_step (st' := T25.setTop (mkF m 137 #[.val (.int x0), .val (.int kk), .val (.ref b1), .val (.int (1 : Int32)), .val (.int (((0 : Int32) + (1 : Int32)) + (1 : Int32)))] [(.int (1 : Int32))])) (fun t k => XS.iloadN X25.here hx rfl (hb hby at_136) rfl k) ?_
        refine own_step (st' := T25.setTop (mkF m 140 #[.val (.int x0), .val (.int kk), .val (.ref b1), .val (.int (1 : Int32)), .val (.int (((0 : Int32) + (1 : Int32)) + (1 : Int32)))] [])) (fun t k => XS.ifNo X25.here hx rfl (hb hby at_137) rfl ((if0 _ _).trans (feq (by decide)).1) k) ?_
        refine own_step (st' := T25.setTop (mkF m 141 #[.val (.int x0), .val (.int kk), .val (.ref b1), .val (.int (1 : Int32)), .val (.int (((0 : Int32) + (1 : Int32)) + (1 : Int32)))] [(.ref b1)])) (fun t k => XS.aloadN X25.here hx rfl (hb hby at_140) rfl rfl k) ?_
        obtain ⟨cq32, kq32, q32a, q32b, q32c⟩ := isOf hZ e25 f26
        obtain ⟨_, _, ⟨T32, L32, k32, n32⟩, -, X32, ⟨Lc32, hQ32, l32, y32, z32⟩, st32⟩ := X25.virtualBack hx (y := (⟨"com/example/wariant/wariant/engine/Cnf", "variableCount", "()I"⟩ : MethodName)) (z := (⟨"com/example/wariant/wariant/engine/Cnf", "variableCount", "()I"⟩ : MethodName)) hown (mvT hZ (hw _ (List.mem_of_getElem? (i := 38) rfl))) (mvT hZ (hw _ (List.mem_of_getElem? (i := 39) rfl))) (notFace_of_selects (args := #[]) (mvT hZ (hw _ (List.mem_of_getElem? (i := 41) rfl)))) (mvT hZ (hw _ (List.mem_of_getElem? (i := 41) rfl))) (mvT hZ (hw _ (List.mem_of_getElem? (i := 40) rfl))) (by decide) (backOf (W := 0) (rm6 l Z a0 hw [] b1 (((0 : Int32) + (1 : Int32)) + (1 : Int32)) h25 n0 Z30 pq25_0) hZ (hw _ (List.mem_of_getElem? (i := 42) rfl)) (hw _ (List.mem_of_getElem? (i := 3) rfl)) (by decide) (by decide)) q32a q32c (g := (mkF m 141 #[.val (.int x0), .val (.int kk), .val (.ref b1), .val (.int (1 : Int32)), .val (.int (((0 : Int32) + (1 : Int32)) + (1 : Int32)))] [(.ref b1)])) rfl (by rw [hml]; rfl) (Steps.refl _) (argsL := []) (rest := []) (lenOf pd_1 rfl) rfl (by show 2 * 0 + _ ≤ _; exact Nat.le_of_eq rfl) (hb hby at_141) (fun _ _ => ⟨rfl, e25, (by decide : 3 + 0 ≤ _), (by decide : 9 + 0 ≤ _)⟩)
        dsimp only [Pt.U, Pt.locs, Pt.cells, Pt.slots] at X32 l32 y32 z32 st32 hQ32
        subst l32 y32 z32
        obtain ⟨rfl, N32q, e32⟩ := hQ32
        have N32 := Fr.app N25 N32q
        refine own_step (st' := T32.setTop (mkF m 144 #[.val (.int x0), .val (.int kk), .val (.ref b1), .val (.int (1 : Int32)), .val (.int (((0 : Int32) + (1 : Int32)) + (1 : Int32)))] [(.int (((0 : Int32) + (1 : Int32)) + (1 : Int32)))])) (fun t k => st32.trans k) ?_
        refine own_step (st' := T32.setTop (mkF m 145 #[.val (.int x0), .val (.int kk), .val (.ref b1), .val (.int (1 : Int32)), .val (.int (((0 : Int32) + (1 : Int32)) + (1 : Int32)))] [(.int kk), (.int (((0 : Int32) + (1 : Int32)) + (1 : Int32)))])) (fun t k => XS.iloadN X32.here hx rfl (hb hby at_144) rfl k) ?_
        refine own_step (st' := T32.setTop (mkF m 148 #[.val (.int x0), .val (.int kk), .val (.ref b1), .val (.int (1 : Int32)), .val (.int (((0 : Int32) + (1 : Int32)) + (1 : Int32)))] [])) (fun t k => XS.icmpNo X32.here hx rfl (hb hby at_145) rfl (teq ((by decide : (((0 : Int32) + (1 : Int32)) + (1 : Int32)) = (2 : Int32)).trans (own_mid hc22 hc31 (by decide)))).2 k) ?_
        refine own_step (st' := T32.setTop (mkF m 149 #[.val (.int x0), .val (.int kk), .val (.ref b1), .val (.int (1 : Int32)), .val (.int (((0 : Int32) + (1 : Int32)) + (1 : Int32)))] [(.int (1 : Int32))])) (fun t k => XS.iconst X32.here hx rfl (hb hby at_148) k) ?_
        refine own_step (st' := T32.setTop (mkF m 153 #[.val (.int x0), .val (.int kk), .val (.ref b1), .val (.int (1 : Int32)), .val (.int (((0 : Int32) + (1 : Int32)) + (1 : Int32)))] [(.int (1 : Int32))])) (fun t k => XS.goto X32.here hx rfl (pc0 := 149) (pc' := 153) rfl (hb hby at_149) (by decide) (by decide) k) ?_
        refine own_step (st' := T32.setTop (mkF m 154 #[.val (.int x0), .val (.int kk), .val (.ref b1), .val (.int (1 : Int32)), .val (.int (((0 : Int32) + (1 : Int32)) + (1 : Int32)))] [])) (fun t k => XS.istoreN X32.here hx rfl (hb hby at_153) rfl (l' := #[.val (.int x0), .val (.int kk), .val (.ref b1), .val (.int (1 : Int32)), .val (.int (((0 : Int32) + (1 : Int32)) + (1 : Int32)))]) rfl k) ?_
        refine own_step (st' := T32.setTop (mkF m 155 #[.val (.int x0), .val (.int kk), .val (.ref b1), .val (.int (1 : Int32)), .val (.int (((0 : Int32) + (1 : Int32)) + (1 : Int32)))] [(.int (1 : Int32))])) (fun t k => XS.iloadN X32.here hx rfl (hb hby at_154) rfl k) ?_
        refine own_step (st' := T32.setTop (mkF m 158 #[.val (.int x0), .val (.int kk), .val (.ref b1), .val (.int (1 : Int32)), .val (.int (((0 : Int32) + (1 : Int32)) + (1 : Int32)))] [])) (fun t k => XS.ifNo X32.here hx rfl (hb hby at_155) rfl ((if0 _ _).trans (feq (by decide)).1) k) ?_
        refine own_step (st' := T32.setTop (mkF m 159 #[.val (.int x0), .val (.int kk), .val (.ref b1), .val (.int (1 : Int32)), .val (.int (((0 : Int32) + (1 : Int32)) + (1 : Int32)))] [(.ref b1)])) (fun t k => XS.aloadN X32.here hx rfl (hb hby at_158) rfl rfl k) ?_
        obtain ⟨cq33, kq33, q33a, q33b, q33c⟩ := isOf hZ e32 f26
        obtain ⟨_, _, ⟨T33, L33, k33, n33⟩, -, X33, ⟨Lc33, hQ33, l33, y33, z33⟩, st33⟩ := X32.virtualBack hx (y := (⟨"com/example/wariant/wariant/engine/Cnf", "clauseCount", "()I"⟩ : MethodName)) (z := (⟨"com/example/wariant/wariant/engine/Cnf", "clauseCount", "()I"⟩ : MethodName)) hown (mvT hZ (hw _ (List.mem_of_getElem? (i := 45) rfl))) (mvT hZ (hw _ (List.mem_of_getElem? (i := 46) rfl))) (notFace_of_selects (args := #[]) (mvT hZ (hw _ (List.mem_of_getElem? (i := 48) rfl)))) (mvT hZ (hw _ (List.mem_of_getElem? (i := 48) rfl))) (mvT hZ (hw _ (List.mem_of_getElem? (i := 47) rfl))) (by decide) (backOf (W := 0) (rm7 l Z a0 hw [] b1 b_7 (0 : Int32) h25 n0 Z30 pq25_1 f27 f28) hZ (hw _ (List.mem_of_getElem? (i := 49) rfl)) (hw _ (List.mem_of_getElem? (i := 3) rfl)) (by decide) (by decide)) q33a q33c (g := (mkF m 159 #[.val (.int x0), .val (.int kk), .val (.ref b1), .val (.int (1 : Int32)), .val (.int (((0 : Int32) + (1 : Int32)) + (1 : Int32)))] [(.ref b1)])) rfl (by rw [hml]; rfl) (Steps.refl _) (argsL := []) (rest := []) (lenOf pd_1 rfl) rfl (by show 2 * 0 + _ ≤ _; exact Nat.le_of_eq rfl) (hb hby at_159) (fun _ _ => ⟨rfl, e32, (by decide : 3 + 0 ≤ _), (by decide : 9 + 0 ≤ _)⟩)
        dsimp only [Pt.U, Pt.locs, Pt.cells, Pt.slots] at X33 l33 y33 z33 st33 hQ33
        subst l33 y33 z33
        obtain ⟨rfl, N33q, e33⟩ := hQ33
        have N33 := Fr.app N32 N33q
        refine own_step (st' := T33.setTop (mkF m 162 #[.val (.int x0), .val (.int kk), .val (.ref b1), .val (.int (1 : Int32)), .val (.int (((0 : Int32) + (1 : Int32)) + (1 : Int32)))] [(.int (0 : Int32))])) (fun t k => st33.trans k) ?_
        refine own_step (st' := T33.setTop (mkF m 165 #[.val (.int x0), .val (.int kk), .val (.ref b1), .val (.int (1 : Int32)), .val (.int (((0 : Int32) + (1 : Int32)) + (1 : Int32)))] [])) (fun t k => XS.ifNo X33.here hx rfl (hb hby at_162) rfl ((if0 _ _).trans (teq (by decide)).2) k) ?_
        refine own_step (st' := T33.setTop (mkF m 166 #[.val (.int x0), .val (.int kk), .val (.ref b1), .val (.int (1 : Int32)), .val (.int (((0 : Int32) + (1 : Int32)) + (1 : Int32)))] [(.int (1 : Int32))])) (fun t k => XS.iconst X33.here hx rfl (hb hby at_165) k) ?_
        refine own_step (st' := T33.setTop (mkF m 170 #[.val (.int x0), .val (.int kk), .val (.ref b1), .val (.int (1 : Int32)), .val (.int (((0 : Int32) + (1 : Int32)) + (1 : Int32)))] [(.int (1 : Int32))])) (fun t k => XS.goto X33.here hx rfl (pc0 := 166) (pc' := 170) rfl (hb hby at_166) (by decide) (by decide) k) ?_
        refine own_step (st' := T33.setTop (mkF m 171 #[.val (.int x0), .val (.int kk), .val (.ref b1), .val (.int (1 : Int32)), .val (.int (((0 : Int32) + (1 : Int32)) + (1 : Int32)))] [])) (fun t k => XS.istoreN X33.here hx rfl (hb hby at_170) rfl (l' := #[.val (.int x0), .val (.int kk), .val (.ref b1), .val (.int (1 : Int32)), .val (.int (((0 : Int32) + (1 : Int32)) + (1 : Int32)))]) rfl k) ?_
        refine own_step (st' := T33.setTop (mkF m 172 #[.val (.int x0), .val (.int kk), .val (.ref b1), .val (.int (1 : Int32)), .val (.int (((0 : Int32) + (1 : Int32)) + (1 : Int32)))] [(.int (1 : Int32))])) (fun t k => XS.iloadN X33.here hx rfl (hb hby at_171) rfl k) ?_
        refine own_ret X33 Bd.notSynchronized (some (.int (1 : Int32))) (fun h => by rw [Bd.returns] at h; cases h) (fun fs hr => retN X33 hx (t := .boolean) Bd.returns (by simp) (hb hby at_172) hr) ?_ (by decide) (by decide)
        rw [e33]
        exact ⟨rfl, N33⟩
      · refine own_step (st' := T25.setTop (mkF m 87 #[.val (.int x0), .val (.int kk), .val (.ref b1), .val (.int (1 : Int32)), .val (.int (((0 : Int32) + (1 : Int32)) + (1 : Int32)))] [])) (fun t k => XS.icmpNo X25.here hx rfl (hb hby at_84) rfl (flt hc31).1 k) ?_
        refine own_step (st' := T25.setTop (mkF m 88 #[.val (.int x0), .val (.int kk), .val (.ref b1), .val (.int (1 : Int32)), .val (.int (((0 : Int32) + (1 : Int32)) + (1 : Int32)))] [(.ref b1)])) (fun t k => XS.aloadN X25.here hx rfl (hb hby at_87) rfl rfl k) ?_
        obtain ⟨cq34, kq34, q34a, q34b, q34c⟩ := isOf hZ e25 f26
        obtain ⟨_, _, ⟨T34, L34, k34, n34⟩, -, X34, ⟨Lc34, hQ34, l34, y34, z34⟩, st34⟩ := X25.virtualBack hx (y := (⟨"com/example/wariant/wariant/engine/Cnf", "newVariable", "()I"⟩ : MethodName)) (z := (⟨"com/example/wariant/wariant/engine/Cnf", "newVariable", "()I"⟩ : MethodName)) hown (mvT hZ (hw _ (List.mem_of_getElem? (i := 61) rfl))) (mvT hZ (hw _ (List.mem_of_getElem? (i := 62) rfl))) (notFace_of_selects (args := #[]) (mvT hZ (hw _ (List.mem_of_getElem? (i := 64) rfl)))) (mvT hZ (hw _ (List.mem_of_getElem? (i := 64) rfl))) (mvT hZ (hw _ (List.mem_of_getElem? (i := 63) rfl))) (by decide) (backOf (W := 0) (rm9 l Z a0 hw [] b1 (((0 : Int32) + (1 : Int32)) + (1 : Int32)) b_7 h25 n0 Z30 pq25_0 f26 g_b1 pq25_1) hZ (hw _ (List.mem_of_getElem? (i := 65) rfl)) (hw _ (List.mem_of_getElem? (i := 3) rfl)) (by decide) (by decide)) q34a q34c (g := (mkF m 88 #[.val (.int x0), .val (.int kk), .val (.ref b1), .val (.int (1 : Int32)), .val (.int (((0 : Int32) + (1 : Int32)) + (1 : Int32)))] [(.ref b1)])) rfl (by rw [hml]; rfl) (Steps.refl _) (argsL := []) (rest := []) (lenOf pd_1 rfl) rfl (by show 2 * 0 + _ ≤ _; exact Nat.le_of_eq rfl) (hb hby at_88) (fun _ _ => ⟨rfl, e25, (by decide : 3 + 0 ≤ _), (by decide : 9 + 0 ≤ _)⟩)
        dsimp only [Pt.U, Pt.locs, Pt.cells, Pt.slots] at X34 l34 y34 z34 st34 hQ34
        subst l34 y34 z34
        obtain ⟨rfl, N34q, K34, pq34_0, pq34_1⟩ := hQ34
        have N34 := Fr.app N25 N34q
        obtain ⟨h34, e34⟩ : ∃ z, T34.heap = z := ⟨_, rfl⟩
        rw [e34] at K34 pq34_0 pq34_1
        have f35 := f26.keep K34
        have f36 := f27.keep K34
        have f37 := f28.keep K34 (ninS (Ne.symm ne8) nin0)
        have O38 := O29.keep K34 (allS g_b1 all0)
        have Z39 : n0 ≤ h34.size := Nat.le_trans Z30 K34.1
        refine own_step (st' := T34.setTop (mkF m 91 #[.val (.int x0), .val (.int kk), .val (.ref b1), .val (.int (1 : Int32)), .val (.int (((0 : Int32) + (1 : Int32)) + (1 : Int32)))] [(.int ((((0 : Int32) + (1 : Int32)) + (1 : Int32)) + (1 : Int32)))])) (fun t k => st34.trans k) ?_
        refine own_step (st' := T34.setTop (mkF m 93 #[.val (.int x0), .val (.int kk), .val (.ref b1), .val (.int (1 : Int32)), .val (.int ((((0 : Int32) + (1 : Int32)) + (1 : Int32)) + (1 : Int32)))] [])) (fun t k => XS.istore X34.here hx rfl (hb hby at_91) rfl (l' := #[.val (.int x0), .val (.int kk), .val (.ref b1), .val (.int (1 : Int32)), .val (.int ((((0 : Int32) + (1 : Int32)) + (1 : Int32)) + (1 : Int32)))]) rfl k) ?_
        refine own_step (st' := T34.setTop (mkF m 94 #[.val (.int x0), .val (.int kk), .val (.ref b1), .val (.int (1 : Int32)), .val (.int ((((0 : Int32) + (1 : Int32)) + (1 : Int32)) + (1 : Int32)))] [(.int (1 : Int32))])) (fun t k => XS.iloadN X34.here hx rfl (hb hby at_93) rfl k) ?_
        refine own_step (st' := T34.setTop (mkF m 97 #[.val (.int x0), .val (.int kk), .val (.ref b1), .val (.int (1 : Int32)), .val (.int ((((0 : Int32) + (1 : Int32)) + (1 : Int32)) + (1 : Int32)))] [])) (fun t k => XS.ifNo X34.here hx rfl (hb hby at_94) rfl ((if0 _ _).trans (feq (by decide)).1) k) ?_
        refine own_step (st' := T34.setTop (mkF m 99 #[.val (.int x0), .val (.int kk), .val (.ref b1), .val (.int (1 : Int32)), .val (.int ((((0 : Int32) + (1 : Int32)) + (1 : Int32)) + (1 : Int32)))] [(.int ((((0 : Int32) + (1 : Int32)) + (1 : Int32)) + (1 : Int32)))])) (fun t k => XS.iload X34.here hx rfl (hb hby at_97) rfl k) ?_
        refine own_step (st' := T34.setTop (mkF m 100 #[.val (.int x0), .val (.int kk), .val (.ref b1), .val (.int (1 : Int32)), .val (.int ((((0 : Int32) + (1 : Int32)) + (1 : Int32)) + (1 : Int32)))] [(.int (3 : Int32)), (.int ((((0 : Int32) + (1 : Int32)) + (1 : Int32)) + (1 : Int32)))])) (fun t k => XS.iconst X34.here hx rfl (hb hby at_99) k) ?_
        refine own_step (st' := T34.setTop (mkF m 103 #[.val (.int x0), .val (.int kk), .val (.ref b1), .val (.int (1 : Int32)), .val (.int ((((0 : Int32) + (1 : Int32)) + (1 : Int32)) + (1 : Int32)))] [])) (fun t k => XS.icmpNo X34.here hx rfl (hb hby at_100) rfl (teq (by decide)).2 k) ?_
        refine own_step (st' := T34.setTop (mkF m 104 #[.val (.int x0), .val (.int kk), .val (.ref b1), .val (.int (1 : Int32)), .val (.int ((((0 : Int32) + (1 : Int32)) + (1 : Int32)) + (1 : Int32)))] [(.int (1 : Int32))])) (fun t k => XS.iconst X34.here hx rfl (hb hby at_103) k) ?_
        refine own_step (st' := T34.setTop (mkF m 108 #[.val (.int x0), .val (.int kk), .val (.ref b1), .val (.int (1 : Int32)), .val (.int ((((0 : Int32) + (1 : Int32)) + (1 : Int32)) + (1 : Int32)))] [(.int (1 : Int32))])) (fun t k => XS.goto X34.here hx rfl (pc0 := 104) (pc' := 108) rfl (hb hby at_104) (by decide) (by decide) k) ?_
        refine own_step (st' := T34.setTop (mkF m 109 #[.val (.int x0), .val (.int kk), .val (.ref b1), .val (.int (1 : Int32)), .val (.int ((((0 : Int32) + (1 : Int32)) + (1 : Int32)) + (1 : Int32)))] [])) (fun t k => XS.istoreN X34.here hx rfl (hb hby at_108) rfl (l' := #[.val (.int x0), .val (.int kk), .val (.ref b1), .val (.int (1 : Int32)), .val (.int ((((0 : Int32) + (1 : Int32)) + (1 : Int32)) + (1 : Int32)))]) rfl k) ?_
        refine own_step (st' := T34.setTop (mkF m 110 #[.val (.int x0), .val (.int kk), .val (.ref b1), .val (.int (1 : Int32)), .val (.int ((((0 : Int32) + (1 : Int32)) + (1 : Int32)) + (1 : Int32)))] [(.int kk)])) (fun t k => XS.iloadN X34.here hx rfl (hb hby at_109) rfl k) ?_
        refine own_step (st' := T34.setTop (mkF m 111 #[.val (.int x0), .val (.int kk), .val (.ref b1), .val (.int (1 : Int32)), .val (.int ((((0 : Int32) + (1 : Int32)) + (1 : Int32)) + (1 : Int32)))] [(.int (4 : Int32)), (.int kk)])) (fun t k => XS.iconst X34.here hx rfl (hb hby at_110) k) ?_
        by_cases hc40 : kk < (4 : Int32)
        · refine own_step (st' := T34.setTop (mkF m 136 #[.val (.int x0), .val (.int kk), .val (.ref b1), .val (.int (1 : Int32)), .val (.int ((((0 : Int32) + (1 : Int32)) + (1 : Int32)) + (1 : Int32)))] [])) (fun t k => XS.icmpYes X34.here hx rfl (pc0 := 111) (pc' := 136) rfl (hb hby at_111) rfl (tlt hc40).1 (by decide) (by decide) k) ?_
          refine own_step (st' := T34.setTop (mkF m 137 #[.val (.int x0), .val (.int kk), .val (.ref b1), .val (.int (1 : Int32)), .val (.int ((((0 : Int32) + (1 : Int32)) + (1 : Int32)) + (1 : Int32)))] [(.int (1 : Int32))])) (fun t k => XS.iloadN X34.here hx rfl (hb hby at_136) rfl k) ?_
          refine own_step (st' := T34.setTop (mkF m 140 #[.val (.int x0), .val (.int kk), .val (.ref b1), .val (.int (1 : Int32)), .val (.int ((((0 : Int32) + (1 : Int32)) + (1 : Int32)) + (1 : Int32)))] [])) (fun t k => XS.ifNo X34.here hx rfl (hb hby at_137) rfl ((if0 _ _).trans (feq (by decide)).1) k) ?_
          refine own_step (st' := T34.setTop (mkF m 141 #[.val (.int x0), .val (.int kk), .val (.ref b1), .val (.int (1 : Int32)), .val (.int ((((0 : Int32) + (1 : Int32)) + (1 : Int32)) + (1 : Int32)))] [(.ref b1)])) (fun t k => XS.aloadN X34.here hx rfl (hb hby at_140) rfl rfl k) ?_
          obtain ⟨cq41, kq41, q41a, q41b, q41c⟩ := isOf hZ e34 f35
          obtain ⟨_, _, ⟨T41, L41, k41, n41⟩, -, X41, ⟨Lc41, hQ41, l41, y41, z41⟩, st41⟩ := X34.virtualBack hx (y := (⟨"com/example/wariant/wariant/engine/Cnf", "variableCount", "()I"⟩ : MethodName)) (z := (⟨"com/example/wariant/wariant/engine/Cnf", "variableCount", "()I"⟩ : MethodName)) hown (mvT hZ (hw _ (List.mem_of_getElem? (i := 38) rfl))) (mvT hZ (hw _ (List.mem_of_getElem? (i := 39) rfl))) (notFace_of_selects (args := #[]) (mvT hZ (hw _ (List.mem_of_getElem? (i := 41) rfl)))) (mvT hZ (hw _ (List.mem_of_getElem? (i := 41) rfl))) (mvT hZ (hw _ (List.mem_of_getElem? (i := 40) rfl))) (by decide) (backOf (W := 0) (rm6 l Z a0 hw [] b1 ((((0 : Int32) + (1 : Int32)) + (1 : Int32)) + (1 : Int32)) h34 n0 Z39 pq34_0) hZ (hw _ (List.mem_of_getElem? (i := 42) rfl)) (hw _ (List.mem_of_getElem? (i := 3) rfl)) (by decide) (by decide)) q41a q41c (g := (mkF m 141 #[.val (.int x0), .val (.int kk), .val (.ref b1), .val (.int (1 : Int32)), .val (.int ((((0 : Int32) + (1 : Int32)) + (1 : Int32)) + (1 : Int32)))] [(.ref b1)])) rfl (by rw [hml]; rfl) (Steps.refl _) (argsL := []) (rest := []) (lenOf pd_1 rfl) rfl (by show 2 * 0 + _ ≤ _; exact Nat.le_of_eq rfl) (hb hby at_141) (fun _ _ => ⟨rfl, e34, (by decide : 3 + 0 ≤ _), (by decide : 9 + 0 ≤ _)⟩)
          dsimp only [Pt.U, Pt.locs, Pt.cells, Pt.slots] at X41 l41 y41 z41 st41 hQ41
          subst l41 y41 z41
          obtain ⟨rfl, N41q, e41⟩ := hQ41
          have N41 := Fr.app N34 N41q
          refine own_step (st' := T41.setTop (mkF m 144 #[.val (.int x0), .val (.int kk), .val (.ref b1), .val (.int (1 : Int32)), .val (.int ((((0 : Int32) + (1 : Int32)) + (1 : Int32)) + (1 : Int32)))] [(.int ((((0 : Int32) + (1 : Int32)) + (1 : Int32)) + (1 : Int32)))])) (fun t k => st41.trans k) ?_
          refine own_step (st' := T41.setTop (mkF m 145 #[.val (.int x0), .val (.int kk), .val (.ref b1), .val (.int (1 : Int32)), .val (.int ((((0 : Int32) + (1 : Int32)) + (1 : Int32)) + (1 : Int32)))] [(.int kk), (.int ((((0 : Int32) + (1 : Int32)) + (1 : Int32)) + (1 : Int32)))])) (fun t k => XS.iloadN X41.here hx rfl (hb hby at_144) rfl k) ?_
          refine own_step (st' := T41.setTop (mkF m 148 #[.val (.int x0), .val (.int kk), .val (.ref b1), .val (.int (1 : Int32)), .val (.int ((((0 : Int32) + (1 : Int32)) + (1 : Int32)) + (1 : Int32)))] [])) (fun t k => XS.icmpNo X41.here hx rfl (hb hby at_145) rfl (teq ((by decide : ((((0 : Int32) + (1 : Int32)) + (1 : Int32)) + (1 : Int32)) = (3 : Int32)).trans (own_mid hc31 hc40 (by decide)))).2 k) ?_
          refine own_step (st' := T41.setTop (mkF m 149 #[.val (.int x0), .val (.int kk), .val (.ref b1), .val (.int (1 : Int32)), .val (.int ((((0 : Int32) + (1 : Int32)) + (1 : Int32)) + (1 : Int32)))] [(.int (1 : Int32))])) (fun t k => XS.iconst X41.here hx rfl (hb hby at_148) k) ?_
          refine own_step (st' := T41.setTop (mkF m 153 #[.val (.int x0), .val (.int kk), .val (.ref b1), .val (.int (1 : Int32)), .val (.int ((((0 : Int32) + (1 : Int32)) + (1 : Int32)) + (1 : Int32)))] [(.int (1 : Int32))])) (fun t k => XS.goto X41.here hx rfl (pc0 := 149) (pc' := 153) rfl (hb hby at_149) (by decide) (by decide) k) ?_
          refine own_step (st' := T41.setTop (mkF m 154 #[.val (.int x0), .val (.int kk), .val (.ref b1), .val (.int (1 : Int32)), .val (.int ((((0 : Int32) + (1 : Int32)) + (1 : Int32)) + (1 : Int32)))] [])) (fun t k => XS.istoreN X41.here hx rfl (hb hby at_153) rfl (l' := #[.val (.int x0), .val (.int kk), .val (.ref b1), .val (.int (1 : Int32)), .val (.int ((((0 : Int32) + (1 : Int32)) + (1 : Int32)) + (1 : Int32)))]) rfl k) ?_
          refine own_step (st' := T41.setTop (mkF m 155 #[.val (.int x0), .val (.int kk), .val (.ref b1), .val (.int (1 : Int32)), .val (.int ((((0 : Int32) + (1 : Int32)) + (1 : Int32)) + (1 : Int32)))] [(.int (1 : Int32))])) (fun t k => XS.iloadN X41.here hx rfl (hb hby at_154) rfl k) ?_
          refine own_step (st' := T41.setTop (mkF m 158 #[.val (.int x0), .val (.int kk), .val (.ref b1), .val (.int (1 : Int32)), .val (.int ((((0 : Int32) + (1 : Int32)) + (1 : Int32)) + (1 : Int32)))] [])) (fun t k => XS.ifNo X41.here hx rfl (hb hby at_155) rfl ((if0 _ _).trans (feq (by decide)).1) k) ?_
          refine own_step (st' := T41.setTop (mkF m 159 #[.val (.int x0), .val (.int kk), .val (.ref b1), .val (.int (1 : Int32)), .val (.int ((((0 : Int32) + (1 : Int32)) + (1 : Int32)) + (1 : Int32)))] [(.ref b1)])) (fun t k => XS.aloadN X41.here hx rfl (hb hby at_158) rfl rfl k) ?_
          obtain ⟨cq42, kq42, q42a, q42b, q42c⟩ := isOf hZ e41 f35
          obtain ⟨_, _, ⟨T42, L42, k42, n42⟩, -, X42, ⟨Lc42, hQ42, l42, y42, z42⟩, st42⟩ := X41.virtualBack hx (y := (⟨"com/example/wariant/wariant/engine/Cnf", "clauseCount", "()I"⟩ : MethodName)) (z := (⟨"com/example/wariant/wariant/engine/Cnf", "clauseCount", "()I"⟩ : MethodName)) hown (mvT hZ (hw _ (List.mem_of_getElem? (i := 45) rfl))) (mvT hZ (hw _ (List.mem_of_getElem? (i := 46) rfl))) (notFace_of_selects (args := #[]) (mvT hZ (hw _ (List.mem_of_getElem? (i := 48) rfl)))) (mvT hZ (hw _ (List.mem_of_getElem? (i := 48) rfl))) (mvT hZ (hw _ (List.mem_of_getElem? (i := 47) rfl))) (by decide) (backOf (W := 0) (rm7 l Z a0 hw [] b1 b_7 (0 : Int32) h34 n0 Z39 pq34_1 f36 f37) hZ (hw _ (List.mem_of_getElem? (i := 49) rfl)) (hw _ (List.mem_of_getElem? (i := 3) rfl)) (by decide) (by decide)) q42a q42c (g := (mkF m 159 #[.val (.int x0), .val (.int kk), .val (.ref b1), .val (.int (1 : Int32)), .val (.int ((((0 : Int32) + (1 : Int32)) + (1 : Int32)) + (1 : Int32)))] [(.ref b1)])) rfl (by rw [hml]; rfl) (Steps.refl _) (argsL := []) (rest := []) (lenOf pd_1 rfl) rfl (by show 2 * 0 + _ ≤ _; exact Nat.le_of_eq rfl) (hb hby at_159) (fun _ _ => ⟨rfl, e41, (by decide : 3 + 0 ≤ _), (by decide : 9 + 0 ≤ _)⟩)
          dsimp only [Pt.U, Pt.locs, Pt.cells, Pt.slots] at X42 l42 y42 z42 st42 hQ42
          subst l42 y42 z42
          obtain ⟨rfl, N42q, e42⟩ := hQ42
          have N42 := Fr.app N41 N42q
          refine own_step (st' := T42.setTop (mkF m 162 #[.val (.int x0), .val (.int kk), .val (.ref b1), .val (.int (1 : Int32)), .val (.int ((((0 : Int32) + (1 : Int32)) + (1 : Int32)) + (1 : Int32)))] [(.int (0 : Int32))])) (fun t k => st42.trans k) ?_
          refine own_step (st' := T42.setTop (mkF m 165 #[.val (.int x0), .val (.int kk), .val (.ref b1), .val (.int (1 : Int32)), .val (.int ((((0 : Int32) + (1 : Int32)) + (1 : Int32)) + (1 : Int32)))] [])) (fun t k => XS.ifNo X42.here hx rfl (hb hby at_162) rfl ((if0 _ _).trans (teq (by decide)).2) k) ?_
          refine own_step (st' := T42.setTop (mkF m 166 #[.val (.int x0), .val (.int kk), .val (.ref b1), .val (.int (1 : Int32)), .val (.int ((((0 : Int32) + (1 : Int32)) + (1 : Int32)) + (1 : Int32)))] [(.int (1 : Int32))])) (fun t k => XS.iconst X42.here hx rfl (hb hby at_165) k) ?_
          refine own_step (st' := T42.setTop (mkF m 170 #[.val (.int x0), .val (.int kk), .val (.ref b1), .val (.int (1 : Int32)), .val (.int ((((0 : Int32) + (1 : Int32)) + (1 : Int32)) + (1 : Int32)))] [(.int (1 : Int32))])) (fun t k => XS.goto X42.here hx rfl (pc0 := 166) (pc' := 170) rfl (hb hby at_166) (by decide) (by decide) k) ?_
          refine own_step (st' := T42.setTop (mkF m 171 #[.val (.int x0), .val (.int kk), .val (.ref b1), .val (.int (1 : Int32)), .val (.int ((((0 : Int32) + (1 : Int32)) + (1 : Int32)) + (1 : Int32)))] [])) (fun t k => XS.istoreN X42.here hx rfl (hb hby at_170) rfl (l' := #[.val (.int x0), .val (.int kk), .val (.ref b1), .val (.int (1 : Int32)), .val (.int ((((0 : Int32) + (1 : Int32)) + (1 : Int32)) + (1 : Int32)))]) rfl k) ?_
          refine own_step (st' := T42.setTop (mkF m 172 #[.val (.int x0), .val (.int kk), .val (.ref b1), .val (.int (1 : Int32)), .val (.int ((((0 : Int32) + (1 : Int32)) + (1 : Int32)) + (1 : Int32)))] [(.int (1 : Int32))])) (fun t k => XS.iloadN X42.here hx rfl (hb hby at_171) rfl k) ?_
          refine own_ret X42 Bd.notSynchronized (some (.int (1 : Int32))) (fun h => by rw [Bd.returns] at h; cases h) (fun fs hr => retN X42 hx (t := .boolean) Bd.returns (by simp) (hb hby at_172) hr) ?_ (by decide) (by decide)
          rw [e42]
          exact ⟨rfl, N42⟩
        · refine own_step (st' := T34.setTop (mkF m 114 #[.val (.int x0), .val (.int kk), .val (.ref b1), .val (.int (1 : Int32)), .val (.int ((((0 : Int32) + (1 : Int32)) + (1 : Int32)) + (1 : Int32)))] [])) (fun t k => XS.icmpNo X34.here hx rfl (hb hby at_111) rfl (flt hc40).1 k) ?_
          refine own_step (st' := T34.setTop (mkF m 115 #[.val (.int x0), .val (.int kk), .val (.ref b1), .val (.int (1 : Int32)), .val (.int ((((0 : Int32) + (1 : Int32)) + (1 : Int32)) + (1 : Int32)))] [(.ref b1)])) (fun t k => XS.aloadN X34.here hx rfl (hb hby at_114) rfl rfl k) ?_
          obtain ⟨cq43, kq43, q43a, q43b, q43c⟩ := isOf hZ e34 f35
          obtain ⟨_, _, ⟨T43, L43, k43, n43⟩, -, X43, ⟨Lc43, hQ43, l43, y43, z43⟩, st43⟩ := X34.virtualBack hx (y := (⟨"com/example/wariant/wariant/engine/Cnf", "newVariable", "()I"⟩ : MethodName)) (z := (⟨"com/example/wariant/wariant/engine/Cnf", "newVariable", "()I"⟩ : MethodName)) hown (mvT hZ (hw _ (List.mem_of_getElem? (i := 61) rfl))) (mvT hZ (hw _ (List.mem_of_getElem? (i := 62) rfl))) (notFace_of_selects (args := #[]) (mvT hZ (hw _ (List.mem_of_getElem? (i := 64) rfl)))) (mvT hZ (hw _ (List.mem_of_getElem? (i := 64) rfl))) (mvT hZ (hw _ (List.mem_of_getElem? (i := 63) rfl))) (by decide) (backOf (W := 0) (rm9 l Z a0 hw [] b1 ((((0 : Int32) + (1 : Int32)) + (1 : Int32)) + (1 : Int32)) b_7 h34 n0 Z39 pq34_0 f35 g_b1 pq34_1) hZ (hw _ (List.mem_of_getElem? (i := 65) rfl)) (hw _ (List.mem_of_getElem? (i := 3) rfl)) (by decide) (by decide)) q43a q43c (g := (mkF m 115 #[.val (.int x0), .val (.int kk), .val (.ref b1), .val (.int (1 : Int32)), .val (.int ((((0 : Int32) + (1 : Int32)) + (1 : Int32)) + (1 : Int32)))] [(.ref b1)])) rfl (by rw [hml]; rfl) (Steps.refl _) (argsL := []) (rest := []) (lenOf pd_1 rfl) rfl (by show 2 * 0 + _ ≤ _; exact Nat.le_of_eq rfl) (hb hby at_115) (fun _ _ => ⟨rfl, e34, (by decide : 3 + 0 ≤ _), (by decide : 9 + 0 ≤ _)⟩)
          dsimp only [Pt.U, Pt.locs, Pt.cells, Pt.slots] at X43 l43 y43 z43 st43 hQ43
          subst l43 y43 z43
          obtain ⟨rfl, N43q, K43, pq43_0, pq43_1⟩ := hQ43
          have N43 := Fr.app N34 N43q
          obtain ⟨h43, e43⟩ : ∃ z, T43.heap = z := ⟨_, rfl⟩
          rw [e43] at K43 pq43_0 pq43_1
          have f44 := f35.keep K43
          have f45 := f36.keep K43
          have f46 := f37.keep K43 (ninS (Ne.symm ne8) nin0)
          have O47 := O38.keep K43 (allS g_b1 all0)
          have Z48 : n0 ≤ h43.size := Nat.le_trans Z39 K43.1
          refine own_step (st' := T43.setTop (mkF m 118 #[.val (.int x0), .val (.int kk), .val (.ref b1), .val (.int (1 : Int32)), .val (.int ((((0 : Int32) + (1 : Int32)) + (1 : Int32)) + (1 : Int32)))] [(.int (((((0 : Int32) + (1 : Int32)) + (1 : Int32)) + (1 : Int32)) + (1 : Int32)))])) (fun t k => st43.trans k) ?_
          refine own_step (st' := T43.setTop (mkF m 120 #[.val (.int x0), .val (.int kk), .val (.ref b1), .val (.int (1 : Int32)), .val (.int (((((0 : Int32) + (1 : Int32)) + (1 : Int32)) + (1 : Int32)) + (1 : Int32)))] [])) (fun t k => XS.istore X43.here hx rfl (hb hby at_118) rfl (l' := #[.val (.int x0), .val (.int kk), .val (.ref b1), .val (.int (1 : Int32)), .val (.int (((((0 : Int32) + (1 : Int32)) + (1 : Int32)) + (1 : Int32)) + (1 : Int32)))]) rfl k) ?_
          refine own_step (st' := T43.setTop (mkF m 121 #[.val (.int x0), .val (.int kk), .val (.ref b1), .val (.int (1 : Int32)), .val (.int (((((0 : Int32) + (1 : Int32)) + (1 : Int32)) + (1 : Int32)) + (1 : Int32)))] [(.int (1 : Int32))])) (fun t k => XS.iloadN X43.here hx rfl (hb hby at_120) rfl k) ?_
          refine own_step (st' := T43.setTop (mkF m 124 #[.val (.int x0), .val (.int kk), .val (.ref b1), .val (.int (1 : Int32)), .val (.int (((((0 : Int32) + (1 : Int32)) + (1 : Int32)) + (1 : Int32)) + (1 : Int32)))] [])) (fun t k => XS.ifNo X43.here hx rfl (hb hby at_121) rfl ((if0 _ _).trans (feq (by decide)).1) k) ?_
          refine own_step (st' := T43.setTop (mkF m 126 #[.val (.int x0), .val (.int kk), .val (.ref b1), .val (.int (1 : Int32)), .val (.int (((((0 : Int32) + (1 : Int32)) + (1 : Int32)) + (1 : Int32)) + (1 : Int32)))] [(.int (((((0 : Int32) + (1 : Int32)) + (1 : Int32)) + (1 : Int32)) + (1 : Int32)))])) (fun t k => XS.iload X43.here hx rfl (hb hby at_124) rfl k) ?_
          refine own_step (st' := T43.setTop (mkF m 127 #[.val (.int x0), .val (.int kk), .val (.ref b1), .val (.int (1 : Int32)), .val (.int (((((0 : Int32) + (1 : Int32)) + (1 : Int32)) + (1 : Int32)) + (1 : Int32)))] [(.int (4 : Int32)), (.int (((((0 : Int32) + (1 : Int32)) + (1 : Int32)) + (1 : Int32)) + (1 : Int32)))])) (fun t k => XS.iconst X43.here hx rfl (hb hby at_126) k) ?_
          refine own_step (st' := T43.setTop (mkF m 130 #[.val (.int x0), .val (.int kk), .val (.ref b1), .val (.int (1 : Int32)), .val (.int (((((0 : Int32) + (1 : Int32)) + (1 : Int32)) + (1 : Int32)) + (1 : Int32)))] [])) (fun t k => XS.icmpNo X43.here hx rfl (hb hby at_127) rfl (teq (by decide)).2 k) ?_
          refine own_step (st' := T43.setTop (mkF m 131 #[.val (.int x0), .val (.int kk), .val (.ref b1), .val (.int (1 : Int32)), .val (.int (((((0 : Int32) + (1 : Int32)) + (1 : Int32)) + (1 : Int32)) + (1 : Int32)))] [(.int (1 : Int32))])) (fun t k => XS.iconst X43.here hx rfl (hb hby at_130) k) ?_
          refine own_step (st' := T43.setTop (mkF m 135 #[.val (.int x0), .val (.int kk), .val (.ref b1), .val (.int (1 : Int32)), .val (.int (((((0 : Int32) + (1 : Int32)) + (1 : Int32)) + (1 : Int32)) + (1 : Int32)))] [(.int (1 : Int32))])) (fun t k => XS.goto X43.here hx rfl (pc0 := 131) (pc' := 135) rfl (hb hby at_131) (by decide) (by decide) k) ?_
          refine own_step (st' := T43.setTop (mkF m 136 #[.val (.int x0), .val (.int kk), .val (.ref b1), .val (.int (1 : Int32)), .val (.int (((((0 : Int32) + (1 : Int32)) + (1 : Int32)) + (1 : Int32)) + (1 : Int32)))] [])) (fun t k => XS.istoreN X43.here hx rfl (hb hby at_135) rfl (l' := #[.val (.int x0), .val (.int kk), .val (.ref b1), .val (.int (1 : Int32)), .val (.int (((((0 : Int32) + (1 : Int32)) + (1 : Int32)) + (1 : Int32)) + (1 : Int32)))]) rfl k) ?_
          refine own_step (st' := T43.setTop (mkF m 137 #[.val (.int x0), .val (.int kk), .val (.ref b1), .val (.int (1 : Int32)), .val (.int (((((0 : Int32) + (1 : Int32)) + (1 : Int32)) + (1 : Int32)) + (1 : Int32)))] [(.int (1 : Int32))])) (fun t k => XS.iloadN X43.here hx rfl (hb hby at_136) rfl k) ?_
          refine own_step (st' := T43.setTop (mkF m 140 #[.val (.int x0), .val (.int kk), .val (.ref b1), .val (.int (1 : Int32)), .val (.int (((((0 : Int32) + (1 : Int32)) + (1 : Int32)) + (1 : Int32)) + (1 : Int32)))] [])) (fun t k => XS.ifNo X43.here hx rfl (hb hby at_137) rfl ((if0 _ _).trans (feq (by decide)).1) k) ?_
          refine own_step (st' := T43.setTop (mkF m 141 #[.val (.int x0), .val (.int kk), .val (.ref b1), .val (.int (1 : Int32)), .val (.int (((((0 : Int32) + (1 : Int32)) + (1 : Int32)) + (1 : Int32)) + (1 : Int32)))] [(.ref b1)])) (fun t k => XS.aloadN X43.here hx rfl (hb hby at_140) rfl rfl k) ?_
          obtain ⟨cq49, kq49, q49a, q49b, q49c⟩ := isOf hZ e43 f44
          obtain ⟨_, _, ⟨T49, L49, k49, n49⟩, -, X49, ⟨Lc49, hQ49, l49, y49, z49⟩, st49⟩ := X43.virtualBack hx (y := (⟨"com/example/wariant/wariant/engine/Cnf", "variableCount", "()I"⟩ : MethodName)) (z := (⟨"com/example/wariant/wariant/engine/Cnf", "variableCount", "()I"⟩ : MethodName)) hown (mvT hZ (hw _ (List.mem_of_getElem? (i := 38) rfl))) (mvT hZ (hw _ (List.mem_of_getElem? (i := 39) rfl))) (notFace_of_selects (args := #[]) (mvT hZ (hw _ (List.mem_of_getElem? (i := 41) rfl)))) (mvT hZ (hw _ (List.mem_of_getElem? (i := 41) rfl))) (mvT hZ (hw _ (List.mem_of_getElem? (i := 40) rfl))) (by decide) (backOf (W := 0) (rm6 l Z a0 hw [] b1 (((((0 : Int32) + (1 : Int32)) + (1 : Int32)) + (1 : Int32)) + (1 : Int32)) h43 n0 Z48 pq43_0) hZ (hw _ (List.mem_of_getElem? (i := 42) rfl)) (hw _ (List.mem_of_getElem? (i := 3) rfl)) (by decide) (by decide)) q49a q49c (g := (mkF m 141 #[.val (.int x0), .val (.int kk), .val (.ref b1), .val (.int (1 : Int32)), .val (.int (((((0 : Int32) + (1 : Int32)) + (1 : Int32)) + (1 : Int32)) + (1 : Int32)))] [(.ref b1)])) rfl (by rw [hml]; rfl) (Steps.refl _) (argsL := []) (rest := []) (lenOf pd_1 rfl) rfl (by show 2 * 0 + _ ≤ _; exact Nat.le_of_eq rfl) (hb hby at_141) (fun _ _ => ⟨rfl, e43, (by decide : 3 + 0 ≤ _), (by decide : 9 + 0 ≤ _)⟩)
          dsimp only [Pt.U, Pt.locs, Pt.cells, Pt.slots] at X49 l49 y49 z49 st49 hQ49
          subst l49 y49 z49
          obtain ⟨rfl, N49q, e49⟩ := hQ49
          have N49 := Fr.app N43 N49q
          refine own_step (st' := T49.setTop (mkF m 144 #[.val (.int x0), .val (.int kk), .val (.ref b1), .val (.int (1 : Int32)), .val (.int (((((0 : Int32) + (1 : Int32)) + (1 : Int32)) + (1 : Int32)) + (1 : Int32)))] [(.int (((((0 : Int32) + (1 : Int32)) + (1 : Int32)) + (1 : Int32)) + (1 : Int32)))])) (fun t k => st49.trans k) ?_
          refine own_step (st' := T49.setTop (mkF m 145 #[.val (.int x0), .val (.int kk), .val (.ref b1), .val (.int (1 : Int32)), .val (.int (((((0 : Int32) + (1 : Int32)) + (1 : Int32)) + (1 : Int32)) + (1 : Int32)))] [(.int kk), (.int (((((0 : Int32) + (1 : Int32)) + (1 : Int32)) + (1 : Int32)) + (1 : Int32)))])) (fun t k => XS.iloadN X49.here hx rfl (hb hby at_144) rfl k) ?_
          refine own_step (st' := T49.setTop (mkF m 148 #[.val (.int x0), .val (.int kk), .val (.ref b1), .val (.int (1 : Int32)), .val (.int (((((0 : Int32) + (1 : Int32)) + (1 : Int32)) + (1 : Int32)) + (1 : Int32)))] [])) (fun t k => XS.icmpNo X49.here hx rfl (hb hby at_145) rfl (teq ((by decide : (((((0 : Int32) + (1 : Int32)) + (1 : Int32)) + (1 : Int32)) + (1 : Int32)) = (4 : Int32)).trans (own_mid hc40 hkk.2 (by decide)))).2 k) ?_
          refine own_step (st' := T49.setTop (mkF m 149 #[.val (.int x0), .val (.int kk), .val (.ref b1), .val (.int (1 : Int32)), .val (.int (((((0 : Int32) + (1 : Int32)) + (1 : Int32)) + (1 : Int32)) + (1 : Int32)))] [(.int (1 : Int32))])) (fun t k => XS.iconst X49.here hx rfl (hb hby at_148) k) ?_
          refine own_step (st' := T49.setTop (mkF m 153 #[.val (.int x0), .val (.int kk), .val (.ref b1), .val (.int (1 : Int32)), .val (.int (((((0 : Int32) + (1 : Int32)) + (1 : Int32)) + (1 : Int32)) + (1 : Int32)))] [(.int (1 : Int32))])) (fun t k => XS.goto X49.here hx rfl (pc0 := 149) (pc' := 153) rfl (hb hby at_149) (by decide) (by decide) k) ?_
          refine own_step (st' := T49.setTop (mkF m 154 #[.val (.int x0), .val (.int kk), .val (.ref b1), .val (.int (1 : Int32)), .val (.int (((((0 : Int32) + (1 : Int32)) + (1 : Int32)) + (1 : Int32)) + (1 : Int32)))] [])) (fun t k => XS.istoreN X49.here hx rfl (hb hby at_153) rfl (l' := #[.val (.int x0), .val (.int kk), .val (.ref b1), .val (.int (1 : Int32)), .val (.int (((((0 : Int32) + (1 : Int32)) + (1 : Int32)) + (1 : Int32)) + (1 : Int32)))]) rfl k) ?_
          refine own_step (st' := T49.setTop (mkF m 155 #[.val (.int x0), .val (.int kk), .val (.ref b1), .val (.int (1 : Int32)), .val (.int (((((0 : Int32) + (1 : Int32)) + (1 : Int32)) + (1 : Int32)) + (1 : Int32)))] [(.int (1 : Int32))])) (fun t k => XS.iloadN X49.here hx rfl (hb hby at_154) rfl k) ?_
          refine own_step (st' := T49.setTop (mkF m 158 #[.val (.int x0), .val (.int kk), .val (.ref b1), .val (.int (1 : Int32)), .val (.int (((((0 : Int32) + (1 : Int32)) + (1 : Int32)) + (1 : Int32)) + (1 : Int32)))] [])) (fun t k => XS.ifNo X49.here hx rfl (hb hby at_155) rfl ((if0 _ _).trans (feq (by decide)).1) k) ?_
          refine own_step (st' := T49.setTop (mkF m 159 #[.val (.int x0), .val (.int kk), .val (.ref b1), .val (.int (1 : Int32)), .val (.int (((((0 : Int32) + (1 : Int32)) + (1 : Int32)) + (1 : Int32)) + (1 : Int32)))] [(.ref b1)])) (fun t k => XS.aloadN X49.here hx rfl (hb hby at_158) rfl rfl k) ?_
          obtain ⟨cq50, kq50, q50a, q50b, q50c⟩ := isOf hZ e49 f44
          obtain ⟨_, _, ⟨T50, L50, k50, n50⟩, -, X50, ⟨Lc50, hQ50, l50, y50, z50⟩, st50⟩ := X49.virtualBack hx (y := (⟨"com/example/wariant/wariant/engine/Cnf", "clauseCount", "()I"⟩ : MethodName)) (z := (⟨"com/example/wariant/wariant/engine/Cnf", "clauseCount", "()I"⟩ : MethodName)) hown (mvT hZ (hw _ (List.mem_of_getElem? (i := 45) rfl))) (mvT hZ (hw _ (List.mem_of_getElem? (i := 46) rfl))) (notFace_of_selects (args := #[]) (mvT hZ (hw _ (List.mem_of_getElem? (i := 48) rfl)))) (mvT hZ (hw _ (List.mem_of_getElem? (i := 48) rfl))) (mvT hZ (hw _ (List.mem_of_getElem? (i := 47) rfl))) (by decide) (backOf (W := 0) (rm7 l Z a0 hw [] b1 b_7 (0 : Int32) h43 n0 Z48 pq43_1 f45 f46) hZ (hw _ (List.mem_of_getElem? (i := 49) rfl)) (hw _ (List.mem_of_getElem? (i := 3) rfl)) (by decide) (by decide)) q50a q50c (g := (mkF m 159 #[.val (.int x0), .val (.int kk), .val (.ref b1), .val (.int (1 : Int32)), .val (.int (((((0 : Int32) + (1 : Int32)) + (1 : Int32)) + (1 : Int32)) + (1 : Int32)))] [(.ref b1)])) rfl (by rw [hml]; rfl) (Steps.refl _) (argsL := []) (rest := []) (lenOf pd_1 rfl) rfl (by show 2 * 0 + _ ≤ _; exact Nat.le_of_eq rfl) (hb hby at_159) (fun _ _ => ⟨rfl, e49, (by decide : 3 + 0 ≤ _), (by decide : 9 + 0 ≤ _)⟩)
          dsimp only [Pt.U, Pt.locs, Pt.cells, Pt.slots] at X50 l50 y50 z50 st50 hQ50
          subst l50 y50 z50
          obtain ⟨rfl, N50q, e50⟩ := hQ50
          have N50 := Fr.app N49 N50q
          refine own_step (st' := T50.setTop (mkF m 162 #[.val (.int x0), .val (.int kk), .val (.ref b1), .val (.int (1 : Int32)), .val (.int (((((0 : Int32) + (1 : Int32)) + (1 : Int32)) + (1 : Int32)) + (1 : Int32)))] [(.int (0 : Int32))])) (fun t k => st50.trans k) ?_
          refine own_step (st' := T50.setTop (mkF m 165 #[.val (.int x0), .val (.int kk), .val (.ref b1), .val (.int (1 : Int32)), .val (.int (((((0 : Int32) + (1 : Int32)) + (1 : Int32)) + (1 : Int32)) + (1 : Int32)))] [])) (fun t k => XS.ifNo X50.here hx rfl (hb hby at_162) rfl ((if0 _ _).trans (teq (by decide)).2) k) ?_
          refine own_step (st' := T50.setTop (mkF m 166 #[.val (.int x0), .val (.int kk), .val (.ref b1), .val (.int (1 : Int32)), .val (.int (((((0 : Int32) + (1 : Int32)) + (1 : Int32)) + (1 : Int32)) + (1 : Int32)))] [(.int (1 : Int32))])) (fun t k => XS.iconst X50.here hx rfl (hb hby at_165) k) ?_
          refine own_step (st' := T50.setTop (mkF m 170 #[.val (.int x0), .val (.int kk), .val (.ref b1), .val (.int (1 : Int32)), .val (.int (((((0 : Int32) + (1 : Int32)) + (1 : Int32)) + (1 : Int32)) + (1 : Int32)))] [(.int (1 : Int32))])) (fun t k => XS.goto X50.here hx rfl (pc0 := 166) (pc' := 170) rfl (hb hby at_166) (by decide) (by decide) k) ?_
          refine own_step (st' := T50.setTop (mkF m 171 #[.val (.int x0), .val (.int kk), .val (.ref b1), .val (.int (1 : Int32)), .val (.int (((((0 : Int32) + (1 : Int32)) + (1 : Int32)) + (1 : Int32)) + (1 : Int32)))] [])) (fun t k => XS.istoreN X50.here hx rfl (hb hby at_170) rfl (l' := #[.val (.int x0), .val (.int kk), .val (.ref b1), .val (.int (1 : Int32)), .val (.int (((((0 : Int32) + (1 : Int32)) + (1 : Int32)) + (1 : Int32)) + (1 : Int32)))]) rfl k) ?_
          refine own_step (st' := T50.setTop (mkF m 172 #[.val (.int x0), .val (.int kk), .val (.ref b1), .val (.int (1 : Int32)), .val (.int (((((0 : Int32) + (1 : Int32)) + (1 : Int32)) + (1 : Int32)) + (1 : Int32)))] [(.int (1 : Int32))])) (fun t k => XS.iloadN X50.here hx rfl (hb hby at_171) rfl k) ?_
          refine own_ret X50 Bd.notSynchronized (some (.int (1 : Int32))) (fun h => by rw [Bd.returns] at h; cases h) (fun fs hr => retN X50 hx (t := .boolean) Bd.returns (by simp) (hb hby at_172) hr) ?_ (by decide) (by decide)
          rw [e50]
          exact ⟨rfl, N50⟩
set_option maxRecDepth 65536 in
set_option maxHeartbeats 40000000 in
theorem comes_1 {Post : Tables → Env → Array Value → State → Outcome → State → Prop} (hpost : ∀ tb e args s v u, (limb_1_1.after args s (.returned v) u = true ∧ limb_1_2.after args s (.returned v) u = true ∧ True) → FrameEnd s (.returned v) u (Jvm.fieldLocs frame_1_writes args s ++ Jvm.arrayLocs frame_1_arrays args s ++ Jvm.staticLocs frame_1_statics s) 16 128 → Post tb e args s (.returned v) u) :
    ArmFor flags0 classFile x code maxLocals ret World_1 tables_1 room_1 Calls_1 rest_1 Pre_1 Post := by
  intro l hfl _ _ p e ha hc hk s m args below hf hA hF happ hP
  obtain ⟨hcalls, hrest, hpre⟩ := hP
  obtain ⟨-, -, -, hnamed, -, -, -, hat⟩ := (Spec.applies_iff hf).mp happ
  obtain ⟨hg, hn⟩ := and_e (Cond.before_iff.mp (show (Jvm.Cond.and given_1 narrow_1).before args s = true from hpre))
  obtain ⟨hcount, hg0⟩ := and_e hg
  obtain ⟨w0, rfl⟩ : ∃ w0 : Value, args = #[w0] := by
    have hs : args.size = 1 := by simpa [Cond.value, given_1] using hcount
    obtain ⟨L⟩ := args
    match L, hs with
    | [w0], _ => exact ⟨w0, rfl⟩
  have hw := fun d (hd : d ∈ tables_1) => atoms_spec (ws := Jvm.Cond.code x code maxLocals ret :: tables_1) hat d (List.mem_cons_of_mem _ hd)
  have hfit : Fit s := fun {y c} hc i hi => by
    obtain ⟨ha, rfl⟩ := Array.getElem?_eq_some_iff.mp hc
    have q := List.all_eq_true.mp ((Array.all_eq_true_iff_forall_mem.mp hF) _ (Array.getElem_mem ha)) i (List.mem_range.mpr hi)
    simpa [Array.getElem?_eq_getElem hi] using q
  obtain ⟨hsets, hown0⟩ := atoms_of _ (rest_1_c_eq ▸ (show rest_1_c.before _ s = true from hrest))
  have hr0 := Cond.before_iff.mp hown0
  obtain ⟨i0, ei0⟩ := is_v hg0
  obtain rfl : w0 = (.int i0) := Option.some.inj ei0
  obtain ⟨dd, _, _, _, edd, -⟩ := Cond.exactly_spec (hsets _ (List.mem_of_getElem? (i := 7) rfl))
  have S0 := Sta.start (Z := s) edd (Or.inr ⟨(hw _ (List.mem_of_getElem? (i := 12) rfl)), (hsets _ (List.mem_of_getElem? (i := 2) rfl))⟩)
  obtain ⟨n, o, h1, h2, h3, _, L, rfl, ⟨rfl, N⟩, hq⟩ := rm0 l s _ hw tables_1 i0 dd s.heap s.heap.size (Nat.le_refl _) (Old.start s) S0 p e ha hc hk s m _ below hf ((Spec.applies_iff_loose hf).mp happ).1 ⟨rfl, State.Warmed39.refl s, rfl⟩ trivial
  refine ⟨n, _, h1, h2, h3, hpost _ _ _ _ _ _ ⟨Cond.after_iff.mpr rfl, Cond.after_iff.mpr (eq_i res_at (Term.int_eval (1)) rfl), trivial⟩ ⟨hq.1, hq.2.1, (hq.2.2.sift fun y hy => Or.inr (N y hy)).mono (by decide) (by decide)⟩⟩
theorem main_1_1 : Claimed_1_1 := comes_1 fun _ _ _ _ _ _ h hF => ⟨h.1, hF⟩
theorem main_1_2 : Claimed_1_2 := comes_1 fun _ _ _ _ _ _ h hF => ⟨h.2.1, hF⟩
end Jvm.Pilot.@@N@@
namespace Jvm.Pilot.@@N@@
open Jvm Jvm.ClassFile Sem Op Lib Jvm.Free Jvm.Stand Jvm.Pilot.@@N@@.Jvm.D
/-! MADE BY PROGRAM (witnessworld.py) out of the Statement's table words and the real class files: 18 classes; the members and pool entries that the words name. The judged class is class 1, her method 1. -/
namespace start1
open Jvm.ClassFile
def u (s : String) : CpInfo := .utf8 (stringToUtf16 s)
/-- a pool by its gaps: so many unusable entries, then the entry; so many at the end -/
def gap : Nat → List CpInfo → List CpInfo
  | 0, r => r
  | n + 1, r => .unusable :: gap n r
def poolList (es : List (Nat × CpInfo)) (last : Nat) : List CpInfo := es.foldr (fun e r => gap e.1 (e.2 :: r)) (gap last [])
def pool (es : List (Nat × CpInfo)) (last : Nat) : Array CpInfo := ⟨poolList es last⟩
def fileOf (pool : Array CpInfo) (this : Nat) (attrs : Array Attribute := #[]) (ms : Array MethodInfo := #[]) (fl : Nat := 33) (sup : Nat := 0) (ifs : Array Nat := #[]) (fds : Array FieldInfo := #[]) : ClassFile where
  minorVersion := 0
  majorVersion := 65
  constantPool := pool
  accessFlags := fl
  thisClass := this
  superClass := sup
  interfaces := ifs
  fields := fds
  methods := ms
  attributes := attrs
def plain (name : String) (sup : Option ClassId) : Class where
  name := name
  kind := .ordinary
  loader := none
  accessFlags := 33
  super := sup
  interfaces := #[]
  cf := none
  fields := #[]
  methods := #[]
  instanceTypes := #[]
  staticTypes := #[]
  resolved := #[]
  callSites := []
  init := .initialized
  statics := none
  mirror := none

def pool0 : Array CpInfo := pool [(5, u "<init>"), (0, u "()V"), (1, .class_ 10), (1, u "java/lang/Object")] 113

def k0c0 : Code := { maxStack := 0, maxLocals := 1, code := object_method_1_code, exceptionTable := #[], attributes := #[] }
def k0m0 : Method := { name := "<init>", desc := "()V", sig := { parameters := [], returnType := none }, accessFlags := 1, code := some k0c0 }
/-- java/lang/Object -/
def k0 : Class := { plain "java/lang/Object" none with
  accessFlags := 33
  interfaces := #[]
  cf := some (fileOf pool0 8 #[] #[{ accessFlags := 1, nameIndex := 5, descriptorIndex := 6, attributes := #[] }] 33 0 #[] #[])
  fields := #[]
  methods := #[k0m0]
  instanceTypes := #[]
  staticTypes := #[]
  resolved := Array.replicate 124 none
  statics := none }

def pool1 : Array CpInfo := pool [(2, .class_ 4), (0, .nameAndType 5 6), (0, u "java/lang/Object"), (0, u "<init>"), (0, u "()V"), (0, .integer 2147483647), (0, .class_ 9), (0, u "com/example/wariant/wariant/engine/Cnf"), (0, .methodref 8 3), (0, .methodref 8 12), (0, .nameAndType 13 14), (0, u "variableCount"), (0, u "()I"), (0, .methodref 8 16), (0, .nameAndType 17 14), (0, u "newVariable"), (0, .methodref 8 19), (0, .nameAndType 20 14), (0, u "clauseCount"), (0, .class_ 22), (0, u "com/example/wariant/wariant/engine/CnfNewVariablePinLaw"), (2, u "law"), (0, u "(I)Z")] 3

def k1m0 : Method := { name := "<init>", desc := "()V", sig := { parameters := [], returnType := none }, accessFlags := 1, code := none }
def k1c1 : Code := { maxStack := 2, maxLocals := 5, code := code, exceptionTable := #[], attributes := #[] }
def k1m1 : Method := { name := "law", desc := "(I)Z", sig := { parameters := [.int], returnType := some .boolean }, accessFlags := 9, code := some k1c1 }
/-- com/example/wariant/wariant/engine/CnfNewVariablePinLaw -/
def k1 : Class := { plain "com/example/wariant/wariant/engine/CnfNewVariablePinLaw" (some 0) with
  accessFlags := 49
  interfaces := #[]
  cf := some (fileOf pool1 21 #[] #[{ accessFlags := 1, nameIndex := 5, descriptorIndex := 6, attributes := #[] }, { accessFlags := 9, nameIndex := 25, descriptorIndex := 26, attributes := #[] }] 49 2 #[] #[])
  fields := #[]
  methods := #[k1m0, k1m1]
  instanceTypes := #[]
  staticTypes := #[]
  resolved := Array.replicate 30 none
  statics := none }

def pool2 : Array CpInfo := pool [(1, .methodref 2 3), (0, .class_ 4), (0, .nameAndType 5 6), (0, u "java/lang/Object"), (0, u "<init>"), (0, u "()V"), (0, .class_ 8), (0, u "java/util/ArrayList"), (0, .methodref 7 3), (0, .fieldref 11 12), (0, .class_ 13), (0, .nameAndType 14 15), (0, u "com/example/wariant/wariant/engine/Cnf"), (0, u "clauses"), (0, u "Ljava/util/List;"), (0, .fieldref 11 17), (0, .nameAndType 18 15), (0, u "firstDecisions"), (0, .fieldref 11 20), (0, .nameAndType 21 22), (0, u "variableCount"), (0, u "I"), (11, .class_ 36), (1, u "java/util/List"), (22, .interfaceMethodref 34 60), (0, .nameAndType 61 62), (0, u "size"), (0, u "()I"), (9, u "newVariable"), (6, u "clauseCount")] 21

def k2c0 : Code := { maxStack := 3, maxLocals := 1, code := prog_4_method_1_code, exceptionTable := #[], attributes := #[] }
def k2m0 : Method := { name := "<init>", desc := "()V", sig := { parameters := [], returnType := none }, accessFlags := 1, code := some k2c0 }
def k2c1 : Code := { maxStack := 3, maxLocals := 1, code := prog_4_method_2_code, exceptionTable := #[], attributes := #[] }
def k2m1 : Method := { name := "newVariable", desc := "()I", sig := { parameters := [], returnType := some .int }, accessFlags := 1, code := some k2c1 }
def k2c2 : Code := { maxStack := 1, maxLocals := 1, code := prog_4_method_7_code, exceptionTable := #[], attributes := #[] }
def k2m2 : Method := { name := "variableCount", desc := "()I", sig := { parameters := [], returnType := some .int }, accessFlags := 1, code := some k2c2 }
def k2c3 : Code := { maxStack := 1, maxLocals := 1, code := prog_4_method_8_code, exceptionTable := #[], attributes := #[] }
def k2m3 : Method := { name := "clauseCount", desc := "()I", sig := { parameters := [], returnType := some .int }, accessFlags := 1, code := some k2c3 }
/-- com/example/wariant/wariant/engine/Cnf -/
def k2 : Class := { plain "com/example/wariant/wariant/engine/Cnf" (some 0) with
  accessFlags := 49
  interfaces := #[]
  cf := some (fileOf pool2 11 #[] #[{ accessFlags := 1, nameIndex := 5, descriptorIndex := 6, attributes := #[] }, { accessFlags := 1, nameIndex := 72, descriptorIndex := 62, attributes := #[] }, { accessFlags := 1, nameIndex := 21, descriptorIndex := 62, attributes := #[] }, { accessFlags := 1, nameIndex := 79, descriptorIndex := 62, attributes := #[] }] 49 2 #[] #[{ accessFlags := 18, nameIndex := 14, descriptorIndex := 15, attributes := #[] }, { accessFlags := 18, nameIndex := 18, descriptorIndex := 15, attributes := #[] }, { accessFlags := 2, nameIndex := 21, descriptorIndex := 22, attributes := #[] }])
  fields := #[{ name := "clauses", type := (.object "java/util/List"), accessFlags := 18, slot := 0, constantValue := 0 }, { name := "firstDecisions", type := (.object "java/util/List"), accessFlags := 18, slot := 1, constantValue := 0 }, { name := "variableCount", type := .int, accessFlags := 2, slot := 2, constantValue := 0 }]
  methods := #[k2m0, k2m1, k2m2, k2m3]
  instanceTypes := #[(.object "java/util/List"), (.object "java/util/List"), .int]
  staticTypes := #[]
  resolved := Array.replicate 101 none
  statics := none }

def pool3 : Array CpInfo := pool [(8, .class_ 10), (1, u "java/lang/Iterable"), (24, .class_ 36), (0, u "java/lang/Object")] 25

/-- java/lang/Iterable -/
def k3 : Class := { plain "java/lang/Iterable" (some 0) with
  accessFlags := 1537
  interfaces := #[]
  cf := some (fileOf pool3 8 #[] #[] 1537 35 #[] #[])
  fields := #[]
  methods := #[]
  instanceTypes := #[]
  staticTypes := #[]
  resolved := Array.replicate 62 none
  statics := none }

def pool4 : Array CpInfo := pool [(10, .class_ 12), (1, u "java/util/Collection"), (47, .class_ 61), (0, u "java/lang/Object"), (0, .class_ 63), (0, u "java/lang/Iterable")] 51

/-- java/util/Collection -/
def k4 : Class := { plain "java/util/Collection" (some 0) with
  accessFlags := 1537
  interfaces := #[3]
  cf := some (fileOf pool4 10 #[] #[] 1537 60 #[62] #[])
  fields := #[]
  methods := #[]
  instanceTypes := #[]
  staticTypes := #[]
  resolved := Array.replicate 115 none
  statics := none }

def pool5 : Array CpInfo := pool [(1, .methodref 2 3), (0, .class_ 4), (0, .nameAndType 5 6), (0, u "java/lang/Object"), (0, u "<init>"), (0, u "()V"), (1, .class_ 10), (1, u "java/util/AbstractCollection"), (66, .class_ 78), (0, u "java/util/Collection")] 81

def k5c0 : Code := { maxStack := 1, maxLocals := 1, code := jdk_22_method_1_code, exceptionTable := #[], attributes := #[] }
def k5m0 : Method := { name := "<init>", desc := "()V", sig := { parameters := [], returnType := none }, accessFlags := 4, code := some k5c0 }
/-- java/util/AbstractCollection -/
def k5 : Class := { plain "java/util/AbstractCollection" (some 0) with
  accessFlags := 1057
  interfaces := #[4]
  cf := some (fileOf pool5 8 #[] #[{ accessFlags := 4, nameIndex := 5, descriptorIndex := 6, attributes := #[] }] 1057 2 #[77] #[])
  fields := #[]
  methods := #[k5m0]
  instanceTypes := #[]
  staticTypes := #[]
  resolved := Array.replicate 160 none
  statics := none }

def pool6 : Array CpInfo := pool [(8, .class_ 10), (1, u "java/util/SequencedCollection"), (15, .class_ 27), (0, u "java/lang/Object"), (0, .class_ 29), (0, u "java/util/Collection")] 27

/-- java/util/SequencedCollection -/
def k6 : Class := { plain "java/util/SequencedCollection" (some 0) with
  accessFlags := 1537
  interfaces := #[4]
  cf := some (fileOf pool6 8 #[] #[] 1537 26 #[28] #[])
  fields := #[]
  methods := #[]
  instanceTypes := #[]
  staticTypes := #[]
  resolved := Array.replicate 57 none
  statics := none }

def pool7 : Array CpInfo := pool [(8, .class_ 10), (1, u "java/util/List"), (68, u "size"), (0, u "()I"), (22, .class_ 104), (0, u "java/lang/Object"), (15, .class_ 121), (0, u "java/util/SequencedCollection")] 129

def k7m0 : Method := { name := "size", desc := "()I", sig := { parameters := [], returnType := some .int }, accessFlags := 1025, code := none }
/-- java/util/List -/
def k7 : Class := { plain "java/util/List" (some 0) with
  accessFlags := 1537
  interfaces := #[6]
  cf := some (fileOf pool7 8 #[] #[{ accessFlags := 1025, nameIndex := 79, descriptorIndex := 80, attributes := #[] }] 1537 103 #[120] #[])
  fields := #[]
  methods := #[k7m0]
  instanceTypes := #[]
  staticTypes := #[]
  resolved := Array.replicate 251 none
  statics := none }

def pool8 : Array CpInfo := pool [(1, .methodref 2 3), (0, .class_ 4), (0, .nameAndType 5 6), (0, u "java/util/AbstractCollection"), (0, u "<init>"), (0, u "()V"), (0, .fieldref 8 9), (0, .class_ 10), (0, .nameAndType 11 12), (0, u "java/util/AbstractList"), (0, u "modCount"), (0, u "I"), (64, .class_ 78), (0, u "java/util/AbstractList$Itr"), (3, .class_ 83), (0, u "java/util/AbstractList$ListItr"), (9, .class_ 94), (0, u "java/util/AbstractList$RandomAccessSubList"), (3, .class_ 99), (0, u "java/util/AbstractList$SubList"), (33, .class_ 134), (0, u "java/util/List"), (73, .class_ 209), (0, u "java/util/AbstractList$SubList$1"), (0, .class_ 211), (0, u "java/util/AbstractList$RandomAccessSpliterator")] 6

def k8c0 : Code := { maxStack := 2, maxLocals := 1, code := jdk_39_method_1_code, exceptionTable := #[], attributes := #[] }
def k8m0 : Method := { name := "<init>", desc := "()V", sig := { parameters := [], returnType := none }, accessFlags := 4, code := some k8c0 }
/-- java/util/AbstractList -/
def k8 : Class := { plain "java/util/AbstractList" (some 5) with
  accessFlags := 1057
  interfaces := #[7]
  cf := some (fileOf pool8 8 #[.nestMembers #[93, 98, 208, 210, 82, 77]] #[{ accessFlags := 4, nameIndex := 5, descriptorIndex := 6, attributes := #[] }] 1057 2 #[133] #[{ accessFlags := 132, nameIndex := 11, descriptorIndex := 12, attributes := #[] }])
  fields := #[{ name := "modCount", type := .int, accessFlags := 132, slot := 0, constantValue := 0 }]
  methods := #[k8m0]
  instanceTypes := #[.int]
  staticTypes := #[]
  resolved := Array.replicate 218 none
  statics := none }

def pool9 : Array CpInfo := pool [(1, .class_ 2), (0, u "java/util/RandomAccess"), (0, .class_ 4), (0, u "java/lang/Object")] 2

/-- java/util/RandomAccess -/
def k9 : Class := { plain "java/util/RandomAccess" (some 0) with
  accessFlags := 1537
  interfaces := #[]
  cf := some (fileOf pool9 1 #[] #[] 1537 3 #[] #[])
  fields := #[]
  methods := #[]
  instanceTypes := #[]
  staticTypes := #[]
  resolved := Array.replicate 7 none
  statics := none }

def pool10 : Array CpInfo := pool [(1, .class_ 2), (0, u "java/lang/Cloneable"), (0, .class_ 4), (0, u "java/lang/Object")] 2

/-- java/lang/Cloneable -/
def k10 : Class := { plain "java/lang/Cloneable" (some 0) with
  accessFlags := 1537
  interfaces := #[]
  cf := some (fileOf pool10 1 #[] #[] 1537 3 #[] #[])
  fields := #[]
  methods := #[]
  instanceTypes := #[]
  staticTypes := #[]
  resolved := Array.replicate 7 none
  statics := none }

def pool11 : Array CpInfo := pool [(1, .class_ 2), (0, u "java/io/Serializable"), (0, .class_ 4), (0, u "java/lang/Object")] 2

/-- java/io/Serializable -/
def k11 : Class := { plain "java/io/Serializable" (some 0) with
  accessFlags := 1537
  interfaces := #[]
  cf := some (fileOf pool11 1 #[] #[] 1537 3 #[] #[])
  fields := #[]
  methods := #[]
  instanceTypes := #[]
  staticTypes := #[]
  resolved := Array.replicate 7 none
  statics := none }

def pool12 : Array CpInfo := pool [(1, .methodref 2 3), (0, .class_ 4), (0, .nameAndType 5 6), (0, u "java/util/AbstractList"), (0, u "<init>"), (0, u "()V"), (2, .fieldref 10 11), (0, .class_ 12), (0, .nameAndType 13 14), (0, u "java/util/ArrayList"), (0, u "elementData"), (0, u "[Ljava/lang/Object;"), (2, u "EMPTY_ELEMENTDATA"), (21, .fieldref 10 40), (0, .nameAndType 41 14), (0, u "DEFAULTCAPACITY_EMPTY_ELEMENTDATA"), (6, .fieldref 10 49), (0, .nameAndType 50 51), (0, u "size"), (0, u "I"), (96, .class_ 149), (0, u "java/util/List"), (36, u "()I"), (75, .class_ 263), (0, u "java/util/ArrayList$ListItr"), (3, .class_ 268), (0, u "java/util/ArrayList$Itr"), (7, .class_ 277), (0, u "java/util/ArrayList$SubList"), (12, .class_ 291), (0, u "java/util/ArrayList$ArrayListSpliterator"), (37, .class_ 330), (0, u "java/util/RandomAccess"), (0, .class_ 332), (0, u "java/lang/Cloneable"), (0, .class_ 334), (0, u "java/io/Serializable"), (0, u "serialVersionUID"), (0, u "J"), (3, u "DEFAULT_CAPACITY"), (159, .class_ 501), (0, u "java/util/ArrayList$SubList$2"), (0, .class_ 503), (0, u "java/util/ArrayList$SubList$1")] 5

def k12c0 : Code := { maxStack := 2, maxLocals := 1, code := jdk_38_method_2_code, exceptionTable := #[], attributes := #[] }
def k12m0 : Method := { name := "<init>", desc := "()V", sig := { parameters := [], returnType := none }, accessFlags := 1, code := some k12c0 }
def k12c1 : Code := { maxStack := 1, maxLocals := 1, code := jdk_38_method_8_code, exceptionTable := #[], attributes := #[] }
def k12m1 : Method := { name := "size", desc := "()I", sig := { parameters := [], returnType := some .int }, accessFlags := 1, code := some k12c1 }
/-- java/util/ArrayList -/
def k12 : Class := { plain "java/util/ArrayList" (some 8) with
  accessFlags := 33
  interfaces := #[7, 9, 10, 11]
  cf := some (fileOf pool12 10 #[.nestMembers #[290, 276, 500, 502, 262, 267]] #[{ accessFlags := 1, nameIndex := 5, descriptorIndex := 6, attributes := #[] }, { accessFlags := 1, nameIndex := 50, descriptorIndex := 186, attributes := #[] }] 33 2 #[148, 329, 331, 333] #[{ accessFlags := 26, nameIndex := 335, descriptorIndex := 336, attributes := #[] }, { accessFlags := 26, nameIndex := 340, descriptorIndex := 51, attributes := #[] }, { accessFlags := 26, nameIndex := 17, descriptorIndex := 14, attributes := #[] }, { accessFlags := 26, nameIndex := 41, descriptorIndex := 14, attributes := #[] }, { accessFlags := 128, nameIndex := 13, descriptorIndex := 14, attributes := #[] }, { accessFlags := 2, nameIndex := 50, descriptorIndex := 51, attributes := #[] }])
  fields := #[{ name := "serialVersionUID", type := .long, accessFlags := 26, slot := 0, constantValue := 0 }, { name := "DEFAULT_CAPACITY", type := .int, accessFlags := 26, slot := 1, constantValue := 0 }, { name := "EMPTY_ELEMENTDATA", type := (.array (.object "java/lang/Object")), accessFlags := 26, slot := 2, constantValue := 0 }, { name := "DEFAULTCAPACITY_EMPTY_ELEMENTDATA", type := (.array (.object "java/lang/Object")), accessFlags := 26, slot := 3, constantValue := 0 }, { name := "elementData", type := (.array (.object "java/lang/Object")), accessFlags := 128, slot := 1, constantValue := 0 }, { name := "size", type := .int, accessFlags := 2, slot := 2, constantValue := 0 }]
  methods := #[k12m0, k12m1]
  instanceTypes := #[.int, (.array (.object "java/lang/Object")), .int]
  staticTypes := #[.long, .int, (.array (.object "java/lang/Object")), (.array (.object "java/lang/Object"))]
  resolved := Array.replicate 509 none
  statics := some 0 }

/-- the primitive byte -/
def k13 : Class := { plain "byte" none with kind := .primitive 'B', accessFlags := 0x411 }
/-- [B -/
def k14 : Class := { plain "[B" (some 0) with kind := .array 13 .byte, interfaces := #[10, 11], accessFlags := 1041 }

/-- the primitive int -/
def k15 : Class := { plain "int" none with kind := .primitive 'I', accessFlags := 0x411 }
/-- [I -/
def k16 : Class := { plain "[I" (some 0) with kind := .array 15 .int, interfaces := #[10, 11], accessFlags := 1041 }

/-- [Ljava/lang/Object; -/
def k17 : Class := { plain "[Ljava/lang/Object;" (some 0) with kind := .array 0 (.object "java/lang/Object"), interfaces := #[10, 11], accessFlags := 1041 }

def heap : Heap := #[{ cls := 12, slots := #[.long 0, .int 0, .ref 1, .ref 2], vm := .statics 12 },
  { cls := 17, slots := #[], vm := .none },
  { cls := 17, slots := #[], vm := .none }]
def classes : Array Class := #[k0, k1, k2, k3, k4, k5, k6, k7, k8, k9, k10, k11, k12, k13, k14, k15, k16, k17]
def interned : List (Array UInt16 × Addr) := []
def slotsUsed : Nat := 4
def theMethod : MethodId := ⟨1, 1⟩
def args0 : Array Value := #[.int 5]
def aboutOver (below : List Frame) : State where
  vm := { classes := classes, interned := interned.toArray }
  heap := heap
  slotsUsed := slotsUsed
  threads := #[{ frames := .invoking theMethod args0 :: below }]
def below0 : List Frame := [.native { method := ⟨0, 0⟩, args := #[] }]
def about1 : State := aboutOver below0
def p0 : Program := .bare "" "" ""
def e0 : Env := launch0.env 0 0 0
theorem w_frames : about1.frames = Frame.invoking theMethod args0 :: below0 := rfl
set_option maxRecDepth 65536 in
theorem w_args : argsFit about1.vm theMethod args0 = true := by decide +kernel
set_option maxRecDepth 65536 in
theorem w_heap : heapFits about1 = true := by decide +kernel
set_option maxRecDepth 65536 in
theorem w_runnable : about1.curStatus? = some .runnable := by decide +kernel
set_option maxRecDepth 65536 in
theorem w_alone : about1.alone = true := by decide +kernel
set_option maxRecDepth 65536 in
theorem w_named : about1.methodNamed? x = some theMethod := by decide +kernel
set_option maxRecDepth 65536 in
theorem w_hears : about1.hears theMethod below0 = true := by decide +kernel
set_option maxRecDepth 65536 in
theorem w_ripe : about1.ripe theMethod args0 below0 = true := by decide +kernel
theorem w_running : about1.status = .running := rfl
set_option maxRecDepth 65536 in
theorem w_room : about1.hasRoom e0.platform room_1 = true :=
  launch0.hasRoom_least _ room_1 (by decide +kernel) (by decide +kernel) (by decide +kernel) (by decide +kernel) (by decide +kernel) (by decide +kernel)
theorem allAtoms_all (ts : List Jvm.Cond) (a : Array Jvm.Value) (st : Jvm.State) : (allAtoms ts).before a st = ts.all (fun c => c.before a st) := by
  induction ts with
  | nil => rfl
  | cons c t ih =>
    show (Jvm.Cond.and c (allAtoms t)).before a st = _
    rw [Jvm.Cond.before_and, ih, List.all_cons]
def words1 : List Jvm.Cond := Jvm.Cond.code x code maxLocals ret :: tables_1
/-- a 'code' word, met by the world's own term for the bytes: nothing is compared byte by byte -/
theorem code_word {y : MethodName} {bytes : ByteArray} {mx : Nat} {rt : Option FieldType} {a : Array Value} {s : State} {m : MethodId} {meth : Method} {c : Code} (h1 : s.methodNamed? y = some m) (h2 : s.vm.method? m = some meth) (h3 : meth.code = some c) (h4 : c.code = bytes)
    (h5 : (c.maxLocals == mx && c.exceptionTable.isEmpty && decide (c.maxStack ≤ mostOperands) && decide (meth.sig.returnType = rt) && !meth.locks && decide (parseMethodDescriptor y.desc = some meth.sig)) = true) : (Jvm.Cond.code y bytes mx rt).before a s = true := by
  simp only [Bool.and_eq_true, beq_iff_eq, Bool.not_eq_true', decide_eq_true_eq] at h5
  obtain ⟨⟨⟨⟨⟨g1, g2⟩, g3⟩, g4⟩, g5⟩, g6⟩ := h5
  simp [Cond.before, Cond.holds, Cond.value, h1, h2, h3, h4, g1, g2, g3, g4, g5, g6]
def isCode : Jvm.Cond → Bool
  | .code _ _ _ _ => true
  | _ => false
theorem all_split {L : List Jvm.Cond} {P : Jvm.Cond → Bool} (h1 : L.all (fun c => isCode c || P c) = true) (h2 : ∀ c ∈ L.filter isCode, P c = true) : L.all P = true := by
  refine List.all_eq_true.mpr fun c hc => ?_
  have h := List.all_eq_true.mp h1 c hc
  rcases Bool.eq_false_or_eq_true (isCode c) with hi | hi
  · exact h2 c (List.mem_filter.mpr ⟨hc, hi⟩)
  · simpa [hi] using h
set_option maxRecDepth 65536 in
theorem w_c0 : (Jvm.Cond.code x code maxLocals ret).before args0 about1 = true := code_word (m := ⟨1, 1⟩) (meth := k1m1) (c := k1c1) (by decide +kernel) rfl rfl rfl (by decide +kernel)
set_option maxRecDepth 65536 in
theorem w_c1 : (Jvm.Cond.code ({ cls := "com/example/wariant/wariant/engine/Cnf", name := "<init>", desc := "()V" } : Jvm.MethodName) prog_4_method_1_code (1 : Nat) (Option.none : Option Jvm.ClassFile.FieldType)).before args0 about1 = true := code_word (m := ⟨2, 0⟩) (meth := k2m0) (c := k2c0) (by decide +kernel) rfl rfl rfl (by decide +kernel)
set_option maxRecDepth 65536 in
theorem w_c2 : (Jvm.Cond.code ({ cls := "java/lang/Object", name := "<init>", desc := "()V" } : Jvm.MethodName) object_method_1_code (1 : Nat) (Option.none : Option Jvm.ClassFile.FieldType)).before args0 about1 = true := code_word (m := ⟨0, 0⟩) (meth := k0m0) (c := k0c0) (by decide +kernel) rfl rfl rfl (by decide +kernel)
set_option maxRecDepth 65536 in
theorem w_c3 : (Jvm.Cond.code ({ cls := "java/util/ArrayList", name := "<init>", desc := "()V" } : Jvm.MethodName) jdk_38_method_2_code (1 : Nat) (Option.none : Option Jvm.ClassFile.FieldType)).before args0 about1 = true := code_word (m := ⟨12, 0⟩) (meth := k12m0) (c := k12c0) (by decide +kernel) rfl rfl rfl (by decide +kernel)
set_option maxRecDepth 65536 in
theorem w_c4 : (Jvm.Cond.code ({ cls := "java/util/AbstractList", name := "<init>", desc := "()V" } : Jvm.MethodName) jdk_39_method_1_code (1 : Nat) (Option.none : Option Jvm.ClassFile.FieldType)).before args0 about1 = true := code_word (m := ⟨8, 0⟩) (meth := k8m0) (c := k8c0) (by decide +kernel) rfl rfl rfl (by decide +kernel)
set_option maxRecDepth 65536 in
theorem w_c5 : (Jvm.Cond.code ({ cls := "java/util/AbstractCollection", name := "<init>", desc := "()V" } : Jvm.MethodName) jdk_22_method_1_code (1 : Nat) (Option.none : Option Jvm.ClassFile.FieldType)).before args0 about1 = true := code_word (m := ⟨5, 0⟩) (meth := k5m0) (c := k5c0) (by decide +kernel) rfl rfl rfl (by decide +kernel)
set_option maxRecDepth 65536 in
theorem w_c6 : (Jvm.Cond.code ({ cls := "com/example/wariant/wariant/engine/Cnf", name := "variableCount", desc := "()I" } : Jvm.MethodName) prog_4_method_7_code (1 : Nat) (Option.some Jvm.ClassFile.FieldType.int)).before args0 about1 = true := code_word (m := ⟨2, 2⟩) (meth := k2m2) (c := k2c2) (by decide +kernel) rfl rfl rfl (by decide +kernel)
set_option maxRecDepth 65536 in
theorem w_c7 : (Jvm.Cond.code ({ cls := "com/example/wariant/wariant/engine/Cnf", name := "clauseCount", desc := "()I" } : Jvm.MethodName) prog_4_method_8_code (1 : Nat) (Option.some Jvm.ClassFile.FieldType.int)).before args0 about1 = true := code_word (m := ⟨2, 3⟩) (meth := k2m3) (c := k2c3) (by decide +kernel) rfl rfl rfl (by decide +kernel)
set_option maxRecDepth 65536 in
theorem w_c8 : (Jvm.Cond.code ({ cls := "java/util/ArrayList", name := "size", desc := "()I" } : Jvm.MethodName) jdk_38_method_8_code (1 : Nat) (Option.some Jvm.ClassFile.FieldType.int)).before args0 about1 = true := code_word (m := ⟨12, 1⟩) (meth := k12m1) (c := k12c1) (by decide +kernel) rfl rfl rfl (by decide +kernel)
set_option maxRecDepth 65536 in
theorem w_c9 : (Jvm.Cond.code ({ cls := "com/example/wariant/wariant/engine/Cnf", name := "newVariable", desc := "()I" } : Jvm.MethodName) prog_4_method_2_code (1 : Nat) (Option.some Jvm.ClassFile.FieldType.int)).before args0 about1 = true := code_word (m := ⟨2, 1⟩) (meth := k2m1) (c := k2c1) (by decide +kernel) rfl rfl rfl (by decide +kernel)
def codes1 : List Jvm.Cond := [Jvm.Cond.code x code maxLocals ret, Jvm.Cond.code ({ cls := "com/example/wariant/wariant/engine/Cnf", name := "<init>", desc := "()V" } : Jvm.MethodName) prog_4_method_1_code (1 : Nat) (Option.none : Option Jvm.ClassFile.FieldType), Jvm.Cond.code ({ cls := "java/lang/Object", name := "<init>", desc := "()V" } : Jvm.MethodName) object_method_1_code (1 : Nat) (Option.none : Option Jvm.ClassFile.FieldType), Jvm.Cond.code ({ cls := "java/util/ArrayList", name := "<init>", desc := "()V" } : Jvm.MethodName) jdk_38_method_2_code (1 : Nat) (Option.none : Option Jvm.ClassFile.FieldType), Jvm.Cond.code ({ cls := "java/util/AbstractList", name := "<init>", desc := "()V" } : Jvm.MethodName) jdk_39_method_1_code (1 : Nat) (Option.none : Option Jvm.ClassFile.FieldType), Jvm.Cond.code ({ cls := "java/util/AbstractCollection", name := "<init>", desc := "()V" } : Jvm.MethodName) jdk_22_method_1_code (1 : Nat) (Option.none : Option Jvm.ClassFile.FieldType), Jvm.Cond.code ({ cls := "com/example/wariant/wariant/engine/Cnf", name := "variableCount", desc := "()I" } : Jvm.MethodName) prog_4_method_7_code (1 : Nat) (Option.some Jvm.ClassFile.FieldType.int), Jvm.Cond.code ({ cls := "com/example/wariant/wariant/engine/Cnf", name := "clauseCount", desc := "()I" } : Jvm.MethodName) prog_4_method_8_code (1 : Nat) (Option.some Jvm.ClassFile.FieldType.int), Jvm.Cond.code ({ cls := "java/util/ArrayList", name := "size", desc := "()I" } : Jvm.MethodName) jdk_38_method_8_code (1 : Nat) (Option.some Jvm.ClassFile.FieldType.int), Jvm.Cond.code ({ cls := "com/example/wariant/wariant/engine/Cnf", name := "newVariable", desc := "()I" } : Jvm.MethodName) prog_4_method_2_code (1 : Nat) (Option.some Jvm.ClassFile.FieldType.int)]
set_option maxRecDepth 65536 in
theorem codes_eq : words1.filter isCode = codes1 := rfl
theorem w_codes : ∀ c ∈ words1.filter isCode, c.before args0 about1 = true := by
  rw [codes_eq]
  intro c hc
  simp only [codes1, List.mem_cons, List.not_mem_nil, or_false] at hc
  rcases hc with rfl | rfl | rfl | rfl | rfl | rfl | rfl | rfl | rfl | rfl
  · exact w_c0
  · exact w_c1
  · exact w_c2
  · exact w_c3
  · exact w_c4
  · exact w_c5
  · exact w_c6
  · exact w_c7
  · exact w_c8
  · exact w_c9
set_option maxRecDepth 65536 in
theorem w_t1 : (words1.take 24).all (fun c => isCode c || c.before args0 about1) = true := by decide +kernel
set_option maxRecDepth 65536 in
theorem w_t2 : ((words1.drop 24).take 24).all (fun c => isCode c || c.before args0 about1) = true := by decide +kernel
set_option maxRecDepth 65536 in
theorem w_t3 : ((words1.drop 24).drop 24).all (fun c => isCode c || c.before args0 about1) = true := by decide +kernel
theorem w_tables : (allAtoms (Jvm.Cond.code x code maxLocals ret :: tables_1)).before args0 about1 = true := by
  rw [allAtoms_all]
  show words1.all (fun c => c.before args0 about1) = true
  refine all_split ?_ w_codes
  rw [← List.take_append_drop 24 words1, List.all_append, w_t1, ← List.take_append_drop 24 (words1.drop 24), List.all_append, w_t2, w_t3]
  rfl
set_option maxRecDepth 65536 in
theorem w_rest : rest_1_c.before args0 about1 = true := by decide +kernel
set_option maxRecDepth 65536 in
theorem w_case : (Jvm.Cond.and given_1 narrow_1).before args0 about1 = true := by decide +kernel
theorem w_applies : (headSpec (Jvm.Cond.code x code maxLocals ret :: tables_1) room_1).applies x e0.platform about1 = true :=
  (Spec.applies_iff w_frames).mpr ⟨w_running, w_runnable, w_alone, w_named, w_hears, w_ripe, w_room, w_tables⟩
theorem atStart : AtStart classFile x code maxLocals ret World_1 tables_1 room_1 Calls_1 rest_1 Pre_1 launch0 p0 e0 about1 theMethod args0 below0 :=
  ⟨lists_1, trivial, launch0.admits_env _ _ _, launch0.least_env, fairChoices_fair.cas, fairChoices_fair.clock, w_frames, w_args, w_heap, w_applies, trivial, w_rest, w_case⟩
end start1
theorem witness_1 : WitnessClaimed_1 := ⟨start1.p0, start1.e0, start1.about1, start1.theMethod, start1.args0, start1.below0, start1.atStart⟩
end Jvm.Pilot.@@N@@
