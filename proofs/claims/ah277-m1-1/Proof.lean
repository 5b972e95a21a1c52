import JvmDerived
import JvmDerived.Pilot.@@N@@Statement
import JvmDerived.Pilot.@@N@@Code
set_option linter.unusedVariables false
set_option linter.unusedSimpArgs false
namespace Jvm.RoadKit
open Sem ClassFile Op Lib Jvm.Stand Jvm.Free Jvm.LawKit
section Own
variable {p : Program} {l : Launch} {e : Env} {R : Room} {s : State} {m : MethodId} {args : Array Value} {below : List Frame} {meth : Method} {c : Code} {T : State} {locs : List Loc} {cells slots : Nat} {Z : State} {h : Heap} {a : Addr} {k : ClassId} {n j : Int32} {vs : List Value} {dv : Value} {ty : FieldType}
theorem own_retI (X : Stand p l e R s m args below meth c T locs cells slots) (hx : p.tables.exec = Jvm.exec) {pc : Nat} {Ls : Array Slot} {z : Int32} {rest : List Value} (hret : meth.sig.returnType = some .int) (hd : decode c.code pc = .ok (.ireturn, 1)) {fs : List Frame}
    (hl : ∀ (f : JFrame) (acts : List Action), f.method = m → f.locked = none → f.entered = [] → (doReturn e (T.setTop f) acts (some (.int z))).1 = T.setFrames fs) : Steps p.tables e below (T.setTop (mkF m pc Ls (.int z :: rest))) (T.setFrames fs) :=
  retOut X hx hret rfl (Or.inl ⟨rfl, Or.inl rfl, _, rfl⟩) hd hl
/-- the run from st ends as the contract says -/
def own_Ends (p : Program) (e : Env) (below : List Frame) (s : State) (C S : Nat) (Q : Option Value → Heap → List Loc → Prop) (st : State) : Prop :=
  ∃ s₂ o, Steps p.tables e below st s₂ ∧ s₂.status = .running ∧ Ended s₂ below o ∧ ∃ v L, o = .returned v ∧ Q v s₂.heap L ∧ FrameEnd s o s₂ L C S
theorem own_step {C S : Nat} {Q : Option Value → Heap → List Loc → Prop} {st st' : State} (f : ∀ t, Steps p.tables e below st' t → Steps p.tables e below st t) (h : own_Ends p e below s C S Q st') : own_Ends p e below s C S Q st := by
  obtain ⟨s2, o, h1, h2⟩ := h
  exact ⟨s2, o, f _ h1, h2⟩
theorem own_sstep {st st' t : State} (f : ∀ t, Steps p.tables e below st' t → Steps p.tables e below st t) (h : Steps p.tables e below st' t) : Steps p.tables e below st t := f _ h
theorem own_ret (X : Stand p l e R s m args below meth c T locs cells slots) (hlocks : meth.locks = false) {C S : Nat} {Q : Option Value → Heap → List Loc → Prop} {g : JFrame} (v : Option Value) (hv : meth.sig.returnType = none → v = none)
    (st : ∀ fs, (∀ (f : JFrame) (acts : List Action), f.method = m → f.locked = none → f.entered = [] → (doReturn e (T.setTop f) acts v).1 = T.setFrames fs) → Steps p.tables e below (T.setTop g) (T.setFrames fs))
    (hQ : Q v T.heap locs) (hc : cells ≤ C) (hs : slots ≤ S) : own_Ends p e below s C S Q (T.setTop g) := by
  obtain ⟨fs, hr, hrun, hended, hW, hsame⟩ := X.leave (v := v) hv
  exact ⟨_, _, st fs hr, hrun, hended, _, _, rfl, hQ, ⟨_, rfl⟩, hW, hsame.mono hc hs⟩
theorem own_b1 {P : Prop} [Decidable P] (hp : P) : ¬ ((if P then (1 : Int32) else (0 : Int32)) = 0) := by rw [if_pos hp]; decide
theorem own_b1n {P : Prop} [Decidable P] (hp : ¬ P) : ¬ ((if P then (0 : Int32) else (1 : Int32)) = 0) := by rw [if_neg hp]; decide
theorem own_lrem {tb : Tables} [Ours tb] {target : State} {g : JFrame} (ha : At T m c below) (hx : tb.exec = Jvm.exec) (hg : g.method = m) {x y : Int64} {rest : List Value} (hd : decode c.code g.pc = .ok (.lrem, 1)) (hs : g.stack = .long y :: .long x :: rest) (hy : y ≠ 0) (hr : Steps tb e below (T.setTop { g with pc := g.pc + 1, stack := .long (x % y) :: rest }) target) : Steps tb e below (T.setTop g) target :=
  XS.lrem ha hx hg hd hs hy (by rw [lrem_mod]; exact hr)
theorem own_len (X : Stand p l e R s m args below meth c T locs cells slots) (hx : p.tables.exec = Jvm.exec) (hZ : Z.Warmed39 s.vm) (eT : T.heap = h) (A : Arv Z h a k ty n vs dv) {g : JFrame} (hg : g.method = m) {rest : List Value} (hs : g.stack = .ref a :: rest) (hd : decode c.code g.pc = .ok (.arraylength, 1)) :
    ∀ target, Steps p.tables e below (T.setTop { g with pc := g.pc + 1, stack := .int n :: rest }) target → Steps p.tables e below (T.setTop g) target := by
  obtain ⟨cl, Ar, -, S, N, -, -⟩ := A
  intro t k
  refine X.arraylength hx (by rw [eT]; exact Ar.1) (State.isArrayOf_alike hZ.alike Ar.2.1) hg hs hd t ?_
  rw [len_of S N]; exact k
theorem own_ldI (X : Stand p l e R s m args below meth c T locs cells slots) (hx : p.tables.exec = Jvm.exec) (hZ : Z.Warmed39 s.vm) (eT : T.heap = h) (A : Arv Z h a k .int n vs dv) {j : Int32} {v : Value} (hj : ¬ j < 0 ∧ j < n) (hv : vs.getD j.toNatClampNeg dv = v) {g : JFrame} (hg : g.method = m) {rest : List Value} (hs : g.stack = .int j :: .ref a :: rest) (hd : decode c.code g.pc = .ok (.iaload, 1)) :
    ∀ target, Steps p.tables e below (T.setTop { g with pc := g.pc + 1, stack := v :: rest }) target → Steps p.tables e below (T.setTop g) target := by
  obtain ⟨cl, Ar, -, S, N, H, -⟩ := A
  intro t k
  exact X.iaload hx (by rw [eT]; exact Ar.1) (State.isArrayOf_alike hZ.alike Ar.2.1) Ar.2.2 (inb_of S hj) (H.at (inb_of S hj) hv) hg hs hd t k
theorem own_ldJ (X : Stand p l e R s m args below meth c T locs cells slots) (hx : p.tables.exec = Jvm.exec) (hZ : Z.Warmed39 s.vm) (eT : T.heap = h) (A : Arv Z h a k .long n vs dv) {j : Int32} {v : Value} (hj : ¬ j < 0 ∧ j < n) (hv : vs.getD j.toNatClampNeg dv = v) {g : JFrame} (hg : g.method = m) {rest : List Value} (hs : g.stack = .int j :: .ref a :: rest) (hd : decode c.code g.pc = .ok (.laload, 1)) :
    ∀ target, Steps p.tables e below (T.setTop { g with pc := g.pc + 1, stack := v :: rest }) target → Steps p.tables e below (T.setTop g) target := by
  obtain ⟨cl, Ar, -, S, N, H, -⟩ := A
  intro t k
  exact X.laload hx (by rw [eT]; exact Ar.1) (State.isArrayOf_alike hZ.alike Ar.2.1) Ar.2.2 (inb_of S hj) (H.at (inb_of S hj) hv) hg hs hd t k
theorem own_ldC (X : Stand p l e R s m args below meth c T locs cells slots) (hx : p.tables.exec = Jvm.exec) (hZ : Z.Warmed39 s.vm) (eT : T.heap = h) (A : Arv Z h a k .char n vs dv) {j : Int32} {v : Value} (hj : ¬ j < 0 ∧ j < n) (hv : vs.getD j.toNatClampNeg dv = v) {g : JFrame} (hg : g.method = m) {rest : List Value} (hs : g.stack = .int j :: .ref a :: rest) (hd : decode c.code g.pc = .ok (.caload, 1)) :
    ∀ target, Steps p.tables e below (T.setTop { g with pc := g.pc + 1, stack := v :: rest }) target → Steps p.tables e below (T.setTop g) target := by
  obtain ⟨cl, Ar, -, S, N, H, -⟩ := A
  intro t k
  exact X.caload hx (by rw [eT]; exact Ar.1) (State.isArrayOf_alike hZ.alike Ar.2.1) Ar.2.2 (inb_of S hj) (H.at (inb_of S hj) hv) hg hs hd t k
theorem own_ldB (X : Stand p l e R s m args below meth c T locs cells slots) (hx : p.tables.exec = Jvm.exec) (hZ : Z.Warmed39 s.vm) (eT : T.heap = h) (A : Arv Z h a k .byte n vs dv) {j : Int32} {v : Value} (hj : ¬ j < 0 ∧ j < n) (hv : vs.getD j.toNatClampNeg dv = v) {g : JFrame} (hg : g.method = m) {rest : List Value} (hs : g.stack = .int j :: .ref a :: rest) (hd : decode c.code g.pc = .ok (.baload, 1)) :
    ∀ target, Steps p.tables e below (T.setTop { g with pc := g.pc + 1, stack := v :: rest }) target → Steps p.tables e below (T.setTop g) target := by
  obtain ⟨cl, Ar, -, S, N, H, -⟩ := A
  intro t k
  exact X.baloadBytes hx (by rw [eT]; exact Ar.1) (State.isArrayOf_alike hZ.alike Ar.2.1) Ar.2.2 (inb_of S hj) (H.at (inb_of S hj) hv) hg hs hd t k
theorem own_stI (X : Stand p l e R s m args below meth c T locs cells slots) (hx : p.tables.exec = Jvm.exec) (hZ : Z.Warmed39 s.vm) (eT : T.heap = h) (A : Arv Z h a k .int n vs dv) {j x : Int32} {i : Nat} (hj : ¬ j < 0 ∧ j < n) (hi : j.toNatClampNeg = i) (hl : i < vs.length) {g : JFrame} (hg : g.method = m) {rest : List Value} (hs : g.stack = .int x :: .int j :: .ref a :: rest) (hd : decode c.code g.pc = .ok (.iastore, 1)) :
    ∃ T' h', Stand p l e R s m args below meth c T' (locs ++ [⟨a, j.toNatClampNeg⟩]) cells slots ∧ T'.heap = h' ∧ Wr h h' a j.toNatClampNeg (.int x) ∧ Arv Z h' a k .int n (vs.set i (.int x)) dv ∧ ∀ target, Steps p.tables e below (T'.setTop { g with pc := g.pc + 1, stack := rest }) target → Steps p.tables e below (T.setTop g) target := by
  obtain ⟨cl, Ar, q, S, N, H, G⟩ := A
  obtain ⟨T', h', X', e', W, st⟩ := stI X hx hZ eT Ar (inb_of S hj) hg hs hd
  exact ⟨T', h', X', e', W, Arv.set Ar q S N H G rfl W i hi hl, st⟩
theorem own_stJ (X : Stand p l e R s m args below meth c T locs cells slots) (hx : p.tables.exec = Jvm.exec) (hZ : Z.Warmed39 s.vm) (eT : T.heap = h) (A : Arv Z h a k .long n vs dv) {j : Int32} {x : Int64} {i : Nat} (hj : ¬ j < 0 ∧ j < n) (hi : j.toNatClampNeg = i) (hl : i < vs.length) {g : JFrame} (hg : g.method = m) {rest : List Value} (hs : g.stack = .long x :: .int j :: .ref a :: rest) (hd : decode c.code g.pc = .ok (.lastore, 1)) :
    ∃ T' h', Stand p l e R s m args below meth c T' (locs ++ [⟨a, j.toNatClampNeg⟩]) cells slots ∧ T'.heap = h' ∧ Wr h h' a j.toNatClampNeg (.long x) ∧ Arv Z h' a k .long n (vs.set i (.long x)) dv ∧ ∀ target, Steps p.tables e below (T'.setTop { g with pc := g.pc + 1, stack := rest }) target → Steps p.tables e below (T.setTop g) target := by
  obtain ⟨cl, Ar, q, S, N, H, G⟩ := A
  obtain ⟨T', h', X', e', W, st⟩ := stJ X hx hZ eT Ar (inb_of S hj) hg hs hd
  exact ⟨T', h', X', e', W, Arv.set Ar q S N H G rfl W i hi hl, st⟩
theorem own_stB (X : Stand p l e R s m args below meth c T locs cells slots) (hx : p.tables.exec = Jvm.exec) (hZ : Z.Warmed39 s.vm) (eT : T.heap = h) (A : Arv Z h a k .byte n vs dv) {j x : Int32} {i : Nat} (hj : ¬ j < 0 ∧ j < n) (hi : j.toNatClampNeg = i) (hl : i < vs.length) {g : JFrame} (hg : g.method = m) {rest : List Value} (hs : g.stack = .int x :: .int j :: .ref a :: rest) (hd : decode c.code g.pc = .ok (.bastore, 1)) :
    ∃ T' h', Stand p l e R s m args below meth c T' (locs ++ [⟨a, j.toNatClampNeg⟩]) cells slots ∧ T'.heap = h' ∧ Wr h h' a j.toNatClampNeg (.int x.toInt8.toInt32) ∧ Arv Z h' a k .byte n (vs.set i (.int x.toInt8.toInt32)) dv ∧ ∀ target, Steps p.tables e below (T'.setTop { g with pc := g.pc + 1, stack := rest }) target → Steps p.tables e below (T.setTop g) target := by
  obtain ⟨cl, Ar, q, S, N, H, G⟩ := A
  obtain ⟨T', h', X', e', W, st⟩ := stB X hx hZ eT Ar (inb_of S hj) hg hs hd
  exact ⟨T', h', X', e', W, Arv.set Ar q S N H G (fits_nar_byte x) W i hi hl, st⟩
theorem own_stC (X : Stand p l e R s m args below meth c T locs cells slots) (hx : p.tables.exec = Jvm.exec) (hZ : Z.Warmed39 s.vm) (eT : T.heap = h) (A : Arv Z h a k .char n vs dv) {j x : Int32} {i : Nat} (hj : ¬ j < 0 ∧ j < n) (hi : j.toNatClampNeg = i) (hl : i < vs.length) {g : JFrame} (hg : g.method = m) {rest : List Value} (hs : g.stack = .int x :: .int j :: .ref a :: rest) (hd : decode c.code g.pc = .ok (.castore, 1)) :
    ∃ T' h', Stand p l e R s m args below meth c T' (locs ++ [⟨a, j.toNatClampNeg⟩]) cells slots ∧ T'.heap = h' ∧ Wr h h' a j.toNatClampNeg (.int x.toUInt32.toUInt16.toUInt32.toInt32) ∧ Arv Z h' a k .char n (vs.set i (.int x.toUInt32.toUInt16.toUInt32.toInt32)) dv ∧ ∀ target, Steps p.tables e below (T'.setTop { g with pc := g.pc + 1, stack := rest }) target → Steps p.tables e below (T.setTop g) target := by
  obtain ⟨cl, Ar, q, S, N, H, G⟩ := A
  obtain ⟨T', h', X', e', W, st⟩ := stC X hx hZ eT Ar (inb_of S hj) hg hs hd
  exact ⟨T', h', X', e', W, Arv.set Ar q S N H G (fits_nar_char x) W i hi hl, st⟩
theorem own_eqI {t : Term} {q : Int32} (hq : (Jvm.Cond.eq t (.int q)).value args s none s [] = some true) : t.eval args s none [] s = some (.int q) := by
  obtain ⟨x, y, ha, hb, k1, k2⟩ := cmp_v (Or.inl hq)
  rw [Term.int_eval] at hb
  cases hb
  obtain ⟨z, rfl⟩ := k2
  simp [Cond.value, ha, Term.eval] at hq
  rw [ha, hq]
theorem own_eqR {t u : Term} {b : Addr} (hq : (Jvm.Cond.eq t u).value args s none s [] = some true) (hu : u.eval args s none [] s = some (.ref b)) : t.eval args s none [] s = some (.ref b) := by
  obtain ⟨x, y, ha, hb, k1, k2⟩ := cmp_v (Or.inl hq)
  cases hu.symm.trans hb
  have q := gotT (eq_R ha hb k2.2 rfl) hq
  rw [ha, q]
theorem own_lenA {t : Term} {cl : Cell} {q : Int32} (ht : t.eval args s none [] s = some (.ref a)) (A : Arr s s.heap a cl ty) (hq : (Term.length t).eval args s none [] s = some (.int q)) : cl.slots.size < 2 ^ 31 ∧ cl.slots.size.toInt32 = q := by
  have ha := Arr.fin (U := s) (Vm.Alike.refl _) A
  by_cases hl : cl.slots.size < 2 ^ 31
  · rw [len_f ht ha hl] at hq
    exact ⟨hl, Value.int.inj (Option.some.inj hq)⟩
  · simp [Term.eval, ht, ha, hl] at hq
theorem own_ldR (X : Stand p l e R s m args below meth c T locs cells slots) (hx : p.tables.exec = Jvm.exec) (hZ : Z.Warmed39 s.vm) (eT : T.heap = h) (A : Arv Z h a k ty n vs dv) (hr : ty.isReference = true) {j : Int32} {v : Value} (hj : ¬ j < 0 ∧ j < n) (hv : vs.getD j.toNatClampNeg dv = v) {g : JFrame} (hg : g.method = m) {rest : List Value} (hs : g.stack = .int j :: .ref a :: rest) (hd : decode c.code g.pc = .ok (.aaload, 1)) :
    ∀ target, Steps p.tables e below (T.setTop { g with pc := g.pc + 1, stack := v :: rest }) target → Steps p.tables e below (T.setTop g) target := by
  obtain ⟨cl, Ar, -, S, N, H, -⟩ := A
  intro t k
  exact X.aaload hx (by rw [eT]; exact Ar.1) (State.isArrayOf_alike hZ.alike Ar.2.1) hr Ar.2.2 (inb_of S hj) (H.at (inb_of S hj) hv) hg hs hd t k
theorem own_nf {y y' : MethodName} (hc : y'.cls = y.cls) (w : (Jvm.Cond.instanceMethod y).before args s = true) (hn : NotFace s y) : NotFace s y' := fun r0 h0 => by
  obtain ⟨mk, methM, hnamed, -⟩ := Cond.instanceMethod_spec w
  obtain ⟨kr, h1, h2⟩ := hn mk hnamed
  have q1 := findClass_of_methodNamed hnamed
  have q2 := findClass_of_methodNamed h0
  rw [hc] at q2
  have q3 : mk.cls = r0.cls := Option.some.inj (q1.symm.trans q2)
  exact ⟨kr, q3 ▸ h1, h2⟩
theorem own_selp {y : MethodName} (w : (Jvm.Cond.instanceMethod y).before args s = true) (hn : NotFace s y) (hp : s.PrivateAt y) (hy : y.cls ≠ "java/lang/invoke/MethodHandle" ∧ y.cls ≠ "java/lang/invoke/VarHandle") : (Jvm.Cond.selects y.cls y y).before args s = true := by
  obtain ⟨mk, methM, hnamed, -⟩ := Cond.instanceMethod_spec w
  obtain ⟨kr, h1, h2⟩ := hn mk hnamed
  exact selects_self_of_private (findClass_of_methodNamed hnamed) h1 h2 hp w hy
theorem own_same {y : MethodName} (w : (Jvm.Cond.instanceMethod y).before args s = true) (hn : NotFace s y) (hy : y.cls ≠ "java/lang/invoke/MethodHandle" ∧ y.cls ≠ "java/lang/invoke/VarHandle") : (Jvm.Cond.sameMethod y.cls y.cls y.name y.desc).before args s = true := by
  obtain ⟨mk, methM, hnamed, -⟩ := Cond.instanceMethod_spec w
  obtain ⟨kr, h1, h2⟩ := hn mk hnamed
  have q1 := findClass_of_methodNamed hnamed
  have q2 := State.methodFound?_of_named hnamed hy
  have q3 : s.methodNamed? ⟨y.cls, y.name, y.desc⟩ = some mk := hnamed
  simp [Cond.before, Cond.holds, Cond.value, q1, q2, q3, h1, h2]
theorem own_stR (X : Stand p l e R s m args below meth c T locs cells slots) (hx : p.tables.exec = Jvm.exec) (hZ : Z.Warmed39 s.vm) (eT : T.heap = h) (A : Arv Z h a k ty n vs dv) (hr : ty.isReference = true) {j : Int32} {v : Value} {i : Nat} (F : Sto Z h a v) (hf : fits ty v = true) (hj : ¬ j < 0 ∧ j < n) (hi : j.toNatClampNeg = i) (hl : i < vs.length) {g : JFrame} (hg : g.method = m) {rest : List Value} (hs : g.stack = v :: .int j :: .ref a :: rest) (hd : decode c.code g.pc = .ok (.aastore, 1)) :
    ∃ T' h', Stand p l e R s m args below meth c T' (locs ++ [⟨a, j.toNatClampNeg⟩]) cells slots ∧ T'.heap = h' ∧ Wr h h' a j.toNatClampNeg v ∧ Arv Z h' a k ty n (vs.set i v) dv ∧ ∀ target, Steps p.tables e below (T'.setTop { g with pc := g.pc + 1, stack := rest }) target → Steps p.tables e below (T.setTop g) target := by
  obtain ⟨cl, Ar, q, S, N, H, G⟩ := A
  obtain ⟨T', h', X', e', W, st⟩ := stR X hx hZ eT Ar (inb_of S hj) hr F hg hs hd
  exact ⟨T', h', X', e', W, Arv.set Ar q S N H G hf W i hi hl, st⟩
theorem own_stoA {y : Addr} {C : String} {t0 : FieldType} (A : Arv Z h a k t0 n vs dv) (O : OvrA Z k ty C) (I : Ins Z h y C true) : Sto Z h a (.ref y) := by
  obtain ⟨cl, Ar, q, -⟩ := A
  exact Sto.ofVA Ar q O I
theorem own_stoV {y : Addr} {C : String} {t0 : FieldType} (A : Arv Z h a k t0 n vs dv) (O : Ovr Z k C) (I : Ins Z h y C true) : Sto Z h a (.ref y) := by
  obtain ⟨cl, Ar, q, -⟩ := A
  exact Sto.ofV Ar q O I
theorem own_getD_cp (vs vd : List Value) (dv dd : Value) (sp dp nn i : Nat) : ((vd ++ List.replicate (dp + nn) dd).take dp ++ ((List.range nn).map fun i => vs.getD (sp + i) dv) ++ (vd ++ List.replicate (dp + nn) dd).drop (dp + nn)).getD i dd = if dp ≤ i ∧ i < dp + nn then vs.getD (sp + (i - dp)) dv else vd.getD i dd := by
  have hlen : dp ≤ (vd ++ List.replicate (dp + nn) dd).length := by simp; omega
  have hpad := pad_rep vd dd (dp + nn) i
  by_cases h1 : i < dp
  · rw [if_neg (by omega), ← hpad]
    have e1 : ((vd ++ List.replicate (dp + nn) dd).take dp).length = dp := by rw [List.length_take]; omega
    rw [List.getD_eq_getElem?_getD, List.append_assoc, List.getElem?_append_left (by rw [e1]; exact h1), List.getElem?_take, if_pos h1, List.getD_eq_getElem?_getD]
  · by_cases h2 : i < dp + nn
    · rw [if_pos ⟨by omega, h2⟩]
      have e1 : ((vd ++ List.replicate (dp + nn) dd).take dp).length = dp := by rw [List.length_take]; omega
      rw [List.getD_eq_getElem?_getD, List.append_assoc, List.getElem?_append_right (by rw [e1]; omega), e1, List.getElem?_append_left (by simp; omega)]
      simp [show i - dp < nn by omega]
    · rw [if_neg (by omega), ← hpad]
      have e1 : ((vd ++ List.replicate (dp + nn) dd).take dp).length = dp := by rw [List.length_take]; omega
      rw [List.getD_eq_getElem?_getD, List.getElem?_append_right (by rw [List.length_append, e1]; simp; omega), List.getElem?_drop, List.getD_eq_getElem?_getD]
      congr 2
      rw [List.length_append, e1]; simp; omega
theorem own_cp {b : Addr} {a0 : Array Value} (X : Stand p l e R s m args below meth c T locs cells slots) (hx : p.tables.exec = Jvm.exec) (hZ : Z.Warmed39 s.vm) {own : String} {index : Nat} (hown : s.vm.findClass own = some m.cls)
    (w1 : (Cond.methodLink own index Jvm.Stand.acN).before a0 Z = true) (w2 : (Cond.native Jvm.Stand.acN).before a0 Z = true) (w3 : (Cond.static Jvm.Stand.acN).before a0 Z = true) (w4 : (Cond.initialized "java/lang/System").before a0 Z = true) (eT : T.heap = h)
    {k' : ClassId} {z z' sp dp nn : Int32} {vd : List Value} {dd : Value} (A : Arv Z h a k ty z vs dv) (B : Arv Z h b k' ty z' vd dd) (hty : refKind ty = false)
    (h1 : 0 ≤ sp.toInt) (h2 : 0 ≤ dp.toInt) (h3 : 0 ≤ nn.toInt) (h4 : sp.toInt + nn.toInt ≤ z.toInt) (h5 : dp.toInt + nn.toInt ≤ z'.toInt) {n0 : Nat} (N : Fr n0 locs) (ge : n0 ≤ b)
    {g : JFrame} (hg : g.method = m) (hsize : g.locals.size = c.maxLocals) {rest : List Value} (hs : g.stack = .int nn :: .int dp :: .ref b :: .int sp :: .ref a :: rest) (hd : decode c.code g.pc = .ok (.invokestatic index, 3))
    (hf : 1 ≤ R.frames) {W : Nat} (hW : 2 * g.monitorRoom + (rest.map fun v => v.category).sum ≤ W) (hlo : W + 18 ≤ R.locals) :
    ∃ T' h' L vd', Stand p l e R s m args below meth c T' L cells slots ∧ T'.heap = h' ∧ Fr n0 L ∧ Keep h h' [b] ∧ Arv Z h' b k' ty z' vd' dd ∧ (∀ i : Nat, vd'.getD i dd = if dp.toNatClampNeg ≤ i ∧ i < dp.toNatClampNeg + nn.toNatClampNeg then vs.getD (sp.toNatClampNeg + (i - dp.toNatClampNeg)) dv else vd.getD i dd) ∧
      ∀ target, Steps p.tables e below (T'.setTop { g with pc := g.pc + 3, stack := rest }) target → Steps p.tables e below (T.setTop g) target := by
  have e0 : (0 : Int32).toInt = 0 := by decide
  have lt : ∀ {x : Int32}, 0 ≤ x.toInt → ¬ x < 0 := fun q => by rw [Int32.lt_iff_toInt_lt]; omega
  have nz : ¬ z < 0 := lt (by omega)
  have nz' : ¬ z' < 0 := lt (by omega)
  have c1 := nat_of (lt h1); have c2 := nat_of (lt h2); have c3 := nat_of (lt h3); have c4 := nat_of nz; have c5 := nat_of nz'
  obtain ⟨T', h', L, X', e', N', K', V', st⟩ := cpA X hx hZ hown w1 w2 w3 w4 eT A (B.pad (pad_rep vd dd (dp.toNatClampNeg + nn.toNatClampNeg))) (us := _) (Or.inl ⟨rfl, hty⟩) (lt h1) (lt h2) (lt h3) (by omega) (by omega) rfl (by simp) N ge hg hsize hs hd hf hW (by exact hlo)
  exact ⟨T', h', L, _, X', e', N', K', V', fun i => own_getD_cp vs vd dv dd _ _ _ i, st⟩
end Own
end Jvm.RoadKit

namespace Jvm.Pilot.@@N@@
open Jvm Jvm.ClassFile Sem Op Lib Jvm.Free Jvm.Stand Jvm.LawKit Jvm.RoadKit Bundle Jvm.Pilot.@@N@@.Jvm.D
theorem pd_0 : parseMethodDescriptor "(II)[B" = some ⟨[.int, .int], some (.array .byte)⟩ := by decide +kernel
theorem pd_1 : parseMethodDescriptor "([BII)Z" = some ⟨[(.array .byte), .int, .int], some .boolean⟩ := by decide +kernel

theorem own_hi (s : Int32) (h0 : 0 ≤ s.toInt) (h1 : s.toInt < 65536) : ((((s.toUInt32 >>> ((8 : Int32) &&& 31).toUInt32).toInt32).toInt8.toInt32).toInt8.toInt32 &&& (255 : Int32)) = s / (256 : Int32) := by
  apply Int32.toInt_inj.mp
  have a1 := c_mask ((((s.toUInt32 >>> ((8 : Int32) &&& 31).toUInt32).toInt32).toInt8.toInt32).toInt8.toInt32) 255 8 (by decide) (by decide)
  have a2 := c_i2b (((s.toUInt32 >>> ((8 : Int32) &&& 31).toUInt32).toInt32).toInt8.toInt32)
  have a3 := c_i2b ((s.toUInt32 >>> ((8 : Int32) &&& 31).toUInt32).toInt32)
  have a4 := c_iushr s 8 8 (by decide) (by decide)
  have a5 := (c_idiv s 256 256 (by decide) (by decide)).1 h0
  omega
theorem own_lo (s : Int32) (h0 : 0 ≤ s.toInt) (h1 : s.toInt < 65536) : (((s.toInt8.toInt32).toInt8.toInt32) &&& (255 : Int32)) = s % (256 : Int32) := by
  apply Int32.toInt_inj.mp
  have a1 := c_mask ((s.toInt8.toInt32).toInt8.toInt32) 255 8 (by decide) (by decide)
  have a2 := c_i2b (s.toInt8.toInt32)
  have a3 := c_i2b s
  have a5 := (c_irem s 256 256 (by decide)).1 h0
  omega
theorem own_rng (x : Int32) : 0 ≤ (x &&& (65535 : Int32)).toInt ∧ (x &&& (65535 : Int32)).toInt < 65536 := by
  have a1 := c_mask x 65535 16 (by decide) (by decide)
  omega

theorem d1_0 : decode prog_7_method_2_code 0 = .ok (.bipush 14, 2) := by decide +kernel
theorem d1_2 : decode prog_7_method_2_code 2 = .ok (.newarray .byte, 2) := by decide +kernel
theorem d1_4 : decode prog_7_method_2_code 4 = .ok (.dup, 1) := by decide +kernel
theorem d1_5 : decode prog_7_method_2_code 5 = .ok (.iconst 0, 1) := by decide +kernel
theorem d1_6 : decode prog_7_method_2_code 6 = .ok (.bipush 98, 2) := by decide +kernel
theorem d1_8 : decode prog_7_method_2_code 8 = .ok (.bastore, 1) := by decide +kernel
theorem d1_9 : decode prog_7_method_2_code 9 = .ok (.dup, 1) := by decide +kernel
theorem d1_10 : decode prog_7_method_2_code 10 = .ok (.iconst 1, 1) := by decide +kernel
theorem d1_11 : decode prog_7_method_2_code 11 = .ok (.bipush 12, 2) := by decide +kernel
theorem d1_13 : decode prog_7_method_2_code 13 = .ok (.bastore, 1) := by decide +kernel
theorem d1_14 : decode prog_7_method_2_code 14 = .ok (.dup, 1) := by decide +kernel
theorem d1_15 : decode prog_7_method_2_code 15 = .ok (.iconst 2, 1) := by decide +kernel
theorem d1_16 : decode prog_7_method_2_code 16 = .ok (.bipush (-128), 2) := by decide +kernel
theorem d1_18 : decode prog_7_method_2_code 18 = .ok (.bastore, 1) := by decide +kernel
theorem d1_19 : decode prog_7_method_2_code 19 = .ok (.dup, 1) := by decide +kernel
theorem d1_20 : decode prog_7_method_2_code 20 = .ok (.iconst 3, 1) := by decide +kernel
theorem d1_21 : decode prog_7_method_2_code 21 = .ok (.iconst 2, 1) := by decide +kernel
theorem d1_22 : decode prog_7_method_2_code 22 = .ok (.bastore, 1) := by decide +kernel
theorem d1_23 : decode prog_7_method_2_code 23 = .ok (.dup, 1) := by decide +kernel
theorem d1_24 : decode prog_7_method_2_code 24 = .ok (.iconst 4, 1) := by decide +kernel
theorem d1_25 : decode prog_7_method_2_code 25 = .ok (.iload_n 1, 1) := by decide +kernel
theorem d1_26 : decode prog_7_method_2_code 26 = .ok (.bipush 8, 2) := by decide +kernel
theorem d1_28 : decode prog_7_method_2_code 28 = .ok (.iushr, 1) := by decide +kernel
theorem d1_29 : decode prog_7_method_2_code 29 = .ok (.i2b, 1) := by decide +kernel
theorem d1_30 : decode prog_7_method_2_code 30 = .ok (.bastore, 1) := by decide +kernel
theorem d1_31 : decode prog_7_method_2_code 31 = .ok (.dup, 1) := by decide +kernel
theorem d1_32 : decode prog_7_method_2_code 32 = .ok (.iconst 5, 1) := by decide +kernel
theorem d1_33 : decode prog_7_method_2_code 33 = .ok (.iload_n 1, 1) := by decide +kernel
theorem d1_34 : decode prog_7_method_2_code 34 = .ok (.i2b, 1) := by decide +kernel
theorem d1_35 : decode prog_7_method_2_code 35 = .ok (.bastore, 1) := by decide +kernel
theorem d1_36 : decode prog_7_method_2_code 36 = .ok (.dup, 1) := by decide +kernel
theorem d1_37 : decode prog_7_method_2_code 37 = .ok (.bipush 6, 2) := by decide +kernel
theorem d1_39 : decode prog_7_method_2_code 39 = .ok (.bipush (-126), 2) := by decide +kernel
theorem d1_41 : decode prog_7_method_2_code 41 = .ok (.bastore, 1) := by decide +kernel
theorem d1_42 : decode prog_7_method_2_code 42 = .ok (.dup, 1) := by decide +kernel
theorem d1_43 : decode prog_7_method_2_code 43 = .ok (.bipush 7, 2) := by decide +kernel
theorem d1_45 : decode prog_7_method_2_code 45 = .ok (.iconst 2, 1) := by decide +kernel
theorem d1_46 : decode prog_7_method_2_code 46 = .ok (.bastore, 1) := by decide +kernel
theorem d1_47 : decode prog_7_method_2_code 47 = .ok (.dup, 1) := by decide +kernel
theorem d1_48 : decode prog_7_method_2_code 48 = .ok (.bipush 8, 2) := by decide +kernel
theorem d1_50 : decode prog_7_method_2_code 50 = .ok (.bipush 65, 2) := by decide +kernel
theorem d1_52 : decode prog_7_method_2_code 52 = .ok (.bastore, 1) := by decide +kernel
theorem d1_53 : decode prog_7_method_2_code 53 = .ok (.dup, 1) := by decide +kernel
theorem d1_54 : decode prog_7_method_2_code 54 = .ok (.bipush 9, 2) := by decide +kernel
theorem d1_56 : decode prog_7_method_2_code 56 = .ok (.bipush 33, 2) := by decide +kernel
theorem d1_58 : decode prog_7_method_2_code 58 = .ok (.bastore, 1) := by decide +kernel
theorem d1_59 : decode prog_7_method_2_code 59 = .ok (.dup, 1) := by decide +kernel
theorem d1_60 : decode prog_7_method_2_code 60 = .ok (.bipush 10, 2) := by decide +kernel
theorem d1_62 : decode prog_7_method_2_code 62 = .ok (.bipush (-125), 2) := by decide +kernel
theorem d1_64 : decode prog_7_method_2_code 64 = .ok (.bastore, 1) := by decide +kernel
theorem d1_65 : decode prog_7_method_2_code 65 = .ok (.dup, 1) := by decide +kernel
theorem d1_66 : decode prog_7_method_2_code 66 = .ok (.bipush 11, 2) := by decide +kernel
theorem d1_68 : decode prog_7_method_2_code 68 = .ok (.iconst 2, 1) := by decide +kernel
theorem d1_69 : decode prog_7_method_2_code 69 = .ok (.bastore, 1) := by decide +kernel
theorem d1_70 : decode prog_7_method_2_code 70 = .ok (.dup, 1) := by decide +kernel
theorem d1_71 : decode prog_7_method_2_code 71 = .ok (.bipush 12, 2) := by decide +kernel
theorem d1_73 : decode prog_7_method_2_code 73 = .ok (.iload_n 0, 1) := by decide +kernel
theorem d1_74 : decode prog_7_method_2_code 74 = .ok (.bipush 8, 2) := by decide +kernel
theorem d1_76 : decode prog_7_method_2_code 76 = .ok (.iushr, 1) := by decide +kernel
theorem d1_77 : decode prog_7_method_2_code 77 = .ok (.i2b, 1) := by decide +kernel
theorem d1_78 : decode prog_7_method_2_code 78 = .ok (.bastore, 1) := by decide +kernel
theorem d1_79 : decode prog_7_method_2_code 79 = .ok (.dup, 1) := by decide +kernel
theorem d1_80 : decode prog_7_method_2_code 80 = .ok (.bipush 13, 2) := by decide +kernel
theorem d1_82 : decode prog_7_method_2_code 82 = .ok (.iload_n 0, 1) := by decide +kernel
theorem d1_83 : decode prog_7_method_2_code 83 = .ok (.i2b, 1) := by decide +kernel
theorem d1_84 : decode prog_7_method_2_code 84 = .ok (.bastore, 1) := by decide +kernel
theorem d1_85 : decode prog_7_method_2_code 85 = .ok (.areturn, 1) := by decide +kernel
theorem pn_0 : plainName "com/example/aturan/aturan/card/FileControl" = true := by first | (simp [plainName, overriddenIn]; done) | decide +kernel
theorem ef_1_II (m : MethodId) (x0 : Int32) (x1 : Int32) : entryFrame m #[(.int x0), (.int x1)] 2 = mkF m 0 #[.val (.int x0), .val (.int x1)] [] := by first | (simp [entryFrame, mkF, argsToLocals, Value.category]; done) | rfl
def Q_rm1 (Z : State) (x0 : Int32) (x1 : Int32) (h0 : Heap) (n0 : Nat) (v : Option Value) (h : Heap) (L : List Loc) : Prop := ∃ b : Addr, ∃ k : ClassId, v = some (.ref b) ∧ Fr n0 L ∧ Keep h0 h [] ∧ h0.size ≤ b ∧ Arv Z h b k .byte (14 : Int32) [(.int ((98 : Int32).toInt8.toInt32)), (.int ((12 : Int32).toInt8.toInt32)), (.int ((-128 : Int32).toInt8.toInt32)), (.int ((2 : Int32).toInt8.toInt32)), (.int ((((x1.toUInt32 >>> ((8 : Int32) &&& 31).toUInt32).toInt32).toInt8.toInt32).toInt8.toInt32)), (.int ((x1.toInt8.toInt32).toInt8.toInt32)), (.int ((-126 : Int32).toInt8.toInt32)), (.int ((2 : Int32).toInt8.toInt32)), (.int ((65 : Int32).toInt8.toInt32)), (.int ((33 : Int32).toInt8.toInt32)), (.int ((-125 : Int32).toInt8.toInt32)), (.int ((2 : Int32).toInt8.toInt32)), (.int ((((x0.toUInt32 >>> ((8 : Int32) &&& 31).toUInt32).toInt32).toInt8.toInt32).toInt8.toInt32)), (.int ((x0.toInt8.toInt32).toInt8.toInt32))] (.int (0 : Int32))
set_option maxRecDepth 65536 in
set_option maxHeartbeats 40000000 in
theorem rm1 (l : Launch) (Z : State) (a0 : Array Value) (hw : ∀ d ∈ tables_1, d.before a0 Z = true) (ws : List Jvm.Cond) (x0 : Int32) (x1 : Int32) (h0 : Heap) (n0 : Nat) (Z0 : n0 ≤ h0.size) :
    MetFree l (⟨"com/example/aturan/aturan/card/FileControl", "describe", "(II)[B"⟩ : MethodName) (head1 (Jvm.Cond.code (⟨"com/example/aturan/aturan/card/FileControl", "describe", "(II)[B"⟩ : MethodName) prog_7_method_2_code 2 (some (.array .byte)) :: ws) ({ frames := 0, cells := 1, slots := 14, locals := 0 } : Room)) (fun a U => a = #[(.int x0), (.int x1)] ∧ Z.Warmed39 U.vm ∧ U.heap = h0) (fun _ _ _ _ _ => True) (fun _ U o U' => ∃ v L, o = .returned v ∧ Q_rm1 Z x0 x1 h0 n0 v U'.heap L ∧ FrameEnd U o U' L ({ frames := 0, cells := 1, slots := 14, locals := 0 } : Room).cells ({ frames := 0, cells := 1, slots := 14, locals := 0 } : Room).slots) := by
  refine MetFree.of_bodySF (plainFor_of_name pn_0) hisR ?_
  intro p e s m args below meth c s₁ Bd hml0 hP hK
  obtain ⟨rfl, hZ, hh⟩ := hP
  have hx := Bd.exec
  have hby := Bd.bytes
  have hml : c.maxLocals = 2 := hml0
  have hown : s.vm.findClass "com/example/aturan/aturan/card/FileControl" = some m.cls := findClass_of_methodNamed Bd.named
  have hnm := (name_of_methodNamed Bd.named Bd.method).1
  have X0 : Stand p l e ({ frames := 0, cells := 1, slots := 14, locals := 0 } : Room) s m #[(.int x0), (.int x1)] below meth c s₁ [] 0 0 := Stand.of_body Bd
  have e0 : s₁.heap = h0 := by rw [← hh, Bd.state]; rfl
  have N0 := Fr.nil n0
  show own_Ends p e below s ({ frames := 0, cells := 1, slots := 14, locals := 0 } : Room).cells ({ frames := 0, cells := 1, slots := 14, locals := 0 } : Room).slots (Q_rm1 Z x0 x1 h0 n0) (s₁.setTop (entryFrame m #[(.int x0), (.int x1)] 2))
  rw [ef_1_II]
  refine own_step (st' := s₁.setTop (mkF m 2 #[.val (.int x0), .val (.int x1)] [(.int (14 : Int32))])) (fun t k => XS.bipush X0.here hx rfl (hb hby d1_0) k) ?_
  obtain ⟨T1, h1, k1, X1, e1, E1, A1, st1⟩ := newP X0 hx hZ (hw _ (List.mem_of_getElem? (i := 5) rfl)) e0 (g := (mkF m 2 #[.val (.int x0), .val (.int x1)] [(.int (14 : Int32))])) rfl (hb hby d1_2) rfl (by decide) (cap := 14) (by decide) (by decide) (by decide) (by decide)
  obtain ⟨b1, g1⟩ : ∃ z, z = h0.size := ⟨_, rfl⟩
  rw [← g1] at A1 st1
  have g_b1 : n0 ≤ b1 := Nat.le_trans Z0 (Nat.le_of_eq g1.symm)
  have sz_b1 : h0.size ≤ b1 := Nat.le_trans (Keep.refl h0 []).1 (Nat.le_of_eq g1.symm)
  have K2 : Keep h0 h1 [] := (Keep.refl h0 []).ext E1
  have Z3 : n0 ≤ h1.size := Nat.le_trans Z0 E1.1
  have V1 : Arv Z h1 b1 k1 .byte (14 : Int32) [(.int (0 : Int32)), (.int (0 : Int32)), (.int (0 : Int32)), (.int (0 : Int32)), (.int (0 : Int32)), (.int (0 : Int32)), (.int (0 : Int32)), (.int (0 : Int32)), (.int (0 : Int32)), (.int (0 : Int32)), (.int (0 : Int32)), (.int (0 : Int32)), (.int (0 : Int32)), (.int (0 : Int32))] (.int (0 : Int32)) := (Arv.new A1 (by decide)).pad (pad_rep [] (.int (0 : Int32)) 14)
  refine own_step (st' := T1.setTop (mkF m 4 #[.val (.int x0), .val (.int x1)] [(.ref b1)])) st1 ?_
  refine own_step (st' := T1.setTop (mkF m 5 #[.val (.int x0), .val (.int x1)] [(.ref b1), (.ref b1)])) (fun t k => XS.dup X1.here hx rfl (hb hby d1_4) rfl rfl k) ?_
  refine own_step (st' := T1.setTop (mkF m 6 #[.val (.int x0), .val (.int x1)] [(.int (0 : Int32)), (.ref b1), (.ref b1)])) (fun t k => XS.iconst X1.here hx rfl (hb hby d1_5) k) ?_
  refine own_step (st' := T1.setTop (mkF m 8 #[.val (.int x0), .val (.int x1)] [(.int (98 : Int32)), (.int (0 : Int32)), (.ref b1), (.ref b1)])) (fun t k => XS.bipush X1.here hx rfl (hb hby d1_6) k) ?_
  obtain ⟨T4, h4, X4, e4, W4, V4, st4⟩ := own_stB X1 hx hZ e1 V1 (j := (0 : Int32)) (i := 0) ⟨by decide, by decide⟩ rfl (Nat.le_of_ble_eq_true rfl) (g := (mkF m 8 #[.val (.int x0), .val (.int x1)] [(.int (98 : Int32)), (.int (0 : Int32)), (.ref b1), (.ref b1)])) rfl rfl (hb hby d1_8)
  have V4 : Arv Z h4 b1 k1 .byte (14 : Int32) [(.int ((98 : Int32).toInt8.toInt32)), (.int (0 : Int32)), (.int (0 : Int32)), (.int (0 : Int32)), (.int (0 : Int32)), (.int (0 : Int32)), (.int (0 : Int32)), (.int (0 : Int32)), (.int (0 : Int32)), (.int (0 : Int32)), (.int (0 : Int32)), (.int (0 : Int32)), (.int (0 : Int32)), (.int (0 : Int32))] (.int (0 : Int32)) := V4
  have K5 : Keep h0 h4 [] := K2.wr W4 (Or.inr sz_b1)
  have Z6 : n0 ≤ h4.size := Nat.le_trans Z3 (Keep.of_wr W4).1
  have N7 := Fr.snoc X4 N0 g_b1
  refine own_step (st' := T4.setTop (mkF m 9 #[.val (.int x0), .val (.int x1)] [(.ref b1)])) st4 ?_
  refine own_step (st' := T4.setTop (mkF m 10 #[.val (.int x0), .val (.int x1)] [(.ref b1), (.ref b1)])) (fun t k => XS.dup X4.here hx rfl (hb hby d1_9) rfl rfl k) ?_
  refine own_step (st' := T4.setTop (mkF m 11 #[.val (.int x0), .val (.int x1)] [(.int (1 : Int32)), (.ref b1), (.ref b1)])) (fun t k => XS.iconst X4.here hx rfl (hb hby d1_10) k) ?_
  refine own_step (st' := T4.setTop (mkF m 13 #[.val (.int x0), .val (.int x1)] [(.int (12 : Int32)), (.int (1 : Int32)), (.ref b1), (.ref b1)])) (fun t k => XS.bipush X4.here hx rfl (hb hby d1_11) k) ?_
  obtain ⟨T8, h8, X8, e8, W8, V8, st8⟩ := own_stB X4 hx hZ e4 V4 (j := (1 : Int32)) (i := 1) ⟨by decide, by decide⟩ rfl (Nat.le_of_ble_eq_true rfl) (g := (mkF m 13 #[.val (.int x0), .val (.int x1)] [(.int (12 : Int32)), (.int (1 : Int32)), (.ref b1), (.ref b1)])) rfl rfl (hb hby d1_13)
  have V8 : Arv Z h8 b1 k1 .byte (14 : Int32) [(.int ((98 : Int32).toInt8.toInt32)), (.int ((12 : Int32).toInt8.toInt32)), (.int (0 : Int32)), (.int (0 : Int32)), (.int (0 : Int32)), (.int (0 : Int32)), (.int (0 : Int32)), (.int (0 : Int32)), (.int (0 : Int32)), (.int (0 : Int32)), (.int (0 : Int32)), (.int (0 : Int32)), (.int (0 : Int32)), (.int (0 : Int32))] (.int (0 : Int32)) := V8
  have K9 : Keep h0 h8 [] := K5.wr W8 (Or.inr sz_b1)
  have Z10 : n0 ≤ h8.size := Nat.le_trans Z6 (Keep.of_wr W8).1
  have N11 := Fr.snoc X8 N7 g_b1
  refine own_step (st' := T8.setTop (mkF m 14 #[.val (.int x0), .val (.int x1)] [(.ref b1)])) st8 ?_
  refine own_step (st' := T8.setTop (mkF m 15 #[.val (.int x0), .val (.int x1)] [(.ref b1), (.ref b1)])) (fun t k => XS.dup X8.here hx rfl (hb hby d1_14) rfl rfl k) ?_
  refine own_step (st' := T8.setTop (mkF m 16 #[.val (.int x0), .val (.int x1)] [(.int (2 : Int32)), (.ref b1), (.ref b1)])) (fun t k => XS.iconst X8.here hx rfl (hb hby d1_15) k) ?_
  refine own_step (st' := T8.setTop (mkF m 18 #[.val (.int x0), .val (.int x1)] [(.int (-128 : Int32)), (.int (2 : Int32)), (.ref b1), (.ref b1)])) (fun t k => XS.bipush X8.here hx rfl (hb hby d1_16) k) ?_
  obtain ⟨T12, h12, X12, e12, W12, V12, st12⟩ := own_stB X8 hx hZ e8 V8 (j := (2 : Int32)) (i := 2) ⟨by decide, by decide⟩ rfl (Nat.le_of_ble_eq_true rfl) (g := (mkF m 18 #[.val (.int x0), .val (.int x1)] [(.int (-128 : Int32)), (.int (2 : Int32)), (.ref b1), (.ref b1)])) rfl rfl (hb hby d1_18)
  have V12 : Arv Z h12 b1 k1 .byte (14 : Int32) [(.int ((98 : Int32).toInt8.toInt32)), (.int ((12 : Int32).toInt8.toInt32)), (.int ((-128 : Int32).toInt8.toInt32)), (.int (0 : Int32)), (.int (0 : Int32)), (.int (0 : Int32)), (.int (0 : Int32)), (.int (0 : Int32)), (.int (0 : Int32)), (.int (0 : Int32)), (.int (0 : Int32)), (.int (0 : Int32)), (.int (0 : Int32)), (.int (0 : Int32))] (.int (0 : Int32)) := V12
  have K13 : Keep h0 h12 [] := K9.wr W12 (Or.inr sz_b1)
  have Z14 : n0 ≤ h12.size := Nat.le_trans Z10 (Keep.of_wr W12).1
  have N15 := Fr.snoc X12 N11 g_b1
  refine own_step (st' := T12.setTop (mkF m 19 #[.val (.int x0), .val (.int x1)] [(.ref b1)])) st12 ?_
  refine own_step (st' := T12.setTop (mkF m 20 #[.val (.int x0), .val (.int x1)] [(.ref b1), (.ref b1)])) (fun t k => XS.dup X12.here hx rfl (hb hby d1_19) rfl rfl k) ?_
  refine own_step (st' := T12.setTop (mkF m 21 #[.val (.int x0), .val (.int x1)] [(.int (3 : Int32)), (.ref b1), (.ref b1)])) (fun t k => XS.iconst X12.here hx rfl (hb hby d1_20) k) ?_
  refine own_step (st' := T12.setTop (mkF m 22 #[.val (.int x0), .val (.int x1)] [(.int (2 : Int32)), (.int (3 : Int32)), (.ref b1), (.ref b1)])) (fun t k => XS.iconst X12.here hx rfl (hb hby d1_21) k) ?_
  obtain ⟨T16, h16, X16, e16, W16, V16, st16⟩ := own_stB X12 hx hZ e12 V12 (j := (3 : Int32)) (i := 3) ⟨by decide, by decide⟩ rfl (Nat.le_of_ble_eq_true rfl) (g := (mkF m 22 #[.val (.int x0), .val (.int x1)] [(.int (2 : Int32)), (.int (3 : Int32)), (.ref b1), (.ref b1)])) rfl rfl (hb hby d1_22)
  have V16 : Arv Z h16 b1 k1 .byte (14 : Int32) [(.int ((98 : Int32).toInt8.toInt32)), (.int ((12 : Int32).toInt8.toInt32)), (.int ((-128 : Int32).toInt8.toInt32)), (.int ((2 : Int32).toInt8.toInt32)), (.int (0 : Int32)), (.int (0 : Int32)), (.int (0 : Int32)), (.int (0 : Int32)), (.int (0 : Int32)), (.int (0 : Int32)), (.int (0 : Int32)), (.int (0 : Int32)), (.int (0 : Int32)), (.int (0 : Int32))] (.int (0 : Int32)) := V16
  have K17 : Keep h0 h16 [] := K13.wr W16 (Or.inr sz_b1)
  have Z18 : n0 ≤ h16.size := Nat.le_trans Z14 (Keep.of_wr W16).1
  have N19 := Fr.snoc X16 N15 g_b1
  refine own_step (st' := T16.setTop (mkF m 23 #[.val (.int x0), .val (.int x1)] [(.ref b1)])) st16 ?_
  refine own_step (st' := T16.setTop (mkF m 24 #[.val (.int x0), .val (.int x1)] [(.ref b1), (.ref b1)])) (fun t k => XS.dup X16.here hx rfl (hb hby d1_23) rfl rfl k) ?_
  refine own_step (st' := T16.setTop (mkF m 25 #[.val (.int x0), .val (.int x1)] [(.int (4 : Int32)), (.ref b1), (.ref b1)])) (fun t k => XS.iconst X16.here hx rfl (hb hby d1_24) k) ?_
  refine own_step (st' := T16.setTop (mkF m 26 #[.val (.int x0), .val (.int x1)] [(.int x1), (.int (4 : Int32)), (.ref b1), (.ref b1)])) (fun t k => XS.iloadN X16.here hx rfl (hb hby d1_25) rfl k) ?_
  refine own_step (st' := T16.setTop (mkF m 28 #[.val (.int x0), .val (.int x1)] [(.int (8 : Int32)), (.int x1), (.int (4 : Int32)), (.ref b1), (.ref b1)])) (fun t k => XS.bipush X16.here hx rfl (hb hby d1_26) k) ?_
  refine own_step (st' := T16.setTop (mkF m 29 #[.val (.int x0), .val (.int x1)] [(.int ((x1.toUInt32 >>> ((8 : Int32) &&& 31).toUInt32).toInt32)), (.int (4 : Int32)), (.ref b1), (.ref b1)])) (fun t k => XS.iushr X16.here hx rfl (hb hby d1_28) rfl k) ?_
  refine own_step (st' := T16.setTop (mkF m 30 #[.val (.int x0), .val (.int x1)] [(.int (((x1.toUInt32 >>> ((8 : Int32) &&& 31).toUInt32).toInt32).toInt8.toInt32)), (.int (4 : Int32)), (.ref b1), (.ref b1)])) (fun t k => XS.i2b X16.here hx rfl (hb hby d1_29) rfl k) ?_
  obtain ⟨T20, h20, X20, e20, W20, V20, st20⟩ := own_stB X16 hx hZ e16 V16 (j := (4 : Int32)) (i := 4) ⟨by decide, by decide⟩ rfl (Nat.le_of_ble_eq_true rfl) (g := (mkF m 30 #[.val (.int x0), .val (.int x1)] [(.int (((x1.toUInt32 >>> ((8 : Int32) &&& 31).toUInt32).toInt32).toInt8.toInt32)), (.int (4 : Int32)), (.ref b1), (.ref b1)])) rfl rfl (hb hby d1_30)
  have V20 : Arv Z h20 b1 k1 .byte (14 : Int32) [(.int ((98 : Int32).toInt8.toInt32)), (.int ((12 : Int32).toInt8.toInt32)), (.int ((-128 : Int32).toInt8.toInt32)), (.int ((2 : Int32).toInt8.toInt32)), (.int ((((x1.toUInt32 >>> ((8 : Int32) &&& 31).toUInt32).toInt32).toInt8.toInt32).toInt8.toInt32)), (.int (0 : Int32)), (.int (0 : Int32)), (.int (0 : Int32)), (.int (0 : Int32)), (.int (0 : Int32)), (.int (0 : Int32)), (.int (0 : Int32)), (.int (0 : Int32)), (.int (0 : Int32))] (.int (0 : Int32)) := V20
  have K21 : Keep h0 h20 [] := K17.wr W20 (Or.inr sz_b1)
  have Z22 : n0 ≤ h20.size := Nat.le_trans Z18 (Keep.of_wr W20).1
  have N23 := Fr.snoc X20 N19 g_b1
  refine own_step (st' := T20.setTop (mkF m 31 #[.val (.int x0), .val (.int x1)] [(.ref b1)])) st20 ?_
  refine own_step (st' := T20.setTop (mkF m 32 #[.val (.int x0), .val (.int x1)] [(.ref b1), (.ref b1)])) (fun t k => XS.dup X20.here hx rfl (hb hby d1_31) rfl rfl k) ?_
  refine own_step (st' := T20.setTop (mkF m 33 #[.val (.int x0), .val (.int x1)] [(.int (5 : Int32)), (.ref b1), (.ref b1)])) (fun t k => XS.iconst X20.here hx rfl (hb hby d1_32) k) ?_
  refine own_step (st' := T20.setTop (mkF m 34 #[.val (.int x0), .val (.int x1)] [(.int x1), (.int (5 : Int32)), (.ref b1), (.ref b1)])) (fun t k => XS.iloadN X20.here hx rfl (hb hby d1_33) rfl k) ?_
  refine own_step (st' := T20.setTop (mkF m 35 #[.val (.int x0), .val (.int x1)] [(.int (x1.toInt8.toInt32)), (.int (5 : Int32)), (.ref b1), (.ref b1)])) (fun t k => XS.i2b X20.here hx rfl (hb hby d1_34) rfl k) ?_
  obtain ⟨T24, h24, X24, e24, W24, V24, st24⟩ := own_stB X20 hx hZ e20 V20 (j := (5 : Int32)) (i := 5) ⟨by decide, by decide⟩ rfl (Nat.le_of_ble_eq_true rfl) (g := (mkF m 35 #[.val (.int x0), .val (.int x1)] [(.int (x1.toInt8.toInt32)), (.int (5 : Int32)), (.ref b1), (.ref b1)])) rfl rfl (hb hby d1_35)
  have V24 : Arv Z h24 b1 k1 .byte (14 : Int32) [(.int ((98 : Int32).toInt8.toInt32)), (.int ((12 : Int32).toInt8.toInt32)), (.int ((-128 : Int32).toInt8.toInt32)), (.int ((2 : Int32).toInt8.toInt32)), (.int ((((x1.toUInt32 >>> ((8 : Int32) &&& 31).toUInt32).toInt32).toInt8.toInt32).toInt8.toInt32)), (.int ((x1.toInt8.toInt32).toInt8.toInt32)), (.int (0 : Int32)), (.int (0 : Int32)), (.int (0 : Int32)), (.int (0 : Int32)), (.int (0 : Int32)), (.int (0 : Int32)), (.int (0 : Int32)), (.int (0 : Int32))] (.int (0 : Int32)) := V24
  have K25 : Keep h0 h24 [] := K21.wr W24 (Or.inr sz_b1)
  have Z26 : n0 ≤ h24.size := Nat.le_trans Z22 (Keep.of_wr W24).1
  have N27 := Fr.snoc X24 N23 g_b1
  refine own_step (st' := T24.setTop (mkF m 36 #[.val (.int x0), .val (.int x1)] [(.ref b1)])) st24 ?_
  refine own_step (st' := T24.setTop (mkF m 37 #[.val (.int x0), .val (.int x1)] [(.ref b1), (.ref b1)])) (fun t k => XS.dup X24.here hx rfl (hb hby d1_36) rfl rfl k) ?_
  refine own_step (st' := T24.setTop (mkF m 39 #[.val (.int x0), .val (.int x1)] [(.int (6 : Int32)), (.ref b1), (.ref b1)])) (fun t k => XS.bipush X24.here hx rfl (hb hby d1_37) k) ?_
  refine own_step (st' := T24.setTop (mkF m 41 #[.val (.int x0), .val (.int x1)] [(.int (-126 : Int32)), (.int (6 : Int32)), (.ref b1), (.ref b1)])) (fun t k => XS.bipush X24.here hx rfl (hb hby d1_39) k) ?_
  obtain ⟨T28, h28, X28, e28, W28, V28, st28⟩ := own_stB X24 hx hZ e24 V24 (j := (6 : Int32)) (i := 6) ⟨by decide, by decide⟩ rfl (Nat.le_of_ble_eq_true rfl) (g := (mkF m 41 #[.val (.int x0), .val (.int x1)] [(.int (-126 : Int32)), (.int (6 : Int32)), (.ref b1), (.ref b1)])) rfl rfl (hb hby d1_41)
  have V28 : Arv Z h28 b1 k1 .byte (14 : Int32) [(.int ((98 : Int32).toInt8.toInt32)), (.int ((12 : Int32).toInt8.toInt32)), (.int ((-128 : Int32).toInt8.toInt32)), (.int ((2 : Int32).toInt8.toInt32)), (.int ((((x1.toUInt32 >>> ((8 : Int32) &&& 31).toUInt32).toInt32).toInt8.toInt32).toInt8.toInt32)), (.int ((x1.toInt8.toInt32).toInt8.toInt32)), (.int ((-126 : Int32).toInt8.toInt32)), (.int (0 : Int32)), (.int (0 : Int32)), (.int (0 : Int32)), (.int (0 : Int32)), (.int (0 : Int32)), (.int (0 : Int32)), (.int (0 : Int32))] (.int (0 : Int32)) := V28
  have K29 : Keep h0 h28 [] := K25.wr W28 (Or.inr sz_b1)
  have Z30 : n0 ≤ h28.size := Nat.le_trans Z26 (Keep.of_wr W28).1
  have N31 := Fr.snoc X28 N27 g_b1
  refine own_step (st' := T28.setTop (mkF m 42 #[.val (.int x0), .val (.int x1)] [(.ref b1)])) st28 ?_
  refine own_step (st' := T28.setTop (mkF m 43 #[.val (.int x0), .val (.int x1)] [(.ref b1), (.ref b1)])) (fun t k => XS.dup X28.here hx rfl (hb hby d1_42) rfl rfl k) ?_
  refine own_step (st' := T28.setTop (mkF m 45 #[.val (.int x0), .val (.int x1)] [(.int (7 : Int32)), (.ref b1), (.ref b1)])) (fun t k => XS.bipush X28.here hx rfl (hb hby d1_43) k) ?_
  refine own_step (st' := T28.setTop (mkF m 46 #[.val (.int x0), .val (.int x1)] [(.int (2 : Int32)), (.int (7 : Int32)), (.ref b1), (.ref b1)])) (fun t k => XS.iconst X28.here hx rfl (hb hby d1_45) k) ?_
  obtain ⟨T32, h32, X32, e32, W32, V32, st32⟩ := own_stB X28 hx hZ e28 V28 (j := (7 : Int32)) (i := 7) ⟨by decide, by decide⟩ rfl (Nat.le_of_ble_eq_true rfl) (g := (mkF m 46 #[.val (.int x0), .val (.int x1)] [(.int (2 : Int32)), (.int (7 : Int32)), (.ref b1), (.ref b1)])) rfl rfl (hb hby d1_46)
  have V32 : Arv Z h32 b1 k1 .byte (14 : Int32) [(.int ((98 : Int32).toInt8.toInt32)), (.int ((12 : Int32).toInt8.toInt32)), (.int ((-128 : Int32).toInt8.toInt32)), (.int ((2 : Int32).toInt8.toInt32)), (.int ((((x1.toUInt32 >>> ((8 : Int32) &&& 31).toUInt32).toInt32).toInt8.toInt32).toInt8.toInt32)), (.int ((x1.toInt8.toInt32).toInt8.toInt32)), (.int ((-126 : Int32).toInt8.toInt32)), (.int ((2 : Int32).toInt8.toInt32)), (.int (0 : Int32)), (.int (0 : Int32)), (.int (0 : Int32)), (.int (0 : Int32)), (.int (0 : Int32)), (.int (0 : Int32))] (.int (0 : Int32)) := V32
  have K33 : Keep h0 h32 [] := K29.wr W32 (Or.inr sz_b1)
  have Z34 : n0 ≤ h32.size := Nat.le_trans Z30 (Keep.of_wr W32).1
  have N35 := Fr.snoc X32 N31 g_b1
  refine own_step (st' := T32.setTop (mkF m 47 #[.val (.int x0), .val (.int x1)] [(.ref b1)])) st32 ?_
  refine own_step (st' := T32.setTop (mkF m 48 #[.val (.int x0), .val (.int x1)] [(.ref b1), (.ref b1)])) (fun t k => XS.dup X32.here hx rfl (hb hby d1_47) rfl rfl k) ?_
  refine own_step (st' := T32.setTop (mkF m 50 #[.val (.int x0), .val (.int x1)] [(.int (8 : Int32)), (.ref b1), (.ref b1)])) (fun t k => XS.bipush X32.here hx rfl (hb hby d1_48) k) ?_
  refine own_step (st' := T32.setTop (mkF m 52 #[.val (.int x0), .val (.int x1)] [(.int (65 : Int32)), (.int (8 : Int32)), (.ref b1), (.ref b1)])) (fun t k => XS.bipush X32.here hx rfl (hb hby d1_50) k) ?_
  obtain ⟨T36, h36, X36, e36, W36, V36, st36⟩ := own_stB X32 hx hZ e32 V32 (j := (8 : Int32)) (i := 8) ⟨by decide, by decide⟩ rfl (Nat.le_of_ble_eq_true rfl) (g := (mkF m 52 #[.val (.int x0), .val (.int x1)] [(.int (65 : Int32)), (.int (8 : Int32)), (.ref b1), (.ref b1)])) rfl rfl (hb hby d1_52)
  have V36 : Arv Z h36 b1 k1 .byte (14 : Int32) [(.int ((98 : Int32).toInt8.toInt32)), (.int ((12 : Int32).toInt8.toInt32)), (.int ((-128 : Int32).toInt8.toInt32)), (.int ((2 : Int32).toInt8.toInt32)), (.int ((((x1.toUInt32 >>> ((8 : Int32) &&& 31).toUInt32).toInt32).toInt8.toInt32).toInt8.toInt32)), (.int ((x1.toInt8.toInt32).toInt8.toInt32)), (.int ((-126 : Int32).toInt8.toInt32)), (.int ((2 : Int32).toInt8.toInt32)), (.int ((65 : Int32).toInt8.toInt32)), (.int (0 : Int32)), (.int (0 : Int32)), (.int (0 : Int32)), (.int (0 : Int32)), (.int (0 : Int32))] (.int (0 : Int32)) := V36
  have K37 : Keep h0 h36 [] := K33.wr W36 (Or.inr sz_b1)
  have Z38 : n0 ≤ h36.size := Nat.le_trans Z34 (Keep.of_wr W36).1
  have N39 := Fr.snoc X36 N35 g_b1
  refine own_step (st' := T36.setTop (mkF m 53 #[.val (.int x0), .val (.int x1)] [(.ref b1)])) st36 ?_
  refine own_step (st' := T36.setTop (mkF m 54 #[.val (.int x0), .val (.int x1)] [(.ref b1), (.ref b1)])) (fun t k => XS.dup X36.here hx rfl (hb hby d1_53) rfl rfl k) ?_
  refine own_step (st' := T36.setTop (mkF m 56 #[.val (.int x0), .val (.int x1)] [(.int (9 : Int32)), (.ref b1), (.ref b1)])) (fun t k => XS.bipush X36.here hx rfl (hb hby d1_54) k) ?_
  refine own_step (st' := T36.setTop (mkF m 58 #[.val (.int x0), .val (.int x1)] [(.int (33 : Int32)), (.int (9 : Int32)), (.ref b1), (.ref b1)])) (fun t k => XS.bipush X36.here hx rfl (hb hby d1_56) k) ?_
  obtain ⟨T40, h40, X40, e40, W40, V40, st40⟩ := own_stB X36 hx hZ e36 V36 (j := (9 : Int32)) (i := 9) ⟨by decide, by decide⟩ rfl (Nat.le_of_ble_eq_true rfl) (g := (mkF m 58 #[.val (.int x0), .val (.int x1)] [(.int (33 : Int32)), (.int (9 : Int32)), (.ref b1), (.ref b1)])) rfl rfl (hb hby d1_58)
  have V40 : Arv Z h40 b1 k1 .byte (14 : Int32) [(.int ((98 : Int32).toInt8.toInt32)), (.int ((12 : Int32).toInt8.toInt32)), (.int ((-128 : Int32).toInt8.toInt32)), (.int ((2 : Int32).toInt8.toInt32)), (.int ((((x1.toUInt32 >>> ((8 : Int32) &&& 31).toUInt32).toInt32).toInt8.toInt32).toInt8.toInt32)), (.int ((x1.toInt8.toInt32).toInt8.toInt32)), (.int ((-126 : Int32).toInt8.toInt32)), (.int ((2 : Int32).toInt8.toInt32)), (.int ((65 : Int32).toInt8.toInt32)), (.int ((33 : Int32).toInt8.toInt32)), (.int (0 : Int32)), (.int (0 : Int32)), (.int (0 : Int32)), (.int (0 : Int32))] (.int (0 : Int32)) := V40
  have K41 : Keep h0 h40 [] := K37.wr W40 (Or.inr sz_b1)
  have Z42 : n0 ≤ h40.size := Nat.le_trans Z38 (Keep.of_wr W40).1
  have N43 := Fr.snoc X40 N39 g_b1
  refine own_step (st' := T40.setTop (mkF m 59 #[.val (.int x0), .val (.int x1)] [(.ref b1)])) st40 ?_
  refine own_step (st' := T40.setTop (mkF m 60 #[.val (.int x0), .val (.int x1)] [(.ref b1), (.ref b1)])) (fun t k => XS.dup X40.here hx rfl (hb hby d1_59) rfl rfl k) ?_
  refine own_step (st' := T40.setTop (mkF m 62 #[.val (.int x0), .val (.int x1)] [(.int (10 : Int32)), (.ref b1), (.ref b1)])) (fun t k => XS.bipush X40.here hx rfl (hb hby d1_60) k) ?_
  refine own_step (st' := T40.setTop (mkF m 64 #[.val (.int x0), .val (.int x1)] [(.int (-125 : Int32)), (.int (10 : Int32)), (.ref b1), (.ref b1)])) (fun t k => XS.bipush X40.here hx rfl (hb hby d1_62) k) ?_
  obtain ⟨T44, h44, X44, e44, W44, V44, st44⟩ := own_stB X40 hx hZ e40 V40 (j := (10 : Int32)) (i := 10) ⟨by decide, by decide⟩ rfl (Nat.le_of_ble_eq_true rfl) (g := (mkF m 64 #[.val (.int x0), .val (.int x1)] [(.int (-125 : Int32)), (.int (10 : Int32)), (.ref b1), (.ref b1)])) rfl rfl (hb hby d1_64)
  have V44 : Arv Z h44 b1 k1 .byte (14 : Int32) [(.int ((98 : Int32).toInt8.toInt32)), (.int ((12 : Int32).toInt8.toInt32)), (.int ((-128 : Int32).toInt8.toInt32)), (.int ((2 : Int32).toInt8.toInt32)), (.int ((((x1.toUInt32 >>> ((8 : Int32) &&& 31).toUInt32).toInt32).toInt8.toInt32).toInt8.toInt32)), (.int ((x1.toInt8.toInt32).toInt8.toInt32)), (.int ((-126 : Int32).toInt8.toInt32)), (.int ((2 : Int32).toInt8.toInt32)), (.int ((65 : Int32).toInt8.toInt32)), (.int ((33 : Int32).toInt8.toInt32)), (.int ((-125 : Int32).toInt8.toInt32)), (.int (0 : Int32)), (.int (0 : Int32)), (.int (0 : Int32))] (.int (0 : Int32)) := V44
  have K45 : Keep h0 h44 [] := K41.wr W44 (Or.inr sz_b1)
  have Z46 : n0 ≤ h44.size := Nat.le_trans Z42 (Keep.of_wr W44).1
  have N47 := Fr.snoc X44 N43 g_b1
  refine own_step (st' := T44.setTop (mkF m 65 #[.val (.int x0), .val (.int x1)] [(.ref b1)])) st44 ?_
  refine own_step (st' := T44.setTop (mkF m 66 #[.val (.int x0), .val (.int x1)] [(.ref b1), (.ref b1)])) (fun t k => XS.dup X44.here hx rfl (hb hby d1_65) rfl rfl k) ?_
  refine own_step (st' := T44.setTop (mkF m 68 #[.val (.int x0), .val (.int x1)] [(.int (11 : Int32)), (.ref b1), (.ref b1)])) (fun t k => XS.bipush X44.here hx rfl (hb hby d1_66) k) ?_
  refine own_step (st' := T44.setTop (mkF m 69 #[.val (.int x0), .val (.int x1)] [(.int (2 : Int32)), (.int (11 : Int32)), (.ref b1), (.ref b1)])) (fun t k => XS.iconst X44.here hx rfl (hb hby d1_68) k) ?_
  obtain ⟨T48, h48, X48, e48, W48, V48, st48⟩ := own_stB X44 hx hZ e44 V44 (j := (11 : Int32)) (i := 11) ⟨by decide, by decide⟩ rfl (Nat.le_of_ble_eq_true rfl) (g := (mkF m 69 #[.val (.int x0), .val (.int x1)] [(.int (2 : Int32)), (.int (11 : Int32)), (.ref b1), (.ref b1)])) rfl rfl (hb hby d1_69)
  have V48 : Arv Z h48 b1 k1 .byte (14 : Int32) [(.int ((98 : Int32).toInt8.toInt32)), (.int ((12 : Int32).toInt8.toInt32)), (.int ((-128 : Int32).toInt8.toInt32)), (.int ((2 : Int32).toInt8.toInt32)), (.int ((((x1.toUInt32 >>> ((8 : Int32) &&& 31).toUInt32).toInt32).toInt8.toInt32).toInt8.toInt32)), (.int ((x1.toInt8.toInt32).toInt8.toInt32)), (.int ((-126 : Int32).toInt8.toInt32)), (.int ((2 : Int32).toInt8.toInt32)), (.int ((65 : Int32).toInt8.toInt32)), (.int ((33 : Int32).toInt8.toInt32)), (.int ((-125 : Int32).toInt8.toInt32)), (.int ((2 : Int32).toInt8.toInt32)), (.int (0 : Int32)), (.int (0 : Int32))] (.int (0 : Int32)) := V48
  have K49 : Keep h0 h48 [] := K45.wr W48 (Or.inr sz_b1)
  have Z50 : n0 ≤ h48.size := Nat.le_trans Z46 (Keep.of_wr W48).1
  have N51 := Fr.snoc X48 N47 g_b1
  refine own_step (st' := T48.setTop (mkF m 70 #[.val (.int x0), .val (.int x1)] [(.ref b1)])) st48 ?_
  refine own_step (st' := T48.setTop (mkF m 71 #[.val (.int x0), .val (.int x1)] [(.ref b1), (.ref b1)])) (fun t k => XS.dup X48.here hx rfl (hb hby d1_70) rfl rfl k) ?_
  refine own_step (st' := T48.setTop (mkF m 73 #[.val (.int x0), .val (.int x1)] [(.int (12 : Int32)), (.ref b1), (.ref b1)])) (fun t k => XS.bipush X48.here hx rfl (hb hby d1_71) k) ?_
  refine own_step (st' := T48.setTop (mkF m 74 #[.val (.int x0), .val (.int x1)] [(.int x0), (.int (12 : Int32)), (.ref b1), (.ref b1)])) (fun t k => XS.iloadN X48.here hx rfl (hb hby d1_73) rfl k) ?_
  refine own_step (st' := T48.setTop (mkF m 76 #[.val (.int x0), .val (.int x1)] [(.int (8 : Int32)), (.int x0), (.int (12 : Int32)), (.ref b1), (.ref b1)])) (fun t k => XS.bipush X48.here hx rfl (hb hby d1_74) k) ?_
  refine own_step (st' := T48.setTop (mkF m 77 #[.val (.int x0), .val (.int x1)] [(.int ((x0.toUInt32 >>> ((8 : Int32) &&& 31).toUInt32).toInt32)), (.int (12 : Int32)), (.ref b1), (.ref b1)])) (fun t k => XS.iushr X48.here hx rfl (hb hby d1_76) rfl k) ?_
  refine own_step (st' := T48.setTop (mkF m 78 #[.val (.int x0), .val (.int x1)] [(.int (((x0.toUInt32 >>> ((8 : Int32) &&& 31).toUInt32).toInt32).toInt8.toInt32)), (.int (12 : Int32)), (.ref b1), (.ref b1)])) (fun t k => XS.i2b X48.here hx rfl (hb hby d1_77) rfl k) ?_
  obtain ⟨T52, h52, X52, e52, W52, V52, st52⟩ := own_stB X48 hx hZ e48 V48 (j := (12 : Int32)) (i := 12) ⟨by decide, by decide⟩ rfl (Nat.le_of_ble_eq_true rfl) (g := (mkF m 78 #[.val (.int x0), .val (.int x1)] [(.int (((x0.toUInt32 >>> ((8 : Int32) &&& 31).toUInt32).toInt32).toInt8.toInt32)), (.int (12 : Int32)), (.ref b1), (.ref b1)])) rfl rfl (hb hby d1_78)
  have V52 : Arv Z h52 b1 k1 .byte (14 : Int32) [(.int ((98 : Int32).toInt8.toInt32)), (.int ((12 : Int32).toInt8.toInt32)), (.int ((-128 : Int32).toInt8.toInt32)), (.int ((2 : Int32).toInt8.toInt32)), (.int ((((x1.toUInt32 >>> ((8 : Int32) &&& 31).toUInt32).toInt32).toInt8.toInt32).toInt8.toInt32)), (.int ((x1.toInt8.toInt32).toInt8.toInt32)), (.int ((-126 : Int32).toInt8.toInt32)), (.int ((2 : Int32).toInt8.toInt32)), (.int ((65 : Int32).toInt8.toInt32)), (.int ((33 : Int32).toInt8.toInt32)), (.int ((-125 : Int32).toInt8.toInt32)), (.int ((2 : Int32).toInt8.toInt32)), (.int ((((x0.toUInt32 >>> ((8 : Int32) &&& 31).toUInt32).toInt32).toInt8.toInt32).toInt8.toInt32)), (.int (0 : Int32))] (.int (0 : Int32)) := V52
  have K53 : Keep h0 h52 [] := K49.wr W52 (Or.inr sz_b1)
  have Z54 : n0 ≤ h52.size := Nat.le_trans Z50 (Keep.of_wr W52).1
  have N55 := Fr.snoc X52 N51 g_b1
  refine own_step (st' := T52.setTop (mkF m 79 #[.val (.int x0), .val (.int x1)] [(.ref b1)])) st52 ?_
  refine own_step (st' := T52.setTop (mkF m 80 #[.val (.int x0), .val (.int x1)] [(.ref b1), (.ref b1)])) (fun t k => XS.dup X52.here hx rfl (hb hby d1_79) rfl rfl k) ?_
  refine own_step (st' := T52.setTop (mkF m 82 #[.val (.int x0), .val (.int x1)] [(.int (13 : Int32)), (.ref b1), (.ref b1)])) (fun t k => XS.bipush X52.here hx rfl (hb hby d1_80) k) ?_
  refine own_step (st' := T52.setTop (mkF m 83 #[.val (.int x0), .val (.int x1)] [(.int x0), (.int (13 : Int32)), (.ref b1), (.ref b1)])) (fun t k => XS.iloadN X52.here hx rfl (hb hby d1_82) rfl k) ?_
  refine own_step (st' := T52.setTop (mkF m 84 #[.val (.int x0), .val (.int x1)] [(.int (x0.toInt8.toInt32)), (.int (13 : Int32)), (.ref b1), (.ref b1)])) (fun t k => XS.i2b X52.here hx rfl (hb hby d1_83) rfl k) ?_
  obtain ⟨T56, h56, X56, e56, W56, V56, st56⟩ := own_stB X52 hx hZ e52 V52 (j := (13 : Int32)) (i := 13) ⟨by decide, by decide⟩ rfl (Nat.le_of_ble_eq_true rfl) (g := (mkF m 84 #[.val (.int x0), .val (.int x1)] [(.int (x0.toInt8.toInt32)), (.int (13 : Int32)), (.ref b1), (.ref b1)])) rfl rfl (hb hby d1_84)
  have V56 : Arv Z h56 b1 k1 .byte (14 : Int32) [(.int ((98 : Int32).toInt8.toInt32)), (.int ((12 : Int32).toInt8.toInt32)), (.int ((-128 : Int32).toInt8.toInt32)), (.int ((2 : Int32).toInt8.toInt32)), (.int ((((x1.toUInt32 >>> ((8 : Int32) &&& 31).toUInt32).toInt32).toInt8.toInt32).toInt8.toInt32)), (.int ((x1.toInt8.toInt32).toInt8.toInt32)), (.int ((-126 : Int32).toInt8.toInt32)), (.int ((2 : Int32).toInt8.toInt32)), (.int ((65 : Int32).toInt8.toInt32)), (.int ((33 : Int32).toInt8.toInt32)), (.int ((-125 : Int32).toInt8.toInt32)), (.int ((2 : Int32).toInt8.toInt32)), (.int ((((x0.toUInt32 >>> ((8 : Int32) &&& 31).toUInt32).toInt32).toInt8.toInt32).toInt8.toInt32)), (.int ((x0.toInt8.toInt32).toInt8.toInt32))] (.int (0 : Int32)) := V56
  have K57 : Keep h0 h56 [] := K53.wr W56 (Or.inr sz_b1)
  have Z58 : n0 ≤ h56.size := Nat.le_trans Z54 (Keep.of_wr W56).1
  have N59 := Fr.snoc X56 N55 g_b1
  refine own_step (st' := T56.setTop (mkF m 85 #[.val (.int x0), .val (.int x1)] [(.ref b1)])) st56 ?_
  refine own_ret X56 Bd.notSynchronized (some (.ref b1)) (fun h => by rw [Bd.returns] at h; cases h) (fun fs hr => retOut X56 hx Bd.returns rfl (Or.inr (Or.inr (Or.inr (Or.inr ⟨rfl, rfl, rfl⟩)))) (hb hby d1_85) hr) ?_ (by decide) (by decide)
  rw [e56]
  exact ⟨b1, k1, rfl, N59, K57, sz_b1, V56⟩
theorem d2_0 : decode method_2_code 0 = .ok (.aload_n 0, 1) := by decide +kernel
theorem d2_1 : decode method_2_code 1 = .ok (.iload_n 1, 1) := by decide +kernel
theorem d2_2 : decode method_2_code 2 = .ok (.baload, 1) := by decide +kernel
theorem d2_3 : decode method_2_code 3 = .ok (.sipush 255, 3) := by decide +kernel
theorem d2_6 : decode method_2_code 6 = .ok (.iand, 1) := by decide +kernel
theorem d2_7 : decode method_2_code 7 = .ok (.iload_n 2, 1) := by decide +kernel
theorem d2_8 : decode method_2_code 8 = .ok (.if_icmp .ne 7, 3) := by decide +kernel
theorem d2_11 : decode method_2_code 11 = .ok (.iconst 1, 1) := by decide +kernel
theorem d2_12 : decode method_2_code 12 = .ok (.goto 4, 3) := by decide +kernel
theorem d2_16 : decode method_2_code 16 = .ok (.ireturn, 1) := by decide +kernel
theorem pn_1 : plainName "com/example/aturan/aturan/card/FileControlDescribePinLaw" = true := by first | (simp [plainName, overriddenIn]; done) | decide +kernel
theorem ef_2_RII (m : MethodId) (x0 : Addr) (x1 : Int32) (x2 : Int32) : entryFrame m #[(.ref x0), (.int x1), (.int x2)] 3 = mkF m 0 #[.val (.ref x0), .val (.int x1), .val (.int x2)] [] := by first | (simp [entryFrame, mkF, argsToLocals, Value.category]; done) | rfl
def Q_rm2 (Z : State) (x0 : Addr) (x1 : Int32) (x2 : Int32) (k : ClassId) (n : Int32) (vs : List Value) (dv : Value) (bb : Int32) (h0 : Heap) (n0 : Nat) (v : Option Value) (h : Heap) (L : List Loc) : Prop := v = some (.int (1 : Int32)) ∧ Fr n0 L ∧ h = h0
set_option maxRecDepth 65536 in
set_option maxHeartbeats 40000000 in
theorem rm2 (l : Launch) (Z : State) (a0 : Array Value) (hw : ∀ d ∈ tables_1, d.before a0 Z = true) (ws : List Jvm.Cond) (x0 : Addr) (x1 : Int32) (x2 : Int32) (k : ClassId) (n : Int32) (vs : List Value) (dv : Value) (bb : Int32) (h0 : Heap) (n0 : Nat) (Z0 : n0 ≤ h0.size) (p_0 : Arv Z h0 x0 k .byte n vs dv) (p_1 : ¬ x1 < 0 ∧ x1 < n) (p_2 : vs.getD x1.toNatClampNeg dv = .int bb) (p_3 : (bb &&& (255 : Int32)) = x2) :
    MetFree l (⟨"com/example/aturan/aturan/card/FileControlDescribePinLaw", "at", "([BII)Z"⟩ : MethodName) (head1 (Jvm.Cond.code (⟨"com/example/aturan/aturan/card/FileControlDescribePinLaw", "at", "([BII)Z"⟩ : MethodName) method_2_code 3 (some .boolean) :: ws) ({ frames := 0, cells := 0, slots := 0, locals := 0 } : Room)) (fun a U => a = #[(.ref x0), (.int x1), (.int x2)] ∧ Z.Warmed39 U.vm ∧ U.heap = h0) (fun _ _ _ _ _ => True) (fun _ U o U' => ∃ v L, o = .returned v ∧ Q_rm2 Z x0 x1 x2 k n vs dv bb h0 n0 v U'.heap L ∧ FrameEnd U o U' L ({ frames := 0, cells := 0, slots := 0, locals := 0 } : Room).cells ({ frames := 0, cells := 0, slots := 0, locals := 0 } : Room).slots) := by
  refine MetFree.of_bodySF (plainFor_of_name pn_1) hisR ?_
  intro p e s m args below meth c s₁ Bd hml0 hP hK
  obtain ⟨rfl, hZ, hh⟩ := hP
  have hx := Bd.exec
  have hby := Bd.bytes
  have hml : c.maxLocals = 3 := hml0
  have hown : s.vm.findClass "com/example/aturan/aturan/card/FileControlDescribePinLaw" = some m.cls := findClass_of_methodNamed Bd.named
  have hnm := (name_of_methodNamed Bd.named Bd.method).1
  have X0 : Stand p l e ({ frames := 0, cells := 0, slots := 0, locals := 0 } : Room) s m #[(.ref x0), (.int x1), (.int x2)] below meth c s₁ [] 0 0 := Stand.of_body Bd
  have e0 : s₁.heap = h0 := by rw [← hh, Bd.state]; rfl
  have N0 := Fr.nil n0
  show own_Ends p e below s ({ frames := 0, cells := 0, slots := 0, locals := 0 } : Room).cells ({ frames := 0, cells := 0, slots := 0, locals := 0 } : Room).slots (Q_rm2 Z x0 x1 x2 k n vs dv bb h0 n0) (s₁.setTop (entryFrame m #[(.ref x0), (.int x1), (.int x2)] 3))
  rw [ef_2_RII]
  refine own_step (st' := s₁.setTop (mkF m 1 #[.val (.ref x0), .val (.int x1), .val (.int x2)] [(.ref x0)])) (fun t k => XS.aloadN X0.here hx rfl (hb hby d2_0) rfl rfl k) ?_
  refine own_step (st' := s₁.setTop (mkF m 2 #[.val (.ref x0), .val (.int x1), .val (.int x2)] [(.int x1), (.ref x0)])) (fun t k => XS.iloadN X0.here hx rfl (hb hby d2_1) rfl k) ?_
  refine own_step (st' := s₁.setTop (mkF m 3 #[.val (.ref x0), .val (.int x1), .val (.int x2)] [(.int bb)])) (fun t k => own_ldB X0 hx hZ e0 p_0 (j := x1) (v := (.int bb)) p_1 p_2 (g := (mkF m 2 #[.val (.ref x0), .val (.int x1), .val (.int x2)] [(.int x1), (.ref x0)])) rfl rfl (hb hby d2_2) t k) ?_
  refine own_step (st' := s₁.setTop (mkF m 6 #[.val (.ref x0), .val (.int x1), .val (.int x2)] [(.int (255 : Int32)), (.int bb)])) (fun t k => XS.sipush X0.here hx rfl (hb hby d2_3) k) ?_
  refine own_step (st' := s₁.setTop (mkF m 7 #[.val (.ref x0), .val (.int x1), .val (.int x2)] [(.int (bb &&& (255 : Int32)))])) (fun t k => XS.iand X0.here hx rfl (hb hby d2_6) rfl k) ?_
  refine own_step (st' := s₁.setTop (mkF m 8 #[.val (.ref x0), .val (.int x1), .val (.int x2)] [(.int x2), (.int (bb &&& (255 : Int32)))])) (fun t k => XS.iloadN X0.here hx rfl (hb hby d2_7) rfl k) ?_
  refine own_step (st' := s₁.setTop (mkF m 11 #[.val (.ref x0), .val (.int x1), .val (.int x2)] [])) (fun t k => XS.icmpNo X0.here hx rfl (hb hby d2_8) rfl (teq p_3).2 k) ?_
  refine own_step (st' := s₁.setTop (mkF m 12 #[.val (.ref x0), .val (.int x1), .val (.int x2)] [(.int (1 : Int32))])) (fun t k => XS.iconst X0.here hx rfl (hb hby d2_11) k) ?_
  refine own_step (st' := s₁.setTop (mkF m 16 #[.val (.ref x0), .val (.int x1), .val (.int x2)] [(.int (1 : Int32))])) (fun t k => XS.goto X0.here hx rfl (pc0 := 12) (pc' := 16) rfl (hb hby d2_12) (by decide) (by decide) k) ?_
  refine own_ret X0 Bd.notSynchronized (some (.int (1 : Int32))) (fun h => by rw [Bd.returns] at h; cases h) (fun fs hr => retN X0 hx (t := .boolean) Bd.returns (by simp) (hb hby d2_16) hr) ?_ (by decide) (by decide)
  rw [e0]
  exact ⟨rfl, N0, rfl⟩
theorem ef_0_II (m : MethodId) (x0 : Int32) (x1 : Int32) : entryFrame m #[(.int x0), (.int x1)] maxLocals = mkF m 0 #[.val (.int x0), .val (.int x1), .unset, .unset, .unset] [] := by first | (simp [entryFrame, mkF, argsToLocals, Value.category, maxLocals]; done) | rfl
def Q_rm0 (Z : State) (x0 : Int32) (x1 : Int32) (h0 : Heap) (n0 : Nat) (v : Option Value) (h : Heap) (L : List Loc) : Prop := v = some (.int (1 : Int32)) ∧ Fr n0 L
set_option maxRecDepth 65536 in
set_option maxHeartbeats 40000000 in
theorem rm0 (l : Launch) (Z : State) (a0 : Array Value) (hw : ∀ d ∈ tables_1, d.before a0 Z = true) (ws : List Jvm.Cond) (x0 : Int32) (x1 : Int32) (h0 : Heap) (n0 : Nat) (Z0 : n0 ≤ h0.size) :
    MetFree l x (head1 (Jvm.Cond.code x code maxLocals ret :: ws) room_1) (fun a U => a = #[(.int x0), (.int x1)] ∧ Z.Warmed39 U.vm ∧ U.heap = h0) (fun _ _ _ _ _ => True) (fun _ U o U' => ∃ v L, o = .returned v ∧ Q_rm0 Z x0 x1 h0 n0 v U'.heap L ∧ FrameEnd U o U' L room_1.cells room_1.slots) := by
  refine MetFree.of_bodySF (plainFor_of_name pn_1) hisR ?_
  intro p e s m args below meth c s₁ Bd hml0 hP hK
  obtain ⟨rfl, hZ, hh⟩ := hP
  have hx := Bd.exec
  have hby := Bd.bytes
  have hml : c.maxLocals = 5 := hml0
  have hown : s.vm.findClass "com/example/aturan/aturan/card/FileControlDescribePinLaw" = some m.cls := findClass_of_methodNamed Bd.named
  have hnm := (name_of_methodNamed Bd.named Bd.method).1
  have X0 : Stand p l e room_1 s m #[(.int x0), (.int x1)] below meth c s₁ [] 0 0 := Stand.of_body Bd
  have e0 : s₁.heap = h0 := by rw [← hh, Bd.state]; rfl
  have N0 := Fr.nil n0
  show own_Ends p e below s room_1.cells room_1.slots (Q_rm0 Z x0 x1 h0 n0) (s₁.setTop (entryFrame m #[(.int x0), (.int x1)] maxLocals))
  rw [ef_0_II]
  refine own_step (st' := s₁.setTop (mkF m 1 #[.val (.int x0), .val (.int x1), .unset, .unset, .unset] [(.int x0)])) (fun t k => XS.iloadN X0.here hx rfl (hb hby at_0) rfl k) ?_
  refine own_step (st' := s₁.setTop (mkF m 3 #[.val (.int x0), .val (.int x1), .unset, .unset, .unset] [(.int (65535 : Int32)), (.int x0)])) (fun t k => X0.ldcInt hx hown (mvT hZ (hw _ (List.mem_of_getElem? (i := 0) rfl))) (g := (mkF m 1 #[.val (.int x0), .val (.int x1), .unset, .unset, .unset] [(.int x0)])) rfl (hb hby at_1) t k) ?_
  refine own_step (st' := s₁.setTop (mkF m 4 #[.val (.int x0), .val (.int x1), .unset, .unset, .unset] [(.int (x0 &&& (65535 : Int32)))])) (fun t k => XS.iand X0.here hx rfl (hb hby at_3) rfl k) ?_
  refine own_step (st' := s₁.setTop (mkF m 5 #[.val (.int x0), .val (.int x1), .val (.int (x0 &&& (65535 : Int32))), .unset, .unset] [])) (fun t k => XS.istoreN X0.here hx rfl (hb hby at_4) rfl (l' := #[.val (.int x0), .val (.int x1), .val (.int (x0 &&& (65535 : Int32))), .unset, .unset]) rfl k) ?_
  refine own_step (st' := s₁.setTop (mkF m 6 #[.val (.int x0), .val (.int x1), .val (.int (x0 &&& (65535 : Int32))), .unset, .unset] [(.int x1)])) (fun t k => XS.iloadN X0.here hx rfl (hb hby at_5) rfl k) ?_
  refine own_step (st' := s₁.setTop (mkF m 8 #[.val (.int x0), .val (.int x1), .val (.int (x0 &&& (65535 : Int32))), .unset, .unset] [(.int (65535 : Int32)), (.int x1)])) (fun t k => X0.ldcInt hx hown (mvT hZ (hw _ (List.mem_of_getElem? (i := 0) rfl))) (g := (mkF m 6 #[.val (.int x0), .val (.int x1), .val (.int (x0 &&& (65535 : Int32))), .unset, .unset] [(.int x1)])) rfl (hb hby at_6) t k) ?_
  refine own_step (st' := s₁.setTop (mkF m 9 #[.val (.int x0), .val (.int x1), .val (.int (x0 &&& (65535 : Int32))), .unset, .unset] [(.int (x1 &&& (65535 : Int32)))])) (fun t k => XS.iand X0.here hx rfl (hb hby at_8) rfl k) ?_
  refine own_step (st' := s₁.setTop (mkF m 10 #[.val (.int x0), .val (.int x1), .val (.int (x0 &&& (65535 : Int32))), .val (.int (x1 &&& (65535 : Int32))), .unset] [])) (fun t k => XS.istoreN X0.here hx rfl (hb hby at_9) rfl (l' := #[.val (.int x0), .val (.int x1), .val (.int (x0 &&& (65535 : Int32))), .val (.int (x1 &&& (65535 : Int32))), .unset]) rfl k) ?_
  refine own_step (st' := s₁.setTop (mkF m 11 #[.val (.int x0), .val (.int x1), .val (.int (x0 &&& (65535 : Int32))), .val (.int (x1 &&& (65535 : Int32))), .unset] [(.int (x0 &&& (65535 : Int32)))])) (fun t k => XS.iloadN X0.here hx rfl (hb hby at_10) rfl k) ?_
  refine own_step (st' := s₁.setTop (mkF m 12 #[.val (.int x0), .val (.int x1), .val (.int (x0 &&& (65535 : Int32))), .val (.int (x1 &&& (65535 : Int32))), .unset] [(.int (x1 &&& (65535 : Int32))), (.int (x0 &&& (65535 : Int32)))])) (fun t k => XS.iloadN X0.here hx rfl (hb hby at_11) rfl k) ?_
  obtain ⟨_, _, ⟨T1, L1, k1, n1⟩, -, X1, ⟨Lc1, hQ1, l1, y1, z1⟩, st1⟩ := Jvm.LawKit.callS X0 hx (y := (⟨"com/example/aturan/aturan/card/FileControl", "describe", "(II)[B"⟩ : MethodName)) hown (mvT hZ (hw _ (List.mem_of_getElem? (i := 1) rfl))) (mvT hZ (hw _ (List.mem_of_getElem? (i := 2) rfl))) (mvT hZ (hw _ (List.mem_of_getElem? (i := 3) rfl))) (mvT hZ (hw _ (List.mem_of_getElem? (i := 4) rfl))) (by decide) (backOf (W := 0) (rm1 l Z a0 hw [] (x0 &&& (65535 : Int32)) (x1 &&& (65535 : Int32)) h0 n0 Z0) hZ (hw _ (List.mem_of_getElem? (i := 4) rfl)) (hw _ (List.mem_of_getElem? (i := 3) rfl)) (by decide) (by decide)) (g := (mkF m 12 #[.val (.int x0), .val (.int x1), .val (.int (x0 &&& (65535 : Int32))), .val (.int (x1 &&& (65535 : Int32))), .unset] [(.int (x1 &&& (65535 : Int32))), (.int (x0 &&& (65535 : Int32)))])) rfl (by rw [hml]; rfl) (argsL := [(.int (x0 &&& (65535 : Int32))), (.int (x1 &&& (65535 : Int32)))]) (rest := []) (lenOf pd_0 rfl) rfl (by show 2 * 0 + _ ≤ _; exact Nat.le_of_eq rfl) (hb hby at_12) (fun _ _ => ⟨rfl, e0, (by decide : 0 + 1 ≤ _), (by decide : 0 + 14 ≤ _)⟩)
  dsimp only [Pt.U, Pt.locs, Pt.cells, Pt.slots] at X1 l1 y1 z1 st1 hQ1
  subst l1 y1 z1
  obtain ⟨b_1, k_1, rfl, N1q, K1, pq1_0, pq1_1⟩ := hQ1
  have N1 := Fr.app N0 N1q
  obtain ⟨h1, e1⟩ : ∃ z, T1.heap = z := ⟨_, rfl⟩
  rw [e1] at K1 pq1_1
  have g_b_1 : n0 ≤ b_1 := Nat.le_trans Z0 pq1_0
  have Z2 : n0 ≤ h1.size := Nat.le_trans Z0 K1.1
  refine own_step (st' := T1.setTop (mkF m 15 #[.val (.int x0), .val (.int x1), .val (.int (x0 &&& (65535 : Int32))), .val (.int (x1 &&& (65535 : Int32))), .unset] [(.ref b_1)])) st1 ?_
  refine own_step (st' := T1.setTop (mkF m 17 #[.val (.int x0), .val (.int x1), .val (.int (x0 &&& (65535 : Int32))), .val (.int (x1 &&& (65535 : Int32))), .val (.ref b_1)] [])) (fun t k => XS.astore X1.here hx rfl (hb hby at_15) rfl rfl (l' := #[.val (.int x0), .val (.int x1), .val (.int (x0 &&& (65535 : Int32))), .val (.int (x1 &&& (65535 : Int32))), .val (.ref b_1)]) rfl k) ?_
  refine own_step (st' := T1.setTop (mkF m 19 #[.val (.int x0), .val (.int x1), .val (.int (x0 &&& (65535 : Int32))), .val (.int (x1 &&& (65535 : Int32))), .val (.ref b_1)] [(.ref b_1)])) (fun t k => XS.aload X1.here hx rfl (hb hby at_17) rfl rfl k) ?_
  refine own_step (st' := T1.setTop (mkF m 22 #[.val (.int x0), .val (.int x1), .val (.int (x0 &&& (65535 : Int32))), .val (.int (x1 &&& (65535 : Int32))), .val (.ref b_1)] [])) (fun t k => XS.ifnullNo X1.here hx rfl (hb hby at_19) rfl k) ?_
  refine own_step (st' := T1.setTop (mkF m 24 #[.val (.int x0), .val (.int x1), .val (.int (x0 &&& (65535 : Int32))), .val (.int (x1 &&& (65535 : Int32))), .val (.ref b_1)] [(.ref b_1)])) (fun t k => XS.aload X1.here hx rfl (hb hby at_22) rfl rfl k) ?_
  refine own_step (st' := T1.setTop (mkF m 25 #[.val (.int x0), .val (.int x1), .val (.int (x0 &&& (65535 : Int32))), .val (.int (x1 &&& (65535 : Int32))), .val (.ref b_1)] [(.int (14 : Int32))])) (fun t k => own_len X1 hx hZ e1 pq1_1 (g := (mkF m 24 #[.val (.int x0), .val (.int x1), .val (.int (x0 &&& (65535 : Int32))), .val (.int (x1 &&& (65535 : Int32))), .val (.ref b_1)] [(.ref b_1)])) rfl rfl (hb hby at_24) t k) ?_
  refine own_step (st' := T1.setTop (mkF m 27 #[.val (.int x0), .val (.int x1), .val (.int (x0 &&& (65535 : Int32))), .val (.int (x1 &&& (65535 : Int32))), .val (.ref b_1)] [(.int (14 : Int32)), (.int (14 : Int32))])) (fun t k => XS.bipush X1.here hx rfl (hb hby at_25) k) ?_
  refine own_step (st' := T1.setTop (mkF m 32 #[.val (.int x0), .val (.int x1), .val (.int (x0 &&& (65535 : Int32))), .val (.int (x1 &&& (65535 : Int32))), .val (.ref b_1)] [])) (fun t k => XS.icmpYes X1.here hx rfl (pc0 := 27) (pc' := 32) rfl (hb hby at_27) rfl (teq (by decide)).1 (by decide) (by decide) k) ?_
  refine own_step (st' := T1.setTop (mkF m 34 #[.val (.int x0), .val (.int x1), .val (.int (x0 &&& (65535 : Int32))), .val (.int (x1 &&& (65535 : Int32))), .val (.ref b_1)] [(.ref b_1)])) (fun t k => XS.aload X1.here hx rfl (hb hby at_32) rfl rfl k) ?_
  refine own_step (st' := T1.setTop (mkF m 35 #[.val (.int x0), .val (.int x1), .val (.int (x0 &&& (65535 : Int32))), .val (.int (x1 &&& (65535 : Int32))), .val (.ref b_1)] [(.int (0 : Int32)), (.ref b_1)])) (fun t k => XS.iconst X1.here hx rfl (hb hby at_34) k) ?_
  refine own_step (st' := T1.setTop (mkF m 37 #[.val (.int x0), .val (.int x1), .val (.int (x0 &&& (65535 : Int32))), .val (.int (x1 &&& (65535 : Int32))), .val (.ref b_1)] [(.int (98 : Int32)), (.int (0 : Int32)), (.ref b_1)])) (fun t k => XS.bipush X1.here hx rfl (hb hby at_35) k) ?_
  obtain ⟨_, _, ⟨T3, L3, k3, n3⟩, -, X3, ⟨Lc3, hQ3, l3, y3, z3⟩, st3⟩ := Jvm.LawKit.callS X1 hx (y := (⟨"com/example/aturan/aturan/card/FileControlDescribePinLaw", "at", "([BII)Z"⟩ : MethodName)) hown (mvT hZ (hw _ (List.mem_of_getElem? (i := 6) rfl))) (mvT hZ (hw _ (List.mem_of_getElem? (i := 7) rfl))) (mvT hZ (hw _ (List.mem_of_getElem? (i := 8) rfl))) (mvT hZ (hw _ (List.mem_of_getElem? (i := 9) rfl))) (by decide) (backOf (W := 0) (rm2 l Z a0 hw [] b_1 (0 : Int32) (98 : Int32) k_1 (14 : Int32) [(.int ((98 : Int32).toInt8.toInt32)), (.int ((12 : Int32).toInt8.toInt32)), (.int ((-128 : Int32).toInt8.toInt32)), (.int ((2 : Int32).toInt8.toInt32)), (.int (((((x1 &&& (65535 : Int32)).toUInt32 >>> ((8 : Int32) &&& 31).toUInt32).toInt32).toInt8.toInt32).toInt8.toInt32)), (.int (((x1 &&& (65535 : Int32)).toInt8.toInt32).toInt8.toInt32)), (.int ((-126 : Int32).toInt8.toInt32)), (.int ((2 : Int32).toInt8.toInt32)), (.int ((65 : Int32).toInt8.toInt32)), (.int ((33 : Int32).toInt8.toInt32)), (.int ((-125 : Int32).toInt8.toInt32)), (.int ((2 : Int32).toInt8.toInt32)), (.int (((((x0 &&& (65535 : Int32)).toUInt32 >>> ((8 : Int32) &&& 31).toUInt32).toInt32).toInt8.toInt32).toInt8.toInt32)), (.int (((x0 &&& (65535 : Int32)).toInt8.toInt32).toInt8.toInt32))] (.int (0 : Int32)) ((98 : Int32).toInt8.toInt32) h1 n0 Z2 pq1_1 ⟨by decide, by decide⟩ rfl (by decide)) hZ (hw _ (List.mem_of_getElem? (i := 9) rfl)) (hw _ (List.mem_of_getElem? (i := 8) rfl)) (by decide) (by decide)) (g := (mkF m 37 #[.val (.int x0), .val (.int x1), .val (.int (x0 &&& (65535 : Int32))), .val (.int (x1 &&& (65535 : Int32))), .val (.ref b_1)] [(.int (98 : Int32)), (.int (0 : Int32)), (.ref b_1)])) rfl (by rw [hml]; rfl) (argsL := [(.ref b_1), (.int (0 : Int32)), (.int (98 : Int32))]) (rest := []) (lenOf pd_1 rfl) rfl (by show 2 * 0 + _ ≤ _; exact Nat.le_of_eq rfl) (hb hby at_37) (fun _ _ => ⟨rfl, e1, (by decide : 1 + 0 ≤ _), (by decide : 14 + 0 ≤ _)⟩)
  dsimp only [Pt.U, Pt.locs, Pt.cells, Pt.slots] at X3 l3 y3 z3 st3 hQ3
  subst l3 y3 z3
  obtain ⟨rfl, N3q, e3⟩ := hQ3
  have N3 := Fr.app N1 N3q
  refine own_step (st' := T3.setTop (mkF m 40 #[.val (.int x0), .val (.int x1), .val (.int (x0 &&& (65535 : Int32))), .val (.int (x1 &&& (65535 : Int32))), .val (.ref b_1)] [(.int (1 : Int32))])) st3 ?_
  refine own_step (st' := T3.setTop (mkF m 43 #[.val (.int x0), .val (.int x1), .val (.int (x0 &&& (65535 : Int32))), .val (.int (x1 &&& (65535 : Int32))), .val (.ref b_1)] [])) (fun t k => XS.ifNo X3.here hx rfl (hb hby at_40) rfl ((if0 _ _).trans (feq (by decide)).1) k) ?_
  refine own_step (st' := T3.setTop (mkF m 45 #[.val (.int x0), .val (.int x1), .val (.int (x0 &&& (65535 : Int32))), .val (.int (x1 &&& (65535 : Int32))), .val (.ref b_1)] [(.ref b_1)])) (fun t k => XS.aload X3.here hx rfl (hb hby at_43) rfl rfl k) ?_
  refine own_step (st' := T3.setTop (mkF m 46 #[.val (.int x0), .val (.int x1), .val (.int (x0 &&& (65535 : Int32))), .val (.int (x1 &&& (65535 : Int32))), .val (.ref b_1)] [(.int (1 : Int32)), (.ref b_1)])) (fun t k => XS.iconst X3.here hx rfl (hb hby at_45) k) ?_
  refine own_step (st' := T3.setTop (mkF m 48 #[.val (.int x0), .val (.int x1), .val (.int (x0 &&& (65535 : Int32))), .val (.int (x1 &&& (65535 : Int32))), .val (.ref b_1)] [(.int (12 : Int32)), (.int (1 : Int32)), (.ref b_1)])) (fun t k => XS.bipush X3.here hx rfl (hb hby at_46) k) ?_
  obtain ⟨_, _, ⟨T4, L4, k4, n4⟩, -, X4, ⟨Lc4, hQ4, l4, y4, z4⟩, st4⟩ := Jvm.LawKit.callS X3 hx (y := (⟨"com/example/aturan/aturan/card/FileControlDescribePinLaw", "at", "([BII)Z"⟩ : MethodName)) hown (mvT hZ (hw _ (List.mem_of_getElem? (i := 6) rfl))) (mvT hZ (hw _ (List.mem_of_getElem? (i := 7) rfl))) (mvT hZ (hw _ (List.mem_of_getElem? (i := 8) rfl))) (mvT hZ (hw _ (List.mem_of_getElem? (i := 9) rfl))) (by decide) (backOf (W := 0) (rm2 l Z a0 hw [] b_1 (1 : Int32) (12 : Int32) k_1 (14 : Int32) [(.int ((98 : Int32).toInt8.toInt32)), (.int ((12 : Int32).toInt8.toInt32)), (.int ((-128 : Int32).toInt8.toInt32)), (.int ((2 : Int32).toInt8.toInt32)), (.int (((((x1 &&& (65535 : Int32)).toUInt32 >>> ((8 : Int32) &&& 31).toUInt32).toInt32).toInt8.toInt32).toInt8.toInt32)), (.int (((x1 &&& (65535 : Int32)).toInt8.toInt32).toInt8.toInt32)), (.int ((-126 : Int32).toInt8.toInt32)), (.int ((2 : Int32).toInt8.toInt32)), (.int ((65 : Int32).toInt8.toInt32)), (.int ((33 : Int32).toInt8.toInt32)), (.int ((-125 : Int32).toInt8.toInt32)), (.int ((2 : Int32).toInt8.toInt32)), (.int (((((x0 &&& (65535 : Int32)).toUInt32 >>> ((8 : Int32) &&& 31).toUInt32).toInt32).toInt8.toInt32).toInt8.toInt32)), (.int (((x0 &&& (65535 : Int32)).toInt8.toInt32).toInt8.toInt32))] (.int (0 : Int32)) ((12 : Int32).toInt8.toInt32) h1 n0 Z2 pq1_1 ⟨by decide, by decide⟩ rfl (by decide)) hZ (hw _ (List.mem_of_getElem? (i := 9) rfl)) (hw _ (List.mem_of_getElem? (i := 8) rfl)) (by decide) (by decide)) (g := (mkF m 48 #[.val (.int x0), .val (.int x1), .val (.int (x0 &&& (65535 : Int32))), .val (.int (x1 &&& (65535 : Int32))), .val (.ref b_1)] [(.int (12 : Int32)), (.int (1 : Int32)), (.ref b_1)])) rfl (by rw [hml]; rfl) (argsL := [(.ref b_1), (.int (1 : Int32)), (.int (12 : Int32))]) (rest := []) (lenOf pd_1 rfl) rfl (by show 2 * 0 + _ ≤ _; exact Nat.le_of_eq rfl) (hb hby at_48) (fun _ _ => ⟨rfl, e3, (by decide : 1 + 0 ≤ _), (by decide : 14 + 0 ≤ _)⟩)
  dsimp only [Pt.U, Pt.locs, Pt.cells, Pt.slots] at X4 l4 y4 z4 st4 hQ4
  subst l4 y4 z4
  obtain ⟨rfl, N4q, e4⟩ := hQ4
  have N4 := Fr.app N3 N4q
  refine own_step (st' := T4.setTop (mkF m 51 #[.val (.int x0), .val (.int x1), .val (.int (x0 &&& (65535 : Int32))), .val (.int (x1 &&& (65535 : Int32))), .val (.ref b_1)] [(.int (1 : Int32))])) st4 ?_
  refine own_step (st' := T4.setTop (mkF m 54 #[.val (.int x0), .val (.int x1), .val (.int (x0 &&& (65535 : Int32))), .val (.int (x1 &&& (65535 : Int32))), .val (.ref b_1)] [])) (fun t k => XS.ifNo X4.here hx rfl (hb hby at_51) rfl ((if0 _ _).trans (feq (by decide)).1) k) ?_
  refine own_step (st' := T4.setTop (mkF m 56 #[.val (.int x0), .val (.int x1), .val (.int (x0 &&& (65535 : Int32))), .val (.int (x1 &&& (65535 : Int32))), .val (.ref b_1)] [(.ref b_1)])) (fun t k => XS.aload X4.here hx rfl (hb hby at_54) rfl rfl k) ?_
  refine own_step (st' := T4.setTop (mkF m 57 #[.val (.int x0), .val (.int x1), .val (.int (x0 &&& (65535 : Int32))), .val (.int (x1 &&& (65535 : Int32))), .val (.ref b_1)] [(.int (2 : Int32)), (.ref b_1)])) (fun t k => XS.iconst X4.here hx rfl (hb hby at_56) k) ?_
  refine own_step (st' := T4.setTop (mkF m 60 #[.val (.int x0), .val (.int x1), .val (.int (x0 &&& (65535 : Int32))), .val (.int (x1 &&& (65535 : Int32))), .val (.ref b_1)] [(.int (128 : Int32)), (.int (2 : Int32)), (.ref b_1)])) (fun t k => XS.sipush X4.here hx rfl (hb hby at_57) k) ?_
  obtain ⟨_, _, ⟨T5, L5, k5, n5⟩, -, X5, ⟨Lc5, hQ5, l5, y5, z5⟩, st5⟩ := Jvm.LawKit.callS X4 hx (y := (⟨"com/example/aturan/aturan/card/FileControlDescribePinLaw", "at", "([BII)Z"⟩ : MethodName)) hown (mvT hZ (hw _ (List.mem_of_getElem? (i := 6) rfl))) (mvT hZ (hw _ (List.mem_of_getElem? (i := 7) rfl))) (mvT hZ (hw _ (List.mem_of_getElem? (i := 8) rfl))) (mvT hZ (hw _ (List.mem_of_getElem? (i := 9) rfl))) (by decide) (backOf (W := 0) (rm2 l Z a0 hw [] b_1 (2 : Int32) (128 : Int32) k_1 (14 : Int32) [(.int ((98 : Int32).toInt8.toInt32)), (.int ((12 : Int32).toInt8.toInt32)), (.int ((-128 : Int32).toInt8.toInt32)), (.int ((2 : Int32).toInt8.toInt32)), (.int (((((x1 &&& (65535 : Int32)).toUInt32 >>> ((8 : Int32) &&& 31).toUInt32).toInt32).toInt8.toInt32).toInt8.toInt32)), (.int (((x1 &&& (65535 : Int32)).toInt8.toInt32).toInt8.toInt32)), (.int ((-126 : Int32).toInt8.toInt32)), (.int ((2 : Int32).toInt8.toInt32)), (.int ((65 : Int32).toInt8.toInt32)), (.int ((33 : Int32).toInt8.toInt32)), (.int ((-125 : Int32).toInt8.toInt32)), (.int ((2 : Int32).toInt8.toInt32)), (.int (((((x0 &&& (65535 : Int32)).toUInt32 >>> ((8 : Int32) &&& 31).toUInt32).toInt32).toInt8.toInt32).toInt8.toInt32)), (.int (((x0 &&& (65535 : Int32)).toInt8.toInt32).toInt8.toInt32))] (.int (0 : Int32)) ((-128 : Int32).toInt8.toInt32) h1 n0 Z2 pq1_1 ⟨by decide, by decide⟩ rfl (by decide)) hZ (hw _ (List.mem_of_getElem? (i := 9) rfl)) (hw _ (List.mem_of_getElem? (i := 8) rfl)) (by decide) (by decide)) (g := (mkF m 60 #[.val (.int x0), .val (.int x1), .val (.int (x0 &&& (65535 : Int32))), .val (.int (x1 &&& (65535 : Int32))), .val (.ref b_1)] [(.int (128 : Int32)), (.int (2 : Int32)), (.ref b_1)])) rfl (by rw [hml]; rfl) (argsL := [(.ref b_1), (.int (2 : Int32)), (.int (128 : Int32))]) (rest := []) (lenOf pd_1 rfl) rfl (by show 2 * 0 + _ ≤ _; exact Nat.le_of_eq rfl) (hb hby at_60) (fun _ _ => ⟨rfl, e4, (by decide : 1 + 0 ≤ _), (by decide : 14 + 0 ≤ _)⟩)
  dsimp only [Pt.U, Pt.locs, Pt.cells, Pt.slots] at X5 l5 y5 z5 st5 hQ5
  subst l5 y5 z5
  obtain ⟨rfl, N5q, e5⟩ := hQ5
  have N5 := Fr.app N4 N5q
  refine own_step (st' := T5.setTop (mkF m 63 #[.val (.int x0), .val (.int x1), .val (.int (x0 &&& (65535 : Int32))), .val (.int (x1 &&& (65535 : Int32))), .val (.ref b_1)] [(.int (1 : Int32))])) st5 ?_
  refine own_step (st' := T5.setTop (mkF m 66 #[.val (.int x0), .val (.int x1), .val (.int (x0 &&& (65535 : Int32))), .val (.int (x1 &&& (65535 : Int32))), .val (.ref b_1)] [])) (fun t k => XS.ifNo X5.here hx rfl (hb hby at_63) rfl ((if0 _ _).trans (feq (by decide)).1) k) ?_
  refine own_step (st' := T5.setTop (mkF m 68 #[.val (.int x0), .val (.int x1), .val (.int (x0 &&& (65535 : Int32))), .val (.int (x1 &&& (65535 : Int32))), .val (.ref b_1)] [(.ref b_1)])) (fun t k => XS.aload X5.here hx rfl (hb hby at_66) rfl rfl k) ?_
  refine own_step (st' := T5.setTop (mkF m 69 #[.val (.int x0), .val (.int x1), .val (.int (x0 &&& (65535 : Int32))), .val (.int (x1 &&& (65535 : Int32))), .val (.ref b_1)] [(.int (3 : Int32)), (.ref b_1)])) (fun t k => XS.iconst X5.here hx rfl (hb hby at_68) k) ?_
  refine own_step (st' := T5.setTop (mkF m 70 #[.val (.int x0), .val (.int x1), .val (.int (x0 &&& (65535 : Int32))), .val (.int (x1 &&& (65535 : Int32))), .val (.ref b_1)] [(.int (2 : Int32)), (.int (3 : Int32)), (.ref b_1)])) (fun t k => XS.iconst X5.here hx rfl (hb hby at_69) k) ?_
  obtain ⟨_, _, ⟨T6, L6, k6, n6⟩, -, X6, ⟨Lc6, hQ6, l6, y6, z6⟩, st6⟩ := Jvm.LawKit.callS X5 hx (y := (⟨"com/example/aturan/aturan/card/FileControlDescribePinLaw", "at", "([BII)Z"⟩ : MethodName)) hown (mvT hZ (hw _ (List.mem_of_getElem? (i := 6) rfl))) (mvT hZ (hw _ (List.mem_of_getElem? (i := 7) rfl))) (mvT hZ (hw _ (List.mem_of_getElem? (i := 8) rfl))) (mvT hZ (hw _ (List.mem_of_getElem? (i := 9) rfl))) (by decide) (backOf (W := 0) (rm2 l Z a0 hw [] b_1 (3 : Int32) (2 : Int32) k_1 (14 : Int32) [(.int ((98 : Int32).toInt8.toInt32)), (.int ((12 : Int32).toInt8.toInt32)), (.int ((-128 : Int32).toInt8.toInt32)), (.int ((2 : Int32).toInt8.toInt32)), (.int (((((x1 &&& (65535 : Int32)).toUInt32 >>> ((8 : Int32) &&& 31).toUInt32).toInt32).toInt8.toInt32).toInt8.toInt32)), (.int (((x1 &&& (65535 : Int32)).toInt8.toInt32).toInt8.toInt32)), (.int ((-126 : Int32).toInt8.toInt32)), (.int ((2 : Int32).toInt8.toInt32)), (.int ((65 : Int32).toInt8.toInt32)), (.int ((33 : Int32).toInt8.toInt32)), (.int ((-125 : Int32).toInt8.toInt32)), (.int ((2 : Int32).toInt8.toInt32)), (.int (((((x0 &&& (65535 : Int32)).toUInt32 >>> ((8 : Int32) &&& 31).toUInt32).toInt32).toInt8.toInt32).toInt8.toInt32)), (.int (((x0 &&& (65535 : Int32)).toInt8.toInt32).toInt8.toInt32))] (.int (0 : Int32)) ((2 : Int32).toInt8.toInt32) h1 n0 Z2 pq1_1 ⟨by decide, by decide⟩ rfl (by decide)) hZ (hw _ (List.mem_of_getElem? (i := 9) rfl)) (hw _ (List.mem_of_getElem? (i := 8) rfl)) (by decide) (by decide)) (g := (mkF m 70 #[.val (.int x0), .val (.int x1), .val (.int (x0 &&& (65535 : Int32))), .val (.int (x1 &&& (65535 : Int32))), .val (.ref b_1)] [(.int (2 : Int32)), (.int (3 : Int32)), (.ref b_1)])) rfl (by rw [hml]; rfl) (argsL := [(.ref b_1), (.int (3 : Int32)), (.int (2 : Int32))]) (rest := []) (lenOf pd_1 rfl) rfl (by show 2 * 0 + _ ≤ _; exact Nat.le_of_eq rfl) (hb hby at_70) (fun _ _ => ⟨rfl, e5, (by decide : 1 + 0 ≤ _), (by decide : 14 + 0 ≤ _)⟩)
  dsimp only [Pt.U, Pt.locs, Pt.cells, Pt.slots] at X6 l6 y6 z6 st6 hQ6
  subst l6 y6 z6
  obtain ⟨rfl, N6q, e6⟩ := hQ6
  have N6 := Fr.app N5 N6q
  refine own_step (st' := T6.setTop (mkF m 73 #[.val (.int x0), .val (.int x1), .val (.int (x0 &&& (65535 : Int32))), .val (.int (x1 &&& (65535 : Int32))), .val (.ref b_1)] [(.int (1 : Int32))])) st6 ?_
  refine own_step (st' := T6.setTop (mkF m 76 #[.val (.int x0), .val (.int x1), .val (.int (x0 &&& (65535 : Int32))), .val (.int (x1 &&& (65535 : Int32))), .val (.ref b_1)] [])) (fun t k => XS.ifNo X6.here hx rfl (hb hby at_73) rfl ((if0 _ _).trans (feq (by decide)).1) k) ?_
  refine own_step (st' := T6.setTop (mkF m 78 #[.val (.int x0), .val (.int x1), .val (.int (x0 &&& (65535 : Int32))), .val (.int (x1 &&& (65535 : Int32))), .val (.ref b_1)] [(.ref b_1)])) (fun t k => XS.aload X6.here hx rfl (hb hby at_76) rfl rfl k) ?_
  refine own_step (st' := T6.setTop (mkF m 79 #[.val (.int x0), .val (.int x1), .val (.int (x0 &&& (65535 : Int32))), .val (.int (x1 &&& (65535 : Int32))), .val (.ref b_1)] [(.int (4 : Int32)), (.ref b_1)])) (fun t k => XS.iconst X6.here hx rfl (hb hby at_78) k) ?_
  refine own_step (st' := T6.setTop (mkF m 80 #[.val (.int x0), .val (.int x1), .val (.int (x0 &&& (65535 : Int32))), .val (.int (x1 &&& (65535 : Int32))), .val (.ref b_1)] [(.int (x1 &&& (65535 : Int32))), (.int (4 : Int32)), (.ref b_1)])) (fun t k => XS.iloadN X6.here hx rfl (hb hby at_79) rfl k) ?_
  refine own_step (st' := T6.setTop (mkF m 83 #[.val (.int x0), .val (.int x1), .val (.int (x0 &&& (65535 : Int32))), .val (.int (x1 &&& (65535 : Int32))), .val (.ref b_1)] [(.int (256 : Int32)), (.int (x1 &&& (65535 : Int32))), (.int (4 : Int32)), (.ref b_1)])) (fun t k => XS.sipush X6.here hx rfl (hb hby at_80) k) ?_
  refine own_step (st' := T6.setTop (mkF m 84 #[.val (.int x0), .val (.int x1), .val (.int (x0 &&& (65535 : Int32))), .val (.int (x1 &&& (65535 : Int32))), .val (.ref b_1)] [(.int ((x1 &&& (65535 : Int32)) / (256 : Int32))), (.int (4 : Int32)), (.ref b_1)])) (fun t k => XS.idiv X6.here hx rfl (hb hby at_83) rfl (by decide) k) ?_
  obtain ⟨_, _, ⟨T7, L7, k7, n7⟩, -, X7, ⟨Lc7, hQ7, l7, y7, z7⟩, st7⟩ := Jvm.LawKit.callS X6 hx (y := (⟨"com/example/aturan/aturan/card/FileControlDescribePinLaw", "at", "([BII)Z"⟩ : MethodName)) hown (mvT hZ (hw _ (List.mem_of_getElem? (i := 6) rfl))) (mvT hZ (hw _ (List.mem_of_getElem? (i := 7) rfl))) (mvT hZ (hw _ (List.mem_of_getElem? (i := 8) rfl))) (mvT hZ (hw _ (List.mem_of_getElem? (i := 9) rfl))) (by decide) (backOf (W := 0) (rm2 l Z a0 hw [] b_1 (4 : Int32) ((x1 &&& (65535 : Int32)) / (256 : Int32)) k_1 (14 : Int32) [(.int ((98 : Int32).toInt8.toInt32)), (.int ((12 : Int32).toInt8.toInt32)), (.int ((-128 : Int32).toInt8.toInt32)), (.int ((2 : Int32).toInt8.toInt32)), (.int (((((x1 &&& (65535 : Int32)).toUInt32 >>> ((8 : Int32) &&& 31).toUInt32).toInt32).toInt8.toInt32).toInt8.toInt32)), (.int (((x1 &&& (65535 : Int32)).toInt8.toInt32).toInt8.toInt32)), (.int ((-126 : Int32).toInt8.toInt32)), (.int ((2 : Int32).toInt8.toInt32)), (.int ((65 : Int32).toInt8.toInt32)), (.int ((33 : Int32).toInt8.toInt32)), (.int ((-125 : Int32).toInt8.toInt32)), (.int ((2 : Int32).toInt8.toInt32)), (.int (((((x0 &&& (65535 : Int32)).toUInt32 >>> ((8 : Int32) &&& 31).toUInt32).toInt32).toInt8.toInt32).toInt8.toInt32)), (.int (((x0 &&& (65535 : Int32)).toInt8.toInt32).toInt8.toInt32))] (.int (0 : Int32)) (((((x1 &&& (65535 : Int32)).toUInt32 >>> ((8 : Int32) &&& 31).toUInt32).toInt32).toInt8.toInt32).toInt8.toInt32) h1 n0 Z2 pq1_1 ⟨by decide, by decide⟩ rfl (own_hi _ (own_rng x1).1 (own_rng x1).2)) hZ (hw _ (List.mem_of_getElem? (i := 9) rfl)) (hw _ (List.mem_of_getElem? (i := 8) rfl)) (by decide) (by decide)) (g := (mkF m 84 #[.val (.int x0), .val (.int x1), .val (.int (x0 &&& (65535 : Int32))), .val (.int (x1 &&& (65535 : Int32))), .val (.ref b_1)] [(.int ((x1 &&& (65535 : Int32)) / (256 : Int32))), (.int (4 : Int32)), (.ref b_1)])) rfl (by rw [hml]; rfl) (argsL := [(.ref b_1), (.int (4 : Int32)), (.int ((x1 &&& (65535 : Int32)) / (256 : Int32)))]) (rest := []) (lenOf pd_1 rfl) rfl (by show 2 * 0 + _ ≤ _; exact Nat.le_of_eq rfl) (hb hby at_84) (fun _ _ => ⟨rfl, e6, (by decide : 1 + 0 ≤ _), (by decide : 14 + 0 ≤ _)⟩)
  dsimp only [Pt.U, Pt.locs, Pt.cells, Pt.slots] at X7 l7 y7 z7 st7 hQ7
  subst l7 y7 z7
  obtain ⟨rfl, N7q, e7⟩ := hQ7
  have N7 := Fr.app N6 N7q
  refine own_step (st' := T7.setTop (mkF m 87 #[.val (.int x0), .val (.int x1), .val (.int (x0 &&& (65535 : Int32))), .val (.int (x1 &&& (65535 : Int32))), .val (.ref b_1)] [(.int (1 : Int32))])) st7 ?_
  refine own_step (st' := T7.setTop (mkF m 90 #[.val (.int x0), .val (.int x1), .val (.int (x0 &&& (65535 : Int32))), .val (.int (x1 &&& (65535 : Int32))), .val (.ref b_1)] [])) (fun t k => XS.ifNo X7.here hx rfl (hb hby at_87) rfl ((if0 _ _).trans (feq (by decide)).1) k) ?_
  refine own_step (st' := T7.setTop (mkF m 92 #[.val (.int x0), .val (.int x1), .val (.int (x0 &&& (65535 : Int32))), .val (.int (x1 &&& (65535 : Int32))), .val (.ref b_1)] [(.ref b_1)])) (fun t k => XS.aload X7.here hx rfl (hb hby at_90) rfl rfl k) ?_
  refine own_step (st' := T7.setTop (mkF m 93 #[.val (.int x0), .val (.int x1), .val (.int (x0 &&& (65535 : Int32))), .val (.int (x1 &&& (65535 : Int32))), .val (.ref b_1)] [(.int (5 : Int32)), (.ref b_1)])) (fun t k => XS.iconst X7.here hx rfl (hb hby at_92) k) ?_
  refine own_step (st' := T7.setTop (mkF m 94 #[.val (.int x0), .val (.int x1), .val (.int (x0 &&& (65535 : Int32))), .val (.int (x1 &&& (65535 : Int32))), .val (.ref b_1)] [(.int (x1 &&& (65535 : Int32))), (.int (5 : Int32)), (.ref b_1)])) (fun t k => XS.iloadN X7.here hx rfl (hb hby at_93) rfl k) ?_
  refine own_step (st' := T7.setTop (mkF m 97 #[.val (.int x0), .val (.int x1), .val (.int (x0 &&& (65535 : Int32))), .val (.int (x1 &&& (65535 : Int32))), .val (.ref b_1)] [(.int (256 : Int32)), (.int (x1 &&& (65535 : Int32))), (.int (5 : Int32)), (.ref b_1)])) (fun t k => XS.sipush X7.here hx rfl (hb hby at_94) k) ?_
  refine own_step (st' := T7.setTop (mkF m 98 #[.val (.int x0), .val (.int x1), .val (.int (x0 &&& (65535 : Int32))), .val (.int (x1 &&& (65535 : Int32))), .val (.ref b_1)] [(.int ((x1 &&& (65535 : Int32)) % (256 : Int32))), (.int (5 : Int32)), (.ref b_1)])) (fun t k => iremM (g := (mkF m 97 #[.val (.int x0), .val (.int x1), .val (.int (x0 &&& (65535 : Int32))), .val (.int (x1 &&& (65535 : Int32))), .val (.ref b_1)] [(.int (256 : Int32)), (.int (x1 &&& (65535 : Int32))), (.int (5 : Int32)), (.ref b_1)])) X7 hx rfl (hb hby at_97) rfl (by decide) k) ?_
  obtain ⟨_, _, ⟨T8, L8, k8, n8⟩, -, X8, ⟨Lc8, hQ8, l8, y8, z8⟩, st8⟩ := Jvm.LawKit.callS X7 hx (y := (⟨"com/example/aturan/aturan/card/FileControlDescribePinLaw", "at", "([BII)Z"⟩ : MethodName)) hown (mvT hZ (hw _ (List.mem_of_getElem? (i := 6) rfl))) (mvT hZ (hw _ (List.mem_of_getElem? (i := 7) rfl))) (mvT hZ (hw _ (List.mem_of_getElem? (i := 8) rfl))) (mvT hZ (hw _ (List.mem_of_getElem? (i := 9) rfl))) (by decide) (backOf (W := 0) (rm2 l Z a0 hw [] b_1 (5 : Int32) ((x1 &&& (65535 : Int32)) % (256 : Int32)) k_1 (14 : Int32) [(.int ((98 : Int32).toInt8.toInt32)), (.int ((12 : Int32).toInt8.toInt32)), (.int ((-128 : Int32).toInt8.toInt32)), (.int ((2 : Int32).toInt8.toInt32)), (.int (((((x1 &&& (65535 : Int32)).toUInt32 >>> ((8 : Int32) &&& 31).toUInt32).toInt32).toInt8.toInt32).toInt8.toInt32)), (.int (((x1 &&& (65535 : Int32)).toInt8.toInt32).toInt8.toInt32)), (.int ((-126 : Int32).toInt8.toInt32)), (.int ((2 : Int32).toInt8.toInt32)), (.int ((65 : Int32).toInt8.toInt32)), (.int ((33 : Int32).toInt8.toInt32)), (.int ((-125 : Int32).toInt8.toInt32)), (.int ((2 : Int32).toInt8.toInt32)), (.int (((((x0 &&& (65535 : Int32)).toUInt32 >>> ((8 : Int32) &&& 31).toUInt32).toInt32).toInt8.toInt32).toInt8.toInt32)), (.int (((x0 &&& (65535 : Int32)).toInt8.toInt32).toInt8.toInt32))] (.int (0 : Int32)) (((x1 &&& (65535 : Int32)).toInt8.toInt32).toInt8.toInt32) h1 n0 Z2 pq1_1 ⟨by decide, by decide⟩ rfl (own_lo _ (own_rng x1).1 (own_rng x1).2)) hZ (hw _ (List.mem_of_getElem? (i := 9) rfl)) (hw _ (List.mem_of_getElem? (i := 8) rfl)) (by decide) (by decide)) (g := (mkF m 98 #[.val (.int x0), .val (.int x1), .val (.int (x0 &&& (65535 : Int32))), .val (.int (x1 &&& (65535 : Int32))), .val (.ref b_1)] [(.int ((x1 &&& (65535 : Int32)) % (256 : Int32))), (.int (5 : Int32)), (.ref b_1)])) rfl (by rw [hml]; rfl) (argsL := [(.ref b_1), (.int (5 : Int32)), (.int ((x1 &&& (65535 : Int32)) % (256 : Int32)))]) (rest := []) (lenOf pd_1 rfl) rfl (by show 2 * 0 + _ ≤ _; exact Nat.le_of_eq rfl) (hb hby at_98) (fun _ _ => ⟨rfl, e7, (by decide : 1 + 0 ≤ _), (by decide : 14 + 0 ≤ _)⟩)
  dsimp only [Pt.U, Pt.locs, Pt.cells, Pt.slots] at X8 l8 y8 z8 st8 hQ8
  subst l8 y8 z8
  obtain ⟨rfl, N8q, e8⟩ := hQ8
  have N8 := Fr.app N7 N8q
  refine own_step (st' := T8.setTop (mkF m 101 #[.val (.int x0), .val (.int x1), .val (.int (x0 &&& (65535 : Int32))), .val (.int (x1 &&& (65535 : Int32))), .val (.ref b_1)] [(.int (1 : Int32))])) st8 ?_
  refine own_step (st' := T8.setTop (mkF m 104 #[.val (.int x0), .val (.int x1), .val (.int (x0 &&& (65535 : Int32))), .val (.int (x1 &&& (65535 : Int32))), .val (.ref b_1)] [])) (fun t k => XS.ifNo X8.here hx rfl (hb hby at_101) rfl ((if0 _ _).trans (feq (by decide)).1) k) ?_
  refine own_step (st' := T8.setTop (mkF m 106 #[.val (.int x0), .val (.int x1), .val (.int (x0 &&& (65535 : Int32))), .val (.int (x1 &&& (65535 : Int32))), .val (.ref b_1)] [(.ref b_1)])) (fun t k => XS.aload X8.here hx rfl (hb hby at_104) rfl rfl k) ?_
  refine own_step (st' := T8.setTop (mkF m 108 #[.val (.int x0), .val (.int x1), .val (.int (x0 &&& (65535 : Int32))), .val (.int (x1 &&& (65535 : Int32))), .val (.ref b_1)] [(.int (6 : Int32)), (.ref b_1)])) (fun t k => XS.bipush X8.here hx rfl (hb hby at_106) k) ?_
  refine own_step (st' := T8.setTop (mkF m 111 #[.val (.int x0), .val (.int x1), .val (.int (x0 &&& (65535 : Int32))), .val (.int (x1 &&& (65535 : Int32))), .val (.ref b_1)] [(.int (130 : Int32)), (.int (6 : Int32)), (.ref b_1)])) (fun t k => XS.sipush X8.here hx rfl (hb hby at_108) k) ?_
  obtain ⟨_, _, ⟨T9, L9, k9, n9⟩, -, X9, ⟨Lc9, hQ9, l9, y9, z9⟩, st9⟩ := Jvm.LawKit.callS X8 hx (y := (⟨"com/example/aturan/aturan/card/FileControlDescribePinLaw", "at", "([BII)Z"⟩ : MethodName)) hown (mvT hZ (hw _ (List.mem_of_getElem? (i := 6) rfl))) (mvT hZ (hw _ (List.mem_of_getElem? (i := 7) rfl))) (mvT hZ (hw _ (List.mem_of_getElem? (i := 8) rfl))) (mvT hZ (hw _ (List.mem_of_getElem? (i := 9) rfl))) (by decide) (backOf (W := 0) (rm2 l Z a0 hw [] b_1 (6 : Int32) (130 : Int32) k_1 (14 : Int32) [(.int ((98 : Int32).toInt8.toInt32)), (.int ((12 : Int32).toInt8.toInt32)), (.int ((-128 : Int32).toInt8.toInt32)), (.int ((2 : Int32).toInt8.toInt32)), (.int (((((x1 &&& (65535 : Int32)).toUInt32 >>> ((8 : Int32) &&& 31).toUInt32).toInt32).toInt8.toInt32).toInt8.toInt32)), (.int (((x1 &&& (65535 : Int32)).toInt8.toInt32).toInt8.toInt32)), (.int ((-126 : Int32).toInt8.toInt32)), (.int ((2 : Int32).toInt8.toInt32)), (.int ((65 : Int32).toInt8.toInt32)), (.int ((33 : Int32).toInt8.toInt32)), (.int ((-125 : Int32).toInt8.toInt32)), (.int ((2 : Int32).toInt8.toInt32)), (.int (((((x0 &&& (65535 : Int32)).toUInt32 >>> ((8 : Int32) &&& 31).toUInt32).toInt32).toInt8.toInt32).toInt8.toInt32)), (.int (((x0 &&& (65535 : Int32)).toInt8.toInt32).toInt8.toInt32))] (.int (0 : Int32)) ((-126 : Int32).toInt8.toInt32) h1 n0 Z2 pq1_1 ⟨by decide, by decide⟩ rfl (by decide)) hZ (hw _ (List.mem_of_getElem? (i := 9) rfl)) (hw _ (List.mem_of_getElem? (i := 8) rfl)) (by decide) (by decide)) (g := (mkF m 111 #[.val (.int x0), .val (.int x1), .val (.int (x0 &&& (65535 : Int32))), .val (.int (x1 &&& (65535 : Int32))), .val (.ref b_1)] [(.int (130 : Int32)), (.int (6 : Int32)), (.ref b_1)])) rfl (by rw [hml]; rfl) (argsL := [(.ref b_1), (.int (6 : Int32)), (.int (130 : Int32))]) (rest := []) (lenOf pd_1 rfl) rfl (by show 2 * 0 + _ ≤ _; exact Nat.le_of_eq rfl) (hb hby at_111) (fun _ _ => ⟨rfl, e8, (by decide : 1 + 0 ≤ _), (by decide : 14 + 0 ≤ _)⟩)
  dsimp only [Pt.U, Pt.locs, Pt.cells, Pt.slots] at X9 l9 y9 z9 st9 hQ9
  subst l9 y9 z9
  obtain ⟨rfl, N9q, e9⟩ := hQ9
  have N9 := Fr.app N8 N9q
  refine own_step (st' := T9.setTop (mkF m 114 #[.val (.int x0), .val (.int x1), .val (.int (x0 &&& (65535 : Int32))), .val (.int (x1 &&& (65535 : Int32))), .val (.ref b_1)] [(.int (1 : Int32))])) st9 ?_
  refine own_step (st' := T9.setTop (mkF m 117 #[.val (.int x0), .val (.int x1), .val (.int (x0 &&& (65535 : Int32))), .val (.int (x1 &&& (65535 : Int32))), .val (.ref b_1)] [])) (fun t k => XS.ifNo X9.here hx rfl (hb hby at_114) rfl ((if0 _ _).trans (feq (by decide)).1) k) ?_
  refine own_step (st' := T9.setTop (mkF m 119 #[.val (.int x0), .val (.int x1), .val (.int (x0 &&& (65535 : Int32))), .val (.int (x1 &&& (65535 : Int32))), .val (.ref b_1)] [(.ref b_1)])) (fun t k => XS.aload X9.here hx rfl (hb hby at_117) rfl rfl k) ?_
  refine own_step (st' := T9.setTop (mkF m 121 #[.val (.int x0), .val (.int x1), .val (.int (x0 &&& (65535 : Int32))), .val (.int (x1 &&& (65535 : Int32))), .val (.ref b_1)] [(.int (7 : Int32)), (.ref b_1)])) (fun t k => XS.bipush X9.here hx rfl (hb hby at_119) k) ?_
  refine own_step (st' := T9.setTop (mkF m 122 #[.val (.int x0), .val (.int x1), .val (.int (x0 &&& (65535 : Int32))), .val (.int (x1 &&& (65535 : Int32))), .val (.ref b_1)] [(.int (2 : Int32)), (.int (7 : Int32)), (.ref b_1)])) (fun t k => XS.iconst X9.here hx rfl (hb hby at_121) k) ?_
  obtain ⟨_, _, ⟨T10, L10, k10, n10⟩, -, X10, ⟨Lc10, hQ10, l10, y10, z10⟩, st10⟩ := Jvm.LawKit.callS X9 hx (y := (⟨"com/example/aturan/aturan/card/FileControlDescribePinLaw", "at", "([BII)Z"⟩ : MethodName)) hown (mvT hZ (hw _ (List.mem_of_getElem? (i := 6) rfl))) (mvT hZ (hw _ (List.mem_of_getElem? (i := 7) rfl))) (mvT hZ (hw _ (List.mem_of_getElem? (i := 8) rfl))) (mvT hZ (hw _ (List.mem_of_getElem? (i := 9) rfl))) (by decide) (backOf (W := 0) (rm2 l Z a0 hw [] b_1 (7 : Int32) (2 : Int32) k_1 (14 : Int32) [(.int ((98 : Int32).toInt8.toInt32)), (.int ((12 : Int32).toInt8.toInt32)), (.int ((-128 : Int32).toInt8.toInt32)), (.int ((2 : Int32).toInt8.toInt32)), (.int (((((x1 &&& (65535 : Int32)).toUInt32 >>> ((8 : Int32) &&& 31).toUInt32).toInt32).toInt8.toInt32).toInt8.toInt32)), (.int (((x1 &&& (65535 : Int32)).toInt8.toInt32).toInt8.toInt32)), (.int ((-126 : Int32).toInt8.toInt32)), (.int ((2 : Int32).toInt8.toInt32)), (.int ((65 : Int32).toInt8.toInt32)), (.int ((33 : Int32).toInt8.toInt32)), (.int ((-125 : Int32).toInt8.toInt32)), (.int ((2 : Int32).toInt8.toInt32)), (.int (((((x0 &&& (65535 : Int32)).toUInt32 >>> ((8 : Int32) &&& 31).toUInt32).toInt32).toInt8.toInt32).toInt8.toInt32)), (.int (((x0 &&& (65535 : Int32)).toInt8.toInt32).toInt8.toInt32))] (.int (0 : Int32)) ((2 : Int32).toInt8.toInt32) h1 n0 Z2 pq1_1 ⟨by decide, by decide⟩ rfl (by decide)) hZ (hw _ (List.mem_of_getElem? (i := 9) rfl)) (hw _ (List.mem_of_getElem? (i := 8) rfl)) (by decide) (by decide)) (g := (mkF m 122 #[.val (.int x0), .val (.int x1), .val (.int (x0 &&& (65535 : Int32))), .val (.int (x1 &&& (65535 : Int32))), .val (.ref b_1)] [(.int (2 : Int32)), (.int (7 : Int32)), (.ref b_1)])) rfl (by rw [hml]; rfl) (argsL := [(.ref b_1), (.int (7 : Int32)), (.int (2 : Int32))]) (rest := []) (lenOf pd_1 rfl) rfl (by show 2 * 0 + _ ≤ _; exact Nat.le_of_eq rfl) (hb hby at_122) (fun _ _ => ⟨rfl, e9, (by decide : 1 + 0 ≤ _), (by decide : 14 + 0 ≤ _)⟩)
  dsimp only [Pt.U, Pt.locs, Pt.cells, Pt.slots] at X10 l10 y10 z10 st10 hQ10
  subst l10 y10 z10
  obtain ⟨rfl, N10q, e10⟩ := hQ10
  have N10 := Fr.app N9 N10q
  refine own_step (st' := T10.setTop (mkF m 125 #[.val (.int x0), .val (.int x1), .val (.int (x0 &&& (65535 : Int32))), .val (.int (x1 &&& (65535 : Int32))), .val (.ref b_1)] [(.int (1 : Int32))])) st10 ?_
  refine own_step (st' := T10.setTop (mkF m 128 #[.val (.int x0), .val (.int x1), .val (.int (x0 &&& (65535 : Int32))), .val (.int (x1 &&& (65535 : Int32))), .val (.ref b_1)] [])) (fun t k => XS.ifNo X10.here hx rfl (hb hby at_125) rfl ((if0 _ _).trans (feq (by decide)).1) k) ?_
  refine own_step (st' := T10.setTop (mkF m 130 #[.val (.int x0), .val (.int x1), .val (.int (x0 &&& (65535 : Int32))), .val (.int (x1 &&& (65535 : Int32))), .val (.ref b_1)] [(.ref b_1)])) (fun t k => XS.aload X10.here hx rfl (hb hby at_128) rfl rfl k) ?_
  refine own_step (st' := T10.setTop (mkF m 132 #[.val (.int x0), .val (.int x1), .val (.int (x0 &&& (65535 : Int32))), .val (.int (x1 &&& (65535 : Int32))), .val (.ref b_1)] [(.int (8 : Int32)), (.ref b_1)])) (fun t k => XS.bipush X10.here hx rfl (hb hby at_130) k) ?_
  refine own_step (st' := T10.setTop (mkF m 134 #[.val (.int x0), .val (.int x1), .val (.int (x0 &&& (65535 : Int32))), .val (.int (x1 &&& (65535 : Int32))), .val (.ref b_1)] [(.int (65 : Int32)), (.int (8 : Int32)), (.ref b_1)])) (fun t k => XS.bipush X10.here hx rfl (hb hby at_132) k) ?_
  obtain ⟨_, _, ⟨T11, L11, k11, n11⟩, -, X11, ⟨Lc11, hQ11, l11, y11, z11⟩, st11⟩ := Jvm.LawKit.callS X10 hx (y := (⟨"com/example/aturan/aturan/card/FileControlDescribePinLaw", "at", "([BII)Z"⟩ : MethodName)) hown (mvT hZ (hw _ (List.mem_of_getElem? (i := 6) rfl))) (mvT hZ (hw _ (List.mem_of_getElem? (i := 7) rfl))) (mvT hZ (hw _ (List.mem_of_getElem? (i := 8) rfl))) (mvT hZ (hw _ (List.mem_of_getElem? (i := 9) rfl))) (by decide) (backOf (W := 0) (rm2 l Z a0 hw [] b_1 (8 : Int32) (65 : Int32) k_1 (14 : Int32) [(.int ((98 : Int32).toInt8.toInt32)), (.int ((12 : Int32).toInt8.toInt32)), (.int ((-128 : Int32).toInt8.toInt32)), (.int ((2 : Int32).toInt8.toInt32)), (.int (((((x1 &&& (65535 : Int32)).toUInt32 >>> ((8 : Int32) &&& 31).toUInt32).toInt32).toInt8.toInt32).toInt8.toInt32)), (.int (((x1 &&& (65535 : Int32)).toInt8.toInt32).toInt8.toInt32)), (.int ((-126 : Int32).toInt8.toInt32)), (.int ((2 : Int32).toInt8.toInt32)), (.int ((65 : Int32).toInt8.toInt32)), (.int ((33 : Int32).toInt8.toInt32)), (.int ((-125 : Int32).toInt8.toInt32)), (.int ((2 : Int32).toInt8.toInt32)), (.int (((((x0 &&& (65535 : Int32)).toUInt32 >>> ((8 : Int32) &&& 31).toUInt32).toInt32).toInt8.toInt32).toInt8.toInt32)), (.int (((x0 &&& (65535 : Int32)).toInt8.toInt32).toInt8.toInt32))] (.int (0 : Int32)) ((65 : Int32).toInt8.toInt32) h1 n0 Z2 pq1_1 ⟨by decide, by decide⟩ rfl (by decide)) hZ (hw _ (List.mem_of_getElem? (i := 9) rfl)) (hw _ (List.mem_of_getElem? (i := 8) rfl)) (by decide) (by decide)) (g := (mkF m 134 #[.val (.int x0), .val (.int x1), .val (.int (x0 &&& (65535 : Int32))), .val (.int (x1 &&& (65535 : Int32))), .val (.ref b_1)] [(.int (65 : Int32)), (.int (8 : Int32)), (.ref b_1)])) rfl (by rw [hml]; rfl) (argsL := [(.ref b_1), (.int (8 : Int32)), (.int (65 : Int32))]) (rest := []) (lenOf pd_1 rfl) rfl (by show 2 * 0 + _ ≤ _; exact Nat.le_of_eq rfl) (hb hby at_134) (fun _ _ => ⟨rfl, e10, (by decide : 1 + 0 ≤ _), (by decide : 14 + 0 ≤ _)⟩)
  dsimp only [Pt.U, Pt.locs, Pt.cells, Pt.slots] at X11 l11 y11 z11 st11 hQ11
  subst l11 y11 z11
  obtain ⟨rfl, N11q, e11⟩ := hQ11
  have N11 := Fr.app N10 N11q
  refine own_step (st' := T11.setTop (mkF m 137 #[.val (.int x0), .val (.int x1), .val (.int (x0 &&& (65535 : Int32))), .val (.int (x1 &&& (65535 : Int32))), .val (.ref b_1)] [(.int (1 : Int32))])) st11 ?_
  refine own_step (st' := T11.setTop (mkF m 140 #[.val (.int x0), .val (.int x1), .val (.int (x0 &&& (65535 : Int32))), .val (.int (x1 &&& (65535 : Int32))), .val (.ref b_1)] [])) (fun t k => XS.ifNo X11.here hx rfl (hb hby at_137) rfl ((if0 _ _).trans (feq (by decide)).1) k) ?_
  refine own_step (st' := T11.setTop (mkF m 142 #[.val (.int x0), .val (.int x1), .val (.int (x0 &&& (65535 : Int32))), .val (.int (x1 &&& (65535 : Int32))), .val (.ref b_1)] [(.ref b_1)])) (fun t k => XS.aload X11.here hx rfl (hb hby at_140) rfl rfl k) ?_
  refine own_step (st' := T11.setTop (mkF m 144 #[.val (.int x0), .val (.int x1), .val (.int (x0 &&& (65535 : Int32))), .val (.int (x1 &&& (65535 : Int32))), .val (.ref b_1)] [(.int (9 : Int32)), (.ref b_1)])) (fun t k => XS.bipush X11.here hx rfl (hb hby at_142) k) ?_
  refine own_step (st' := T11.setTop (mkF m 146 #[.val (.int x0), .val (.int x1), .val (.int (x0 &&& (65535 : Int32))), .val (.int (x1 &&& (65535 : Int32))), .val (.ref b_1)] [(.int (33 : Int32)), (.int (9 : Int32)), (.ref b_1)])) (fun t k => XS.bipush X11.here hx rfl (hb hby at_144) k) ?_
  obtain ⟨_, _, ⟨T12, L12, k12, n12⟩, -, X12, ⟨Lc12, hQ12, l12, y12, z12⟩, st12⟩ := Jvm.LawKit.callS X11 hx (y := (⟨"com/example/aturan/aturan/card/FileControlDescribePinLaw", "at", "([BII)Z"⟩ : MethodName)) hown (mvT hZ (hw _ (List.mem_of_getElem? (i := 6) rfl))) (mvT hZ (hw _ (List.mem_of_getElem? (i := 7) rfl))) (mvT hZ (hw _ (List.mem_of_getElem? (i := 8) rfl))) (mvT hZ (hw _ (List.mem_of_getElem? (i := 9) rfl))) (by decide) (backOf (W := 0) (rm2 l Z a0 hw [] b_1 (9 : Int32) (33 : Int32) k_1 (14 : Int32) [(.int ((98 : Int32).toInt8.toInt32)), (.int ((12 : Int32).toInt8.toInt32)), (.int ((-128 : Int32).toInt8.toInt32)), (.int ((2 : Int32).toInt8.toInt32)), (.int (((((x1 &&& (65535 : Int32)).toUInt32 >>> ((8 : Int32) &&& 31).toUInt32).toInt32).toInt8.toInt32).toInt8.toInt32)), (.int (((x1 &&& (65535 : Int32)).toInt8.toInt32).toInt8.toInt32)), (.int ((-126 : Int32).toInt8.toInt32)), (.int ((2 : Int32).toInt8.toInt32)), (.int ((65 : Int32).toInt8.toInt32)), (.int ((33 : Int32).toInt8.toInt32)), (.int ((-125 : Int32).toInt8.toInt32)), (.int ((2 : Int32).toInt8.toInt32)), (.int (((((x0 &&& (65535 : Int32)).toUInt32 >>> ((8 : Int32) &&& 31).toUInt32).toInt32).toInt8.toInt32).toInt8.toInt32)), (.int (((x0 &&& (65535 : Int32)).toInt8.toInt32).toInt8.toInt32))] (.int (0 : Int32)) ((33 : Int32).toInt8.toInt32) h1 n0 Z2 pq1_1 ⟨by decide, by decide⟩ rfl (by decide)) hZ (hw _ (List.mem_of_getElem? (i := 9) rfl)) (hw _ (List.mem_of_getElem? (i := 8) rfl)) (by decide) (by decide)) (g := (mkF m 146 #[.val (.int x0), .val (.int x1), .val (.int (x0 &&& (65535 : Int32))), .val (.int (x1 &&& (65535 : Int32))), .val (.ref b_1)] [(.int (33 : Int32)), (.int (9 : Int32)), (.ref b_1)])) rfl (by rw [hml]; rfl) (argsL := [(.ref b_1), (.int (9 : Int32)), (.int (33 : Int32))]) (rest := []) (lenOf pd_1 rfl) rfl (by show 2 * 0 + _ ≤ _; exact Nat.le_of_eq rfl) (hb hby at_146) (fun _ _ => ⟨rfl, e11, (by decide : 1 + 0 ≤ _), (by decide : 14 + 0 ≤ _)⟩)
  dsimp only [Pt.U, Pt.locs, Pt.cells, Pt.slots] at X12 l12 y12 z12 st12 hQ12
  subst l12 y12 z12
  obtain ⟨rfl, N12q, e12⟩ := hQ12
  have N12 := Fr.app N11 N12q
  refine own_step (st' := T12.setTop (mkF m 149 #[.val (.int x0), .val (.int x1), .val (.int (x0 &&& (65535 : Int32))), .val (.int (x1 &&& (65535 : Int32))), .val (.ref b_1)] [(.int (1 : Int32))])) st12 ?_
  refine own_step (st' := T12.setTop (mkF m 152 #[.val (.int x0), .val (.int x1), .val (.int (x0 &&& (65535 : Int32))), .val (.int (x1 &&& (65535 : Int32))), .val (.ref b_1)] [])) (fun t k => XS.ifNo X12.here hx rfl (hb hby at_149) rfl ((if0 _ _).trans (feq (by decide)).1) k) ?_
  refine own_step (st' := T12.setTop (mkF m 154 #[.val (.int x0), .val (.int x1), .val (.int (x0 &&& (65535 : Int32))), .val (.int (x1 &&& (65535 : Int32))), .val (.ref b_1)] [(.ref b_1)])) (fun t k => XS.aload X12.here hx rfl (hb hby at_152) rfl rfl k) ?_
  refine own_step (st' := T12.setTop (mkF m 156 #[.val (.int x0), .val (.int x1), .val (.int (x0 &&& (65535 : Int32))), .val (.int (x1 &&& (65535 : Int32))), .val (.ref b_1)] [(.int (10 : Int32)), (.ref b_1)])) (fun t k => XS.bipush X12.here hx rfl (hb hby at_154) k) ?_
  refine own_step (st' := T12.setTop (mkF m 159 #[.val (.int x0), .val (.int x1), .val (.int (x0 &&& (65535 : Int32))), .val (.int (x1 &&& (65535 : Int32))), .val (.ref b_1)] [(.int (131 : Int32)), (.int (10 : Int32)), (.ref b_1)])) (fun t k => XS.sipush X12.here hx rfl (hb hby at_156) k) ?_
  obtain ⟨_, _, ⟨T13, L13, k13, n13⟩, -, X13, ⟨Lc13, hQ13, l13, y13, z13⟩, st13⟩ := Jvm.LawKit.callS X12 hx (y := (⟨"com/example/aturan/aturan/card/FileControlDescribePinLaw", "at", "([BII)Z"⟩ : MethodName)) hown (mvT hZ (hw _ (List.mem_of_getElem? (i := 6) rfl))) (mvT hZ (hw _ (List.mem_of_getElem? (i := 7) rfl))) (mvT hZ (hw _ (List.mem_of_getElem? (i := 8) rfl))) (mvT hZ (hw _ (List.mem_of_getElem? (i := 9) rfl))) (by decide) (backOf (W := 0) (rm2 l Z a0 hw [] b_1 (10 : Int32) (131 : Int32) k_1 (14 : Int32) [(.int ((98 : Int32).toInt8.toInt32)), (.int ((12 : Int32).toInt8.toInt32)), (.int ((-128 : Int32).toInt8.toInt32)), (.int ((2 : Int32).toInt8.toInt32)), (.int (((((x1 &&& (65535 : Int32)).toUInt32 >>> ((8 : Int32) &&& 31).toUInt32).toInt32).toInt8.toInt32).toInt8.toInt32)), (.int (((x1 &&& (65535 : Int32)).toInt8.toInt32).toInt8.toInt32)), (.int ((-126 : Int32).toInt8.toInt32)), (.int ((2 : Int32).toInt8.toInt32)), (.int ((65 : Int32).toInt8.toInt32)), (.int ((33 : Int32).toInt8.toInt32)), (.int ((-125 : Int32).toInt8.toInt32)), (.int ((2 : Int32).toInt8.toInt32)), (.int (((((x0 &&& (65535 : Int32)).toUInt32 >>> ((8 : Int32) &&& 31).toUInt32).toInt32).toInt8.toInt32).toInt8.toInt32)), (.int (((x0 &&& (65535 : Int32)).toInt8.toInt32).toInt8.toInt32))] (.int (0 : Int32)) ((-125 : Int32).toInt8.toInt32) h1 n0 Z2 pq1_1 ⟨by decide, by decide⟩ rfl (by decide)) hZ (hw _ (List.mem_of_getElem? (i := 9) rfl)) (hw _ (List.mem_of_getElem? (i := 8) rfl)) (by decide) (by decide)) (g := (mkF m 159 #[.val (.int x0), .val (.int x1), .val (.int (x0 &&& (65535 : Int32))), .val (.int (x1 &&& (65535 : Int32))), .val (.ref b_1)] [(.int (131 : Int32)), (.int (10 : Int32)), (.ref b_1)])) rfl (by rw [hml]; rfl) (argsL := [(.ref b_1), (.int (10 : Int32)), (.int (131 : Int32))]) (rest := []) (lenOf pd_1 rfl) rfl (by show 2 * 0 + _ ≤ _; exact Nat.le_of_eq rfl) (hb hby at_159) (fun _ _ => ⟨rfl, e12, (by decide : 1 + 0 ≤ _), (by decide : 14 + 0 ≤ _)⟩)
  dsimp only [Pt.U, Pt.locs, Pt.cells, Pt.slots] at X13 l13 y13 z13 st13 hQ13
  subst l13 y13 z13
  obtain ⟨rfl, N13q, e13⟩ := hQ13
  have N13 := Fr.app N12 N13q
  refine own_step (st' := T13.setTop (mkF m 162 #[.val (.int x0), .val (.int x1), .val (.int (x0 &&& (65535 : Int32))), .val (.int (x1 &&& (65535 : Int32))), .val (.ref b_1)] [(.int (1 : Int32))])) st13 ?_
  refine own_step (st' := T13.setTop (mkF m 165 #[.val (.int x0), .val (.int x1), .val (.int (x0 &&& (65535 : Int32))), .val (.int (x1 &&& (65535 : Int32))), .val (.ref b_1)] [])) (fun t k => XS.ifNo X13.here hx rfl (hb hby at_162) rfl ((if0 _ _).trans (feq (by decide)).1) k) ?_
  refine own_step (st' := T13.setTop (mkF m 167 #[.val (.int x0), .val (.int x1), .val (.int (x0 &&& (65535 : Int32))), .val (.int (x1 &&& (65535 : Int32))), .val (.ref b_1)] [(.ref b_1)])) (fun t k => XS.aload X13.here hx rfl (hb hby at_165) rfl rfl k) ?_
  refine own_step (st' := T13.setTop (mkF m 169 #[.val (.int x0), .val (.int x1), .val (.int (x0 &&& (65535 : Int32))), .val (.int (x1 &&& (65535 : Int32))), .val (.ref b_1)] [(.int (11 : Int32)), (.ref b_1)])) (fun t k => XS.bipush X13.here hx rfl (hb hby at_167) k) ?_
  refine own_step (st' := T13.setTop (mkF m 170 #[.val (.int x0), .val (.int x1), .val (.int (x0 &&& (65535 : Int32))), .val (.int (x1 &&& (65535 : Int32))), .val (.ref b_1)] [(.int (2 : Int32)), (.int (11 : Int32)), (.ref b_1)])) (fun t k => XS.iconst X13.here hx rfl (hb hby at_169) k) ?_
  obtain ⟨_, _, ⟨T14, L14, k14, n14⟩, -, X14, ⟨Lc14, hQ14, l14, y14, z14⟩, st14⟩ := Jvm.LawKit.callS X13 hx (y := (⟨"com/example/aturan/aturan/card/FileControlDescribePinLaw", "at", "([BII)Z"⟩ : MethodName)) hown (mvT hZ (hw _ (List.mem_of_getElem? (i := 6) rfl))) (mvT hZ (hw _ (List.mem_of_getElem? (i := 7) rfl))) (mvT hZ (hw _ (List.mem_of_getElem? (i := 8) rfl))) (mvT hZ (hw _ (List.mem_of_getElem? (i := 9) rfl))) (by decide) (backOf (W := 0) (rm2 l Z a0 hw [] b_1 (11 : Int32) (2 : Int32) k_1 (14 : Int32) [(.int ((98 : Int32).toInt8.toInt32)), (.int ((12 : Int32).toInt8.toInt32)), (.int ((-128 : Int32).toInt8.toInt32)), (.int ((2 : Int32).toInt8.toInt32)), (.int (((((x1 &&& (65535 : Int32)).toUInt32 >>> ((8 : Int32) &&& 31).toUInt32).toInt32).toInt8.toInt32).toInt8.toInt32)), (.int (((x1 &&& (65535 : Int32)).toInt8.toInt32).toInt8.toInt32)), (.int ((-126 : Int32).toInt8.toInt32)), (.int ((2 : Int32).toInt8.toInt32)), (.int ((65 : Int32).toInt8.toInt32)), (.int ((33 : Int32).toInt8.toInt32)), (.int ((-125 : Int32).toInt8.toInt32)), (.int ((2 : Int32).toInt8.toInt32)), (.int (((((x0 &&& (65535 : Int32)).toUInt32 >>> ((8 : Int32) &&& 31).toUInt32).toInt32).toInt8.toInt32).toInt8.toInt32)), (.int (((x0 &&& (65535 : Int32)).toInt8.toInt32).toInt8.toInt32))] (.int (0 : Int32)) ((2 : Int32).toInt8.toInt32) h1 n0 Z2 pq1_1 ⟨by decide, by decide⟩ rfl (by decide)) hZ (hw _ (List.mem_of_getElem? (i := 9) rfl)) (hw _ (List.mem_of_getElem? (i := 8) rfl)) (by decide) (by decide)) (g := (mkF m 170 #[.val (.int x0), .val (.int x1), .val (.int (x0 &&& (65535 : Int32))), .val (.int (x1 &&& (65535 : Int32))), .val (.ref b_1)] [(.int (2 : Int32)), (.int (11 : Int32)), (.ref b_1)])) rfl (by rw [hml]; rfl) (argsL := [(.ref b_1), (.int (11 : Int32)), (.int (2 : Int32))]) (rest := []) (lenOf pd_1 rfl) rfl (by show 2 * 0 + _ ≤ _; exact Nat.le_of_eq rfl) (hb hby at_170) (fun _ _ => ⟨rfl, e13, (by decide : 1 + 0 ≤ _), (by decide : 14 + 0 ≤ _)⟩)
  dsimp only [Pt.U, Pt.locs, Pt.cells, Pt.slots] at X14 l14 y14 z14 st14 hQ14
  subst l14 y14 z14
  obtain ⟨rfl, N14q, e14⟩ := hQ14
  have N14 := Fr.app N13 N14q
  refine own_step (st' := T14.setTop (mkF m 173 #[.val (.int x0), .val (.int x1), .val (.int (x0 &&& (65535 : Int32))), .val (.int (x1 &&& (65535 : Int32))), .val (.ref b_1)] [(.int (1 : Int32))])) st14 ?_
  refine own_step (st' := T14.setTop (mkF m 176 #[.val (.int x0), .val (.int x1), .val (.int (x0 &&& (65535 : Int32))), .val (.int (x1 &&& (65535 : Int32))), .val (.ref b_1)] [])) (fun t k => XS.ifNo X14.here hx rfl (hb hby at_173) rfl ((if0 _ _).trans (feq (by decide)).1) k) ?_
  refine own_step (st' := T14.setTop (mkF m 178 #[.val (.int x0), .val (.int x1), .val (.int (x0 &&& (65535 : Int32))), .val (.int (x1 &&& (65535 : Int32))), .val (.ref b_1)] [(.ref b_1)])) (fun t k => XS.aload X14.here hx rfl (hb hby at_176) rfl rfl k) ?_
  refine own_step (st' := T14.setTop (mkF m 180 #[.val (.int x0), .val (.int x1), .val (.int (x0 &&& (65535 : Int32))), .val (.int (x1 &&& (65535 : Int32))), .val (.ref b_1)] [(.int (12 : Int32)), (.ref b_1)])) (fun t k => XS.bipush X14.here hx rfl (hb hby at_178) k) ?_
  refine own_step (st' := T14.setTop (mkF m 181 #[.val (.int x0), .val (.int x1), .val (.int (x0 &&& (65535 : Int32))), .val (.int (x1 &&& (65535 : Int32))), .val (.ref b_1)] [(.int (x0 &&& (65535 : Int32))), (.int (12 : Int32)), (.ref b_1)])) (fun t k => XS.iloadN X14.here hx rfl (hb hby at_180) rfl k) ?_
  refine own_step (st' := T14.setTop (mkF m 184 #[.val (.int x0), .val (.int x1), .val (.int (x0 &&& (65535 : Int32))), .val (.int (x1 &&& (65535 : Int32))), .val (.ref b_1)] [(.int (256 : Int32)), (.int (x0 &&& (65535 : Int32))), (.int (12 : Int32)), (.ref b_1)])) (fun t k => XS.sipush X14.here hx rfl (hb hby at_181) k) ?_
  refine own_step (st' := T14.setTop (mkF m 185 #[.val (.int x0), .val (.int x1), .val (.int (x0 &&& (65535 : Int32))), .val (.int (x1 &&& (65535 : Int32))), .val (.ref b_1)] [(.int ((x0 &&& (65535 : Int32)) / (256 : Int32))), (.int (12 : Int32)), (.ref b_1)])) (fun t k => XS.idiv X14.here hx rfl (hb hby at_184) rfl (by decide) k) ?_
  obtain ⟨_, _, ⟨T15, L15, k15, n15⟩, -, X15, ⟨Lc15, hQ15, l15, y15, z15⟩, st15⟩ := Jvm.LawKit.callS X14 hx (y := (⟨"com/example/aturan/aturan/card/FileControlDescribePinLaw", "at", "([BII)Z"⟩ : MethodName)) hown (mvT hZ (hw _ (List.mem_of_getElem? (i := 6) rfl))) (mvT hZ (hw _ (List.mem_of_getElem? (i := 7) rfl))) (mvT hZ (hw _ (List.mem_of_getElem? (i := 8) rfl))) (mvT hZ (hw _ (List.mem_of_getElem? (i := 9) rfl))) (by decide) (backOf (W := 0) (rm2 l Z a0 hw [] b_1 (12 : Int32) ((x0 &&& (65535 : Int32)) / (256 : Int32)) k_1 (14 : Int32) [(.int ((98 : Int32).toInt8.toInt32)), (.int ((12 : Int32).toInt8.toInt32)), (.int ((-128 : Int32).toInt8.toInt32)), (.int ((2 : Int32).toInt8.toInt32)), (.int (((((x1 &&& (65535 : Int32)).toUInt32 >>> ((8 : Int32) &&& 31).toUInt32).toInt32).toInt8.toInt32).toInt8.toInt32)), (.int (((x1 &&& (65535 : Int32)).toInt8.toInt32).toInt8.toInt32)), (.int ((-126 : Int32).toInt8.toInt32)), (.int ((2 : Int32).toInt8.toInt32)), (.int ((65 : Int32).toInt8.toInt32)), (.int ((33 : Int32).toInt8.toInt32)), (.int ((-125 : Int32).toInt8.toInt32)), (.int ((2 : Int32).toInt8.toInt32)), (.int (((((x0 &&& (65535 : Int32)).toUInt32 >>> ((8 : Int32) &&& 31).toUInt32).toInt32).toInt8.toInt32).toInt8.toInt32)), (.int (((x0 &&& (65535 : Int32)).toInt8.toInt32).toInt8.toInt32))] (.int (0 : Int32)) (((((x0 &&& (65535 : Int32)).toUInt32 >>> ((8 : Int32) &&& 31).toUInt32).toInt32).toInt8.toInt32).toInt8.toInt32) h1 n0 Z2 pq1_1 ⟨by decide, by decide⟩ rfl (own_hi _ (own_rng x0).1 (own_rng x0).2)) hZ (hw _ (List.mem_of_getElem? (i := 9) rfl)) (hw _ (List.mem_of_getElem? (i := 8) rfl)) (by decide) (by decide)) (g := (mkF m 185 #[.val (.int x0), .val (.int x1), .val (.int (x0 &&& (65535 : Int32))), .val (.int (x1 &&& (65535 : Int32))), .val (.ref b_1)] [(.int ((x0 &&& (65535 : Int32)) / (256 : Int32))), (.int (12 : Int32)), (.ref b_1)])) rfl (by rw [hml]; rfl) (argsL := [(.ref b_1), (.int (12 : Int32)), (.int ((x0 &&& (65535 : Int32)) / (256 : Int32)))]) (rest := []) (lenOf pd_1 rfl) rfl (by show 2 * 0 + _ ≤ _; exact Nat.le_of_eq rfl) (hb hby at_185) (fun _ _ => ⟨rfl, e14, (by decide : 1 + 0 ≤ _), (by decide : 14 + 0 ≤ _)⟩)
  dsimp only [Pt.U, Pt.locs, Pt.cells, Pt.slots] at X15 l15 y15 z15 st15 hQ15
  subst l15 y15 z15
  obtain ⟨rfl, N15q, e15⟩ := hQ15
  have N15 := Fr.app N14 N15q
  refine own_step (st' := T15.setTop (mkF m 188 #[.val (.int x0), .val (.int x1), .val (.int (x0 &&& (65535 : Int32))), .val (.int (x1 &&& (65535 : Int32))), .val (.ref b_1)] [(.int (1 : Int32))])) st15 ?_
  refine own_step (st' := T15.setTop (mkF m 191 #[.val (.int x0), .val (.int x1), .val (.int (x0 &&& (65535 : Int32))), .val (.int (x1 &&& (65535 : Int32))), .val (.ref b_1)] [])) (fun t k => XS.ifNo X15.here hx rfl (hb hby at_188) rfl ((if0 _ _).trans (feq (by decide)).1) k) ?_
  refine own_step (st' := T15.setTop (mkF m 193 #[.val (.int x0), .val (.int x1), .val (.int (x0 &&& (65535 : Int32))), .val (.int (x1 &&& (65535 : Int32))), .val (.ref b_1)] [(.ref b_1)])) (fun t k => XS.aload X15.here hx rfl (hb hby at_191) rfl rfl k) ?_
  refine own_step (st' := T15.setTop (mkF m 195 #[.val (.int x0), .val (.int x1), .val (.int (x0 &&& (65535 : Int32))), .val (.int (x1 &&& (65535 : Int32))), .val (.ref b_1)] [(.int (13 : Int32)), (.ref b_1)])) (fun t k => XS.bipush X15.here hx rfl (hb hby at_193) k) ?_
  refine own_step (st' := T15.setTop (mkF m 196 #[.val (.int x0), .val (.int x1), .val (.int (x0 &&& (65535 : Int32))), .val (.int (x1 &&& (65535 : Int32))), .val (.ref b_1)] [(.int (x0 &&& (65535 : Int32))), (.int (13 : Int32)), (.ref b_1)])) (fun t k => XS.iloadN X15.here hx rfl (hb hby at_195) rfl k) ?_
  refine own_step (st' := T15.setTop (mkF m 199 #[.val (.int x0), .val (.int x1), .val (.int (x0 &&& (65535 : Int32))), .val (.int (x1 &&& (65535 : Int32))), .val (.ref b_1)] [(.int (256 : Int32)), (.int (x0 &&& (65535 : Int32))), (.int (13 : Int32)), (.ref b_1)])) (fun t k => XS.sipush X15.here hx rfl (hb hby at_196) k) ?_
  refine own_step (st' := T15.setTop (mkF m 200 #[.val (.int x0), .val (.int x1), .val (.int (x0 &&& (65535 : Int32))), .val (.int (x1 &&& (65535 : Int32))), .val (.ref b_1)] [(.int ((x0 &&& (65535 : Int32)) % (256 : Int32))), (.int (13 : Int32)), (.ref b_1)])) (fun t k => iremM (g := (mkF m 199 #[.val (.int x0), .val (.int x1), .val (.int (x0 &&& (65535 : Int32))), .val (.int (x1 &&& (65535 : Int32))), .val (.ref b_1)] [(.int (256 : Int32)), (.int (x0 &&& (65535 : Int32))), (.int (13 : Int32)), (.ref b_1)])) X15 hx rfl (hb hby at_199) rfl (by decide) k) ?_
  obtain ⟨_, _, ⟨T16, L16, k16, n16⟩, -, X16, ⟨Lc16, hQ16, l16, y16, z16⟩, st16⟩ := Jvm.LawKit.callS X15 hx (y := (⟨"com/example/aturan/aturan/card/FileControlDescribePinLaw", "at", "([BII)Z"⟩ : MethodName)) hown (mvT hZ (hw _ (List.mem_of_getElem? (i := 6) rfl))) (mvT hZ (hw _ (List.mem_of_getElem? (i := 7) rfl))) (mvT hZ (hw _ (List.mem_of_getElem? (i := 8) rfl))) (mvT hZ (hw _ (List.mem_of_getElem? (i := 9) rfl))) (by decide) (backOf (W := 0) (rm2 l Z a0 hw [] b_1 (13 : Int32) ((x0 &&& (65535 : Int32)) % (256 : Int32)) k_1 (14 : Int32) [(.int ((98 : Int32).toInt8.toInt32)), (.int ((12 : Int32).toInt8.toInt32)), (.int ((-128 : Int32).toInt8.toInt32)), (.int ((2 : Int32).toInt8.toInt32)), (.int (((((x1 &&& (65535 : Int32)).toUInt32 >>> ((8 : Int32) &&& 31).toUInt32).toInt32).toInt8.toInt32).toInt8.toInt32)), (.int (((x1 &&& (65535 : Int32)).toInt8.toInt32).toInt8.toInt32)), (.int ((-126 : Int32).toInt8.toInt32)), (.int ((2 : Int32).toInt8.toInt32)), (.int ((65 : Int32).toInt8.toInt32)), (.int ((33 : Int32).toInt8.toInt32)), (.int ((-125 : Int32).toInt8.toInt32)), (.int ((2 : Int32).toInt8.toInt32)), (.int (((((x0 &&& (65535 : Int32)).toUInt32 >>> ((8 : Int32) &&& 31).toUInt32).toInt32).toInt8.toInt32).toInt8.toInt32)), (.int (((x0 &&& (65535 : Int32)).toInt8.toInt32).toInt8.toInt32))] (.int (0 : Int32)) (((x0 &&& (65535 : Int32)).toInt8.toInt32).toInt8.toInt32) h1 n0 Z2 pq1_1 ⟨by decide, by decide⟩ rfl (own_lo _ (own_rng x0).1 (own_rng x0).2)) hZ (hw _ (List.mem_of_getElem? (i := 9) rfl)) (hw _ (List.mem_of_getElem? (i := 8) rfl)) (by decide) (by decide)) (g := (mkF m 200 #[.val (.int x0), .val (.int x1), .val (.int (x0 &&& (65535 : Int32))), .val (.int (x1 &&& (65535 : Int32))), .val (.ref b_1)] [(.int ((x0 &&& (65535 : Int32)) % (256 : Int32))), (.int (13 : Int32)), (.ref b_1)])) rfl (by rw [hml]; rfl) (argsL := [(.ref b_1), (.int (13 : Int32)), (.int ((x0 &&& (65535 : Int32)) % (256 : Int32)))]) (rest := []) (lenOf pd_1 rfl) rfl (by show 2 * 0 + _ ≤ _; exact Nat.le_of_eq rfl) (hb hby at_200) (fun _ _ => ⟨rfl, e15, (by decide : 1 + 0 ≤ _), (by decide : 14 + 0 ≤ _)⟩)
  dsimp only [Pt.U, Pt.locs, Pt.cells, Pt.slots] at X16 l16 y16 z16 st16 hQ16
  subst l16 y16 z16
  obtain ⟨rfl, N16q, e16⟩ := hQ16
  have N16 := Fr.app N15 N16q
  refine own_step (st' := T16.setTop (mkF m 203 #[.val (.int x0), .val (.int x1), .val (.int (x0 &&& (65535 : Int32))), .val (.int (x1 &&& (65535 : Int32))), .val (.ref b_1)] [(.int (1 : Int32))])) st16 ?_
  refine own_step (st' := T16.setTop (mkF m 206 #[.val (.int x0), .val (.int x1), .val (.int (x0 &&& (65535 : Int32))), .val (.int (x1 &&& (65535 : Int32))), .val (.ref b_1)] [])) (fun t k => XS.ifNo X16.here hx rfl (hb hby at_203) rfl ((if0 _ _).trans (feq (by decide)).1) k) ?_
  refine own_step (st' := T16.setTop (mkF m 207 #[.val (.int x0), .val (.int x1), .val (.int (x0 &&& (65535 : Int32))), .val (.int (x1 &&& (65535 : Int32))), .val (.ref b_1)] [(.int (1 : Int32))])) (fun t k => XS.iconst X16.here hx rfl (hb hby at_206) k) ?_
  refine own_step (st' := T16.setTop (mkF m 211 #[.val (.int x0), .val (.int x1), .val (.int (x0 &&& (65535 : Int32))), .val (.int (x1 &&& (65535 : Int32))), .val (.ref b_1)] [(.int (1 : Int32))])) (fun t k => XS.goto X16.here hx rfl (pc0 := 207) (pc' := 211) rfl (hb hby at_207) (by decide) (by decide) k) ?_
  refine own_ret X16 Bd.notSynchronized (some (.int (1 : Int32))) (fun h => by rw [Bd.returns] at h; cases h) (fun fs hr => retN X16 hx (t := .boolean) Bd.returns (by simp) (hb hby at_211) hr) ?_ (by decide) (by decide)
  rw [e16]
  exact ⟨rfl, N16⟩
set_option maxRecDepth 65536 in
set_option maxHeartbeats 40000000 in
theorem comes_1 {Post : Tables → Env → Array Value → State → Outcome → State → Prop} (hpost : ∀ tb e args s v u, (limb_1_1.after args s (.returned v) u = true ∧ limb_1_2.after args s (.returned v) u = true ∧ True) → FrameEnd s (.returned v) u (Jvm.fieldLocs frame_1_writes args s ++ Jvm.arrayLocs frame_1_arrays args s ++ Jvm.staticLocs frame_1_statics s) 16 128 → Post tb e args s (.returned v) u) :
    ArmFor flags0 classFile x code maxLocals ret World_1 tables_1 room_1 Calls_1 rest_1 Pre_1 Post := by
  intro l hfl _ _ p e ha hc hk s m args below hf hA hF happ hP
  obtain ⟨hcalls, hrest, hpre⟩ := hP
  obtain ⟨-, -, -, hnamed, -, -, -, hat⟩ := (Spec.applies_iff hf).mp happ
  obtain ⟨hg, hn⟩ := and_e (Cond.before_iff.mp (show (Jvm.Cond.and given_1 narrow_1).before args s = true from hpre))
  obtain ⟨hcount, hg0⟩ := and_e hg
  obtain ⟨ha0, hg1⟩ := and_e hg0
  obtain ⟨w0, w1, rfl⟩ : ∃ w0 w1 : Value, args = #[w0, w1] := by
    have hs : args.size = 2 := by simpa [Cond.value, given_1] using hcount
    obtain ⟨L⟩ := args
    match L, hs with
    | [w0, w1], _ => exact ⟨w0, w1, rfl⟩
  have hw := fun d (hd : d ∈ tables_1) => atoms_spec (ws := Jvm.Cond.code x code maxLocals ret :: tables_1) hat d (List.mem_cons_of_mem _ hd)
  have hfit : Fit s := fun {y c} hc i hi => by
    obtain ⟨ha, rfl⟩ := Array.getElem?_eq_some_iff.mp hc
    have q := List.all_eq_true.mp ((Array.all_eq_true_iff_forall_mem.mp hF) _ (Array.getElem_mem ha)) i (List.mem_range.mpr hi)
    simpa [Array.getElem?_eq_getElem hi] using q
  obtain ⟨i0, ei0⟩ := is_v ha0
  obtain rfl : w0 = (.int i0) := Option.some.inj ei0
  obtain ⟨i1, ei1⟩ := is_v hg1
  obtain rfl : w1 = (.int i1) := Option.some.inj ei1
  obtain ⟨n, o, h1, h2, h3, _, L, rfl, ⟨rfl, N⟩, hq⟩ := rm0 l s _ hw tables_1 i0 i1 s.heap s.heap.size (Nat.le_refl _) p e ha hc hk s m _ below hf ((Spec.applies_iff_loose hf).mp happ).1 ⟨rfl, State.Warmed39.refl s, rfl⟩ trivial
  refine ⟨n, _, h1, h2, h3, hpost _ _ _ _ _ _ ⟨Cond.after_iff.mpr rfl, Cond.after_iff.mpr (eq_i res_at (Term.int_eval (1)) rfl), trivial⟩ ⟨hq.1, hq.2.1, (hq.2.2.sift fun y hy => Or.inr (N y hy)).mono (by decide) (by decide)⟩⟩
theorem main_1_1 : Claimed_1_1 := comes_1 fun _ _ _ _ _ _ h hF => ⟨h.1, hF⟩
theorem main_1_2 : Claimed_1_2 := comes_1 fun _ _ _ _ _ _ h hF => ⟨h.2.1, hF⟩
end Jvm.Pilot.@@N@@
namespace Jvm.Pilot.@@N@@
open Jvm Jvm.ClassFile Sem Op Lib Jvm.Free Jvm.Stand Jvm.Pilot.@@N@@.Jvm.D
/-! MADE BY PROGRAM (witnessworld.py) out of the Statement's table words and the real class files: 9 classes; the members and pool entries that the words name. The judged class is class 1, her method 2. -/
namespace start1
open Jvm.ClassFile
def u (s : String) : CpInfo := .utf8 (stringToUtf16 s)
/-- a pool by its gaps: so many unusable entries, then the entry; so many at the end -/
def gap : Nat → List CpInfo → List CpInfo
  | 0, r => r
  | n + 1, r => .unusable :: gap n r
def poolList (es : List (Nat × CpInfo)) (last : Nat) : List CpInfo := es.foldr (fun e r => gap e.1 (e.2 :: r)) (gap last [])
def pool (es : List (Nat × CpInfo)) (last : Nat) : Array CpInfo := ⟨poolList es last⟩
def fileOf (pool : Array CpInfo) (this : Nat) (attrs : Array Attribute := #[]) (ms : Array MethodInfo := #[]) (fl : Nat := 33) (sup : Nat := 0) (ifs : Array Nat := #[]) (fds : Array FieldInfo := #[]) : ClassFile where
  minorVersion := 0
  majorVersion := 65
  constantPool := pool
  accessFlags := fl
  thisClass := this
  superClass := sup
  interfaces := ifs
  fields := fds
  methods := ms
  attributes := attrs
def plain (name : String) (sup : Option ClassId) : Class where
  name := name
  kind := .ordinary
  loader := none
  accessFlags := 33
  super := sup
  interfaces := #[]
  cf := none
  fields := #[]
  methods := #[]
  instanceTypes := #[]
  staticTypes := #[]
  resolved := #[]
  callSites := []
  init := .initialized
  statics := none
  mirror := none

def pool0 : Array CpInfo := pool [(5, u "<init>"), (0, u "()V"), (1, .class_ 10), (1, u "java/lang/Object")] 113

def k0m0 : Method := { name := "<init>", desc := "()V", sig := { parameters := [], returnType := none }, accessFlags := 1, code := none }
/-- java/lang/Object -/
def k0 : Class := { plain "java/lang/Object" none with
  accessFlags := 33
  interfaces := #[]
  cf := some (fileOf pool0 8 #[] #[{ accessFlags := 1, nameIndex := 5, descriptorIndex := 6, attributes := #[] }] 33 0 #[] #[])
  fields := #[]
  methods := #[k0m0]
  instanceTypes := #[]
  staticTypes := #[]
  resolved := Array.replicate 124 none
  statics := none }

def pool1 : Array CpInfo := pool [(2, .class_ 4), (1, u "java/lang/Object"), (0, u "<init>"), (0, u "()V"), (0, .integer 65535), (0, .methodref 9 10), (0, .class_ 11), (0, .nameAndType 12 13), (0, u "com/example/aturan/aturan/card/FileControl"), (0, u "describe"), (0, u "(II)[B"), (0, .methodref 15 16), (0, .class_ 17), (0, .nameAndType 18 19), (0, u "com/example/aturan/aturan/card/FileControlDescribePinLaw"), (0, u "at"), (0, u "([BII)Z"), (3, u "law"), (0, u "(II)Z")] 4

def k1m0 : Method := { name := "<init>", desc := "()V", sig := { parameters := [], returnType := none }, accessFlags := 2, code := none }
def k1c1 : Code := { maxStack := 2, maxLocals := 3, code := method_2_code, exceptionTable := #[], attributes := #[] }
def k1m1 : Method := { name := "at", desc := "([BII)Z", sig := { parameters := [(.array .byte), .int, .int], returnType := some .boolean }, accessFlags := 10, code := some k1c1 }
def k1c2 : Code := { maxStack := 4, maxLocals := 5, code := code, exceptionTable := #[], attributes := #[] }
def k1m2 : Method := { name := "law", desc := "(II)Z", sig := { parameters := [.int, .int], returnType := some .boolean }, accessFlags := 9, code := some k1c2 }
/-- com/example/aturan/aturan/card/FileControlDescribePinLaw -/
def k1 : Class := { plain "com/example/aturan/aturan/card/FileControlDescribePinLaw" (some 0) with
  accessFlags := 49
  interfaces := #[]
  cf := some (fileOf pool1 15 #[] #[{ accessFlags := 2, nameIndex := 5, descriptorIndex := 6, attributes := #[] }, { accessFlags := 10, nameIndex := 18, descriptorIndex := 19, attributes := #[] }, { accessFlags := 9, nameIndex := 23, descriptorIndex := 24, attributes := #[] }] 49 2 #[] #[])
  fields := #[]
  methods := #[k1m0, k1m1, k1m2]
  instanceTypes := #[]
  staticTypes := #[]
  resolved := Array.replicate 29 none
  statics := none }

def pool2 : Array CpInfo := pool [(2, .class_ 4), (1, u "java/lang/Object"), (0, u "<init>"), (0, u "()V"), (0, .class_ 8), (0, u "com/example/aturan/aturan/card/FileControl"), (74, u "TEMPLATE"), (0, u "I"), (2, u "SIZE"), (1, u "DESCRIPTOR"), (1, u "FILE_ID"), (1, u "TRANSPARENT_FILE"), (1, u "DATA_CODING"), (1, u "MAX_SIZE_BYTES"), (3, u "describe"), (0, u "(II)[B")] 38

def k2m0 : Method := { name := "<init>", desc := "()V", sig := { parameters := [], returnType := none }, accessFlags := 2, code := none }
def k2c1 : Code := { maxStack := 5, maxLocals := 2, code := prog_7_method_2_code, exceptionTable := #[], attributes := #[] }
def k2m1 : Method := { name := "describe", desc := "(II)[B", sig := { parameters := [.int, .int], returnType := some (.array .byte) }, accessFlags := 8, code := some k2c1 }
/-- com/example/aturan/aturan/card/FileControl -/
def k2 : Class := { plain "com/example/aturan/aturan/card/FileControl" (some 0) with
  accessFlags := 32
  interfaces := #[]
  cf := some (fileOf pool2 7 #[] #[{ accessFlags := 2, nameIndex := 5, descriptorIndex := 6, attributes := #[] }, { accessFlags := 8, nameIndex := 101, descriptorIndex := 102, attributes := #[] }] 32 2 #[] #[{ accessFlags := 26, nameIndex := 83, descriptorIndex := 84, attributes := #[] }, { accessFlags := 26, nameIndex := 87, descriptorIndex := 84, attributes := #[] }, { accessFlags := 26, nameIndex := 89, descriptorIndex := 84, attributes := #[] }, { accessFlags := 26, nameIndex := 91, descriptorIndex := 84, attributes := #[] }, { accessFlags := 26, nameIndex := 93, descriptorIndex := 84, attributes := #[] }, { accessFlags := 26, nameIndex := 95, descriptorIndex := 84, attributes := #[] }, { accessFlags := 26, nameIndex := 97, descriptorIndex := 84, attributes := #[] }])
  fields := #[{ name := "TEMPLATE", type := .int, accessFlags := 26, slot := 0, constantValue := 0 }, { name := "SIZE", type := .int, accessFlags := 26, slot := 1, constantValue := 0 }, { name := "DESCRIPTOR", type := .int, accessFlags := 26, slot := 2, constantValue := 0 }, { name := "FILE_ID", type := .int, accessFlags := 26, slot := 3, constantValue := 0 }, { name := "TRANSPARENT_FILE", type := .int, accessFlags := 26, slot := 4, constantValue := 0 }, { name := "DATA_CODING", type := .int, accessFlags := 26, slot := 5, constantValue := 0 }, { name := "MAX_SIZE_BYTES", type := .int, accessFlags := 26, slot := 6, constantValue := 0 }]
  methods := #[k2m0, k2m1]
  instanceTypes := #[]
  staticTypes := #[.int, .int, .int, .int, .int, .int, .int]
  resolved := Array.replicate 141 none
  statics := none }

def pool3 : Array CpInfo := pool [(1, u "java/lang/Cloneable"), (0, .class_ 1), (0, u "java/lang/Object"), (0, .class_ 3)] 3

/-- java/lang/Cloneable -/
def k3 : Class := { plain "java/lang/Cloneable" (some 0) with
  accessFlags := 1537
  interfaces := #[]
  cf := some (fileOf pool3 2 #[] #[] 1537 4 #[] #[])
  fields := #[]
  methods := #[]
  instanceTypes := #[]
  staticTypes := #[]
  resolved := Array.replicate 8 none
  statics := none }

def pool4 : Array CpInfo := pool [(1, u "java/io/Serializable"), (0, .class_ 1), (0, u "java/lang/Object"), (0, .class_ 3)] 3

/-- java/io/Serializable -/
def k4 : Class := { plain "java/io/Serializable" (some 0) with
  accessFlags := 1537
  interfaces := #[]
  cf := some (fileOf pool4 2 #[] #[] 1537 4 #[] #[])
  fields := #[]
  methods := #[]
  instanceTypes := #[]
  staticTypes := #[]
  resolved := Array.replicate 8 none
  statics := none }

/-- the primitive byte -/
def k5 : Class := { plain "byte" none with kind := .primitive 'B', accessFlags := 0x411 }
/-- [B -/
def k6 : Class := { plain "[B" (some 0) with kind := .array 5 .byte, interfaces := #[3, 4], accessFlags := 1041 }

/-- the primitive int -/
def k7 : Class := { plain "int" none with kind := .primitive 'I', accessFlags := 0x411 }
/-- [I -/
def k8 : Class := { plain "[I" (some 0) with kind := .array 7 .int, interfaces := #[3, 4], accessFlags := 1041 }

def heap : Heap := #[]
def classes : Array Class := #[k0, k1, k2, k3, k4, k5, k6, k7, k8]
def interned : List (Array UInt16 × Addr) := []
def slotsUsed : Nat := 0
def theMethod : MethodId := ⟨1, 2⟩
def args0 : Array Value := #[.int 5, .int 7]
def aboutOver (below : List Frame) : State where
  vm := { classes := classes, interned := interned.toArray }
  heap := heap
  slotsUsed := slotsUsed
  threads := #[{ frames := .invoking theMethod args0 :: below }]
def below0 : List Frame := [.native { method := ⟨0, 0⟩, args := #[] }]
def about1 : State := aboutOver below0
def p0 : Program := .bare "" "" ""
def e0 : Env := launch0.env 0 0 0
theorem w_frames : about1.frames = Frame.invoking theMethod args0 :: below0 := rfl
set_option maxRecDepth 65536 in
theorem w_args : argsFit about1.vm theMethod args0 = true := by decide +kernel
set_option maxRecDepth 65536 in
theorem w_heap : heapFits about1 = true := by decide +kernel
set_option maxRecDepth 65536 in
theorem w_runnable : about1.curStatus? = some .runnable := by decide +kernel
set_option maxRecDepth 65536 in
theorem w_alone : about1.alone = true := by decide +kernel
set_option maxRecDepth 65536 in
theorem w_named : about1.methodNamed? x = some theMethod := by decide +kernel
set_option maxRecDepth 65536 in
theorem w_hears : about1.hears theMethod below0 = true := by decide +kernel
set_option maxRecDepth 65536 in
theorem w_ripe : about1.ripe theMethod args0 below0 = true := by decide +kernel
theorem w_running : about1.status = .running := rfl
set_option maxRecDepth 65536 in
theorem w_room : about1.hasRoom e0.platform room_1 = true :=
  launch0.hasRoom_least _ room_1 (by decide +kernel) (by decide +kernel) (by decide +kernel) (by decide +kernel) (by decide +kernel) (by decide +kernel)
theorem allAtoms_all (ts : List Jvm.Cond) (a : Array Jvm.Value) (st : Jvm.State) : (allAtoms ts).before a st = ts.all (fun c => c.before a st) := by
  induction ts with
  | nil => rfl
  | cons c t ih =>
    show (Jvm.Cond.and c (allAtoms t)).before a st = _
    rw [Jvm.Cond.before_and, ih, List.all_cons]
def words1 : List Jvm.Cond := Jvm.Cond.code x code maxLocals ret :: tables_1
/-- a 'code' word, met by the world's own term for the bytes: nothing is compared byte by byte -/
theorem code_word {y : MethodName} {bytes : ByteArray} {mx : Nat} {rt : Option FieldType} {a : Array Value} {s : State} {m : MethodId} {meth : Method} {c : Code} (h1 : s.methodNamed? y = some m) (h2 : s.vm.method? m = some meth) (h3 : meth.code = some c) (h4 : c.code = bytes)
    (h5 : (c.maxLocals == mx && c.exceptionTable.isEmpty && decide (c.maxStack ≤ mostOperands) && decide (meth.sig.returnType = rt) && !meth.locks && decide (parseMethodDescriptor y.desc = some meth.sig)) = true) : (Jvm.Cond.code y bytes mx rt).before a s = true := by
  simp only [Bool.and_eq_true, beq_iff_eq, Bool.not_eq_true', decide_eq_true_eq] at h5
  obtain ⟨⟨⟨⟨⟨g1, g2⟩, g3⟩, g4⟩, g5⟩, g6⟩ := h5
  simp [Cond.before, Cond.holds, Cond.value, h1, h2, h3, h4, g1, g2, g3, g4, g5, g6]
def isCode : Jvm.Cond → Bool
  | .code _ _ _ _ => true
  | _ => false
theorem all_split {L : List Jvm.Cond} {P : Jvm.Cond → Bool} (h1 : L.all (fun c => isCode c || P c) = true) (h2 : ∀ c ∈ L.filter isCode, P c = true) : L.all P = true := by
  refine List.all_eq_true.mpr fun c hc => ?_
  have h := List.all_eq_true.mp h1 c hc
  rcases Bool.eq_false_or_eq_true (isCode c) with hi | hi
  · exact h2 c (List.mem_filter.mpr ⟨hc, hi⟩)
  · simpa [hi] using h
set_option maxRecDepth 65536 in
theorem w_c0 : (Jvm.Cond.code x code maxLocals ret).before args0 about1 = true := code_word (m := ⟨1, 2⟩) (meth := k1m2) (c := k1c2) (by decide +kernel) rfl rfl rfl (by decide +kernel)
set_option maxRecDepth 65536 in
theorem w_c1 : (Jvm.Cond.code ({ cls := "com/example/aturan/aturan/card/FileControl", name := "describe", desc := "(II)[B" } : Jvm.MethodName) prog_7_method_2_code (2 : Nat) (Option.some (Jvm.ClassFile.FieldType.array Jvm.ClassFile.FieldType.byte))).before args0 about1 = true := code_word (m := ⟨2, 1⟩) (meth := k2m1) (c := k2c1) (by decide +kernel) rfl rfl rfl (by decide +kernel)
set_option maxRecDepth 65536 in
theorem w_c2 : (Jvm.Cond.code ({ cls := "com/example/aturan/aturan/card/FileControlDescribePinLaw", name := "at", desc := "([BII)Z" } : Jvm.MethodName) method_2_code (3 : Nat) (Option.some Jvm.ClassFile.FieldType.boolean)).before args0 about1 = true := code_word (m := ⟨1, 1⟩) (meth := k1m1) (c := k1c1) (by decide +kernel) rfl rfl rfl (by decide +kernel)
def codes1 : List Jvm.Cond := [Jvm.Cond.code x code maxLocals ret, Jvm.Cond.code ({ cls := "com/example/aturan/aturan/card/FileControl", name := "describe", desc := "(II)[B" } : Jvm.MethodName) prog_7_method_2_code (2 : Nat) (Option.some (Jvm.ClassFile.FieldType.array Jvm.ClassFile.FieldType.byte)), Jvm.Cond.code ({ cls := "com/example/aturan/aturan/card/FileControlDescribePinLaw", name := "at", desc := "([BII)Z" } : Jvm.MethodName) method_2_code (3 : Nat) (Option.some Jvm.ClassFile.FieldType.boolean)]
set_option maxRecDepth 65536 in
theorem codes_eq : words1.filter isCode = codes1 := rfl
theorem w_codes : ∀ c ∈ words1.filter isCode, c.before args0 about1 = true := by
  rw [codes_eq]
  intro c hc
  simp only [codes1, List.mem_cons, List.not_mem_nil, or_false] at hc
  rcases hc with rfl | rfl | rfl
  · exact w_c0
  · exact w_c1
  · exact w_c2
set_option maxRecDepth 65536 in
theorem w_t1 : words1.all (fun c => isCode c || c.before args0 about1) = true := by decide +kernel
theorem w_tables : (allAtoms (Jvm.Cond.code x code maxLocals ret :: tables_1)).before args0 about1 = true := by
  rw [allAtoms_all]
  show words1.all (fun c => c.before args0 about1) = true
  refine all_split ?_ w_codes
  rw [w_t1]
set_option maxRecDepth 65536 in
theorem w_case : (Jvm.Cond.and given_1 narrow_1).before args0 about1 = true := by decide +kernel
theorem w_applies : (headSpec (Jvm.Cond.code x code maxLocals ret :: tables_1) room_1).applies x e0.platform about1 = true :=
  (Spec.applies_iff w_frames).mpr ⟨w_running, w_runnable, w_alone, w_named, w_hears, w_ripe, w_room, w_tables⟩
theorem atStart : AtStart classFile x code maxLocals ret World_1 tables_1 room_1 Calls_1 rest_1 Pre_1 launch0 p0 e0 about1 theMethod args0 below0 :=
  ⟨lists_1, trivial, launch0.admits_env _ _ _, launch0.least_env, fairChoices_fair.cas, fairChoices_fair.clock, w_frames, w_args, w_heap, w_applies, trivial, trivial, w_case⟩
end start1
theorem witness_1 : WitnessClaimed_1 := ⟨start1.p0, start1.e0, start1.about1, start1.theMethod, start1.args0, start1.below0, start1.atStart⟩
end Jvm.Pilot.@@N@@
