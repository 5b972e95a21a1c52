import JvmDerived
import JvmDerived.Pilot.@@N@@Statement
import JvmDerived.Pilot.@@N@@Code
set_option linter.unusedVariables false
set_option linter.unusedSimpArgs false
namespace Jvm.RoadKit
open Sem ClassFile Op Lib Jvm.Stand Jvm.Free Jvm.LawKit
section Own
variable {p : Program} {l : Launch} {e : Env} {R : Room} {s : State} {m : MethodId} {args : Array Value} {below : List Frame} {meth : Method} {c : Code} {T : State} {locs : List Loc} {cells slots : Nat} {Z : State} {h : Heap} {a : Addr} {k : ClassId} {n j : Int32} {vs : List Value} {dv : Value} {ty : FieldType}
theorem own_retI (X : Stand p l e R s m args below meth c T locs cells slots) (hx : p.tables.exec = Jvm.exec) {pc : Nat} {Ls : Array Slot} {z : Int32} {rest : List Value} (hret : meth.sig.returnType = some .int) (hd : decode c.code pc = .ok (.ireturn, 1)) {fs : List Frame}
    (hl : ∀ (f : JFrame) (acts : List Action), f.method = m → f.locked = none → f.entered = [] → (doReturn e (T.setTop f) acts (some (.int z))).1 = T.setFrames fs) : Steps p.tables e below (T.setTop (mkF m pc Ls (.int z :: rest))) (T.setFrames fs) :=
  retOut X hx hret rfl (Or.inl ⟨rfl, Or.inl rfl, _, rfl⟩) hd hl
/-- the run from st ends as the contract says -/
def own_Ends (p : Program) (e : Env) (below : List Frame) (s : State) (C S : Nat) (Q : Option Value → Heap → List Loc → Prop) (st : State) : Prop :=
  ∃ s₂ o, Steps p.tables e below st s₂ ∧ s₂.status = .running ∧ Ended s₂ below o ∧ ∃ v L, o = .returned v ∧ Q v s₂.heap L ∧ FrameEnd s o s₂ L C S
theorem own_step {C S : Nat} {Q : Option Value → Heap → List Loc → Prop} {st st' : State} (f : ∀ t, Steps p.tables e below st' t → Steps p.tables e below st t) (h : own_Ends p e below s C S Q st') : own_Ends p e below s C S Q st := by
  obtain ⟨s2, o, h1, h2⟩ := h
  exact ⟨s2, o, f _ h1, h2⟩
theorem own_sstep {st st' t : State} (f : ∀ t, Steps p.tables e below st' t → Steps p.tables e below st t) (h : Steps p.tables e below st' t) : Steps p.tables e below st t := f _ h
theorem own_ret (X : Stand p l e R s m args below meth c T locs cells slots) (hlocks : meth.locks = false) {C S : Nat} {Q : Option Value → Heap → List Loc → Prop} {g : JFrame} (v : Option Value) (hv : meth.sig.returnType = none → v = none)
    (st : ∀ fs, (∀ (f : JFrame) (acts : List Action), f.method = m → f.locked = none → f.entered = [] → (doReturn e (T.setTop f) acts v).1 = T.setFrames fs) → Steps p.tables e below (T.setTop g) (T.setFrames fs))
    (hQ : Q v T.heap locs) (hc : cells ≤ C) (hs : slots ≤ S) : own_Ends p e below s C S Q (T.setTop g) := by
  obtain ⟨fs, hr, hrun, hended, hW, hsame⟩ := X.leave (v := v) hv
  exact ⟨_, _, st fs hr, hrun, hended, _, _, rfl, hQ, ⟨_, rfl⟩, hW, hsame.mono hc hs⟩
theorem own_b1 {P : Prop} [Decidable P] (hp : P) : ¬ ((if P then (1 : Int32) else (0 : Int32)) = 0) := by rw [if_pos hp]; decide
theorem own_b1n {P : Prop} [Decidable P] (hp : ¬ P) : ¬ ((if P then (0 : Int32) else (1 : Int32)) = 0) := by rw [if_neg hp]; decide
theorem own_nar01 {P : Prop} [Decidable P] : nar .boolean (if P then (0 : Int32) else (1 : Int32)) = if P then (0 : Int32) else (1 : Int32) := by split <;> rfl
theorem own_nar10 {P : Prop} [Decidable P] : nar .boolean (if P then (1 : Int32) else (0 : Int32)) = if P then (1 : Int32) else (0 : Int32) := by split <;> rfl
theorem own_lrem {tb : Tables} [Ours tb] {target : State} {g : JFrame} (ha : At T m c below) (hx : tb.exec = Jvm.exec) (hg : g.method = m) {x y : Int64} {rest : List Value} (hd : decode c.code g.pc = .ok (.lrem, 1)) (hs : g.stack = .long y :: .long x :: rest) (hy : y ≠ 0) (hr : Steps tb e below (T.setTop { g with pc := g.pc + 1, stack := .long (x % y) :: rest }) target) : Steps tb e below (T.setTop g) target :=
  XS.lrem ha hx hg hd hs hy (by rw [lrem_mod]; exact hr)
theorem own_len (X : Stand p l e R s m args below meth c T locs cells slots) (hx : p.tables.exec = Jvm.exec) (hZ : Z.Warmed39 s.vm) (eT : T.heap = h) (A : Arv Z h a k ty n vs dv) {g : JFrame} (hg : g.method = m) {rest : List Value} (hs : g.stack = .ref a :: rest) (hd : decode c.code g.pc = .ok (.arraylength, 1)) :
    ∀ target, Steps p.tables e below (T.setTop { g with pc := g.pc + 1, stack := .int n :: rest }) target → Steps p.tables e below (T.setTop g) target := by
  obtain ⟨cl, Ar, -, S, N, -, -⟩ := A
  intro t k
  refine X.arraylength hx (by rw [eT]; exact Ar.1) (State.isArrayOf_alike hZ.alike Ar.2.1) hg hs hd t ?_
  rw [len_of S N]; exact k
theorem own_ldI (X : Stand p l e R s m args below meth c T locs cells slots) (hx : p.tables.exec = Jvm.exec) (hZ : Z.Warmed39 s.vm) (eT : T.heap = h) (A : Arv Z h a k .int n vs dv) {j : Int32} {v : Value} (hj : ¬ j < 0 ∧ j < n) (hv : vs.getD j.toNatClampNeg dv = v) {g : JFrame} (hg : g.method = m) {rest : List Value} (hs : g.stack = .int j :: .ref a :: rest) (hd : decode c.code g.pc = .ok (.iaload, 1)) :
    ∀ target, Steps p.tables e below (T.setTop { g with pc := g.pc + 1, stack := v :: rest }) target → Steps p.tables e below (T.setTop g) target := by
  obtain ⟨cl, Ar, -, S, N, H, -⟩ := A
  intro t k
  exact X.iaload hx (by rw [eT]; exact Ar.1) (State.isArrayOf_alike hZ.alike Ar.2.1) Ar.2.2 (inb_of S hj) (H.at (inb_of S hj) hv) hg hs hd t k
theorem own_ldJ (X : Stand p l e R s m args below meth c T locs cells slots) (hx : p.tables.exec = Jvm.exec) (hZ : Z.Warmed39 s.vm) (eT : T.heap = h) (A : Arv Z h a k .long n vs dv) {j : Int32} {v : Value} (hj : ¬ j < 0 ∧ j < n) (hv : vs.getD j.toNatClampNeg dv = v) {g : JFrame} (hg : g.method = m) {rest : List Value} (hs : g.stack = .int j :: .ref a :: rest) (hd : decode c.code g.pc = .ok (.laload, 1)) :
    ∀ target, Steps p.tables e below (T.setTop { g with pc := g.pc + 1, stack := v :: rest }) target → Steps p.tables e below (T.setTop g) target := by
  obtain ⟨cl, Ar, -, S, N, H, -⟩ := A
  intro t k
  exact X.laload hx (by rw [eT]; exact Ar.1) (State.isArrayOf_alike hZ.alike Ar.2.1) Ar.2.2 (inb_of S hj) (H.at (inb_of S hj) hv) hg hs hd t k
theorem own_ldC (X : Stand p l e R s m args below meth c T locs cells slots) (hx : p.tables.exec = Jvm.exec) (hZ : Z.Warmed39 s.vm) (eT : T.heap = h) (A : Arv Z h a k .char n vs dv) {j : Int32} {v : Value} (hj : ¬ j < 0 ∧ j < n) (hv : vs.getD j.toNatClampNeg dv = v) {g : JFrame} (hg : g.method = m) {rest : List Value} (hs : g.stack = .int j :: .ref a :: rest) (hd : decode c.code g.pc = .ok (.caload, 1)) :
    ∀ target, Steps p.tables e below (T.setTop { g with pc := g.pc + 1, stack := v :: rest }) target → Steps p.tables e below (T.setTop g) target := by
  obtain ⟨cl, Ar, -, S, N, H, -⟩ := A
  intro t k
  exact X.caload hx (by rw [eT]; exact Ar.1) (State.isArrayOf_alike hZ.alike Ar.2.1) Ar.2.2 (inb_of S hj) (H.at (inb_of S hj) hv) hg hs hd t k
theorem own_ldB (X : Stand p l e R s m args below meth c T locs cells slots) (hx : p.tables.exec = Jvm.exec) (hZ : Z.Warmed39 s.vm) (eT : T.heap = h) (A : Arv Z h a k .byte n vs dv) {j : Int32} {v : Value} (hj : ¬ j < 0 ∧ j < n) (hv : vs.getD j.toNatClampNeg dv = v) {g : JFrame} (hg : g.method = m) {rest : List Value} (hs : g.stack = .int j :: .ref a :: rest) (hd : decode c.code g.pc = .ok (.baload, 1)) :
    ∀ target, Steps p.tables e below (T.setTop { g with pc := g.pc + 1, stack := v :: rest }) target → Steps p.tables e below (T.setTop g) target := by
  obtain ⟨cl, Ar, -, S, N, H, -⟩ := A
  intro t k
  exact X.baloadBytes hx (by rw [eT]; exact Ar.1) (State.isArrayOf_alike hZ.alike Ar.2.1) Ar.2.2 (inb_of S hj) (H.at (inb_of S hj) hv) hg hs hd t k
theorem own_stI (X : Stand p l e R s m args below meth c T locs cells slots) (hx : p.tables.exec = Jvm.exec) (hZ : Z.Warmed39 s.vm) (eT : T.heap = h) (A : Arv Z h a k .int n vs dv) {j x : Int32} {i : Nat} (hj : ¬ j < 0 ∧ j < n) (hi : j.toNatClampNeg = i) (hl : i < vs.length) {g : JFrame} (hg : g.method = m) {rest : List Value} (hs : g.stack = .int x :: .int j :: .ref a :: rest) (hd : decode c.code g.pc = .ok (.iastore, 1)) :
    ∃ T' h', Stand p l e R s m args below meth c T' (locs ++ [⟨a, j.toNatClampNeg⟩]) cells slots ∧ T'.heap = h' ∧ Wr h h' a j.toNatClampNeg (.int x) ∧ Arv Z h' a k .int n (vs.set i (.int x)) dv ∧ ∀ target, Steps p.tables e below (T'.setTop { g with pc := g.pc + 1, stack := rest }) target → Steps p.tables e below (T.setTop g) target := by
  obtain ⟨cl, Ar, q, S, N, H, G⟩ := A
  obtain ⟨T', h', X', e', W, st⟩ := stI X hx hZ eT Ar (inb_of S hj) hg hs hd
  exact ⟨T', h', X', e', W, Arv.set Ar q S N H G rfl W i hi hl, st⟩
theorem own_stJ (X : Stand p l e R s m args below meth c T locs cells slots) (hx : p.tables.exec = Jvm.exec) (hZ : Z.Warmed39 s.vm) (eT : T.heap = h) (A : Arv Z h a k .long n vs dv) {j : Int32} {x : Int64} {i : Nat} (hj : ¬ j < 0 ∧ j < n) (hi : j.toNatClampNeg = i) (hl : i < vs.length) {g : JFrame} (hg : g.method = m) {rest : List Value} (hs : g.stack = .long x :: .int j :: .ref a :: rest) (hd : decode c.code g.pc = .ok (.lastore, 1)) :
    ∃ T' h', Stand p l e R s m args below meth c T' (locs ++ [⟨a, j.toNatClampNeg⟩]) cells slots ∧ T'.heap = h' ∧ Wr h h' a j.toNatClampNeg (.long x) ∧ Arv Z h' a k .long n (vs.set i (.long x)) dv ∧ ∀ target, Steps p.tables e below (T'.setTop { g with pc := g.pc + 1, stack := rest }) target → Steps p.tables e below (T.setTop g) target := by
  obtain ⟨cl, Ar, q, S, N, H, G⟩ := A
  obtain ⟨T', h', X', e', W, st⟩ := stJ X hx hZ eT Ar (inb_of S hj) hg hs hd
  exact ⟨T', h', X', e', W, Arv.set Ar q S N H G rfl W i hi hl, st⟩
theorem own_stB (X : Stand p l e R s m args below meth c T locs cells slots) (hx : p.tables.exec = Jvm.exec) (hZ : Z.Warmed39 s.vm) (eT : T.heap = h) (A : Arv Z h a k .byte n vs dv) {j x : Int32} {i : Nat} (hj : ¬ j < 0 ∧ j < n) (hi : j.toNatClampNeg = i) (hl : i < vs.length) {g : JFrame} (hg : g.method = m) {rest : List Value} (hs : g.stack = .int x :: .int j :: .ref a :: rest) (hd : decode c.code g.pc = .ok (.bastore, 1)) :
    ∃ T' h', Stand p l e R s m args below meth c T' (locs ++ [⟨a, j.toNatClampNeg⟩]) cells slots ∧ T'.heap = h' ∧ Wr h h' a j.toNatClampNeg (.int x.toInt8.toInt32) ∧ Arv Z h' a k .byte n (vs.set i (.int x.toInt8.toInt32)) dv ∧ ∀ target, Steps p.tables e below (T'.setTop { g with pc := g.pc + 1, stack := rest }) target → Steps p.tables e below (T.setTop g) target := by
  obtain ⟨cl, Ar, q, S, N, H, G⟩ := A
  obtain ⟨T', h', X', e', W, st⟩ := stB X hx hZ eT Ar (inb_of S hj) hg hs hd
  exact ⟨T', h', X', e', W, Arv.set Ar q S N H G (fits_nar_byte x) W i hi hl, st⟩
theorem own_stC (X : Stand p l e R s m args below meth c T locs cells slots) (hx : p.tables.exec = Jvm.exec) (hZ : Z.Warmed39 s.vm) (eT : T.heap = h) (A : Arv Z h a k .char n vs dv) {j x : Int32} {i : Nat} (hj : ¬ j < 0 ∧ j < n) (hi : j.toNatClampNeg = i) (hl : i < vs.length) {g : JFrame} (hg : g.method = m) {rest : List Value} (hs : g.stack = .int x :: .int j :: .ref a :: rest) (hd : decode c.code g.pc = .ok (.castore, 1)) :
    ∃ T' h', Stand p l e R s m args below meth c T' (locs ++ [⟨a, j.toNatClampNeg⟩]) cells slots ∧ T'.heap = h' ∧ Wr h h' a j.toNatClampNeg (.int x.toUInt32.toUInt16.toUInt32.toInt32) ∧ Arv Z h' a k .char n (vs.set i (.int x.toUInt32.toUInt16.toUInt32.toInt32)) dv ∧ ∀ target, Steps p.tables e below (T'.setTop { g with pc := g.pc + 1, stack := rest }) target → Steps p.tables e below (T.setTop g) target := by
  obtain ⟨cl, Ar, q, S, N, H, G⟩ := A
  obtain ⟨T', h', X', e', W, st⟩ := stC X hx hZ eT Ar (inb_of S hj) hg hs hd
  exact ⟨T', h', X', e', W, Arv.set Ar q S N H G (fits_nar_char x) W i hi hl, st⟩
theorem own_eqI {t : Term} {q : Int32} (hq : (Jvm.Cond.eq t (.int q)).value args s none s [] = some true) : t.eval args s none [] s = some (.int q) := by
  obtain ⟨x, y, ha, hb, k1, k2⟩ := cmp_v (Or.inl hq)
  rw [Term.int_eval] at hb
  cases hb
  obtain ⟨z, rfl⟩ := k2
  simp [Cond.value, ha, Term.eval] at hq
  rw [ha, hq]
theorem own_eqR {t u : Term} {b : Addr} (hq : (Jvm.Cond.eq t u).value args s none s [] = some true) (hu : u.eval args s none [] s = some (.ref b)) : t.eval args s none [] s = some (.ref b) := by
  obtain ⟨x, y, ha, hb, k1, k2⟩ := cmp_v (Or.inl hq)
  cases hu.symm.trans hb
  have q := gotT (eq_R ha hb k2.2 rfl) hq
  rw [ha, q]
theorem own_lenA {t : Term} {cl : Cell} {q : Int32} (ht : t.eval args s none [] s = some (.ref a)) (A : Arr s s.heap a cl ty) (hq : (Term.length t).eval args s none [] s = some (.int q)) : cl.slots.size < 2 ^ 31 ∧ cl.slots.size.toInt32 = q := by
  have ha := Arr.fin (U := s) (Vm.Alike.refl _) A
  by_cases hl : cl.slots.size < 2 ^ 31
  · rw [len_f ht ha hl] at hq
    exact ⟨hl, Value.int.inj (Option.some.inj hq)⟩
  · simp [Term.eval, ht, ha, hl] at hq
theorem own_ldR (X : Stand p l e R s m args below meth c T locs cells slots) (hx : p.tables.exec = Jvm.exec) (hZ : Z.Warmed39 s.vm) (eT : T.heap = h) (A : Arv Z h a k ty n vs dv) (hr : ty.isReference = true) {j : Int32} {v : Value} (hj : ¬ j < 0 ∧ j < n) (hv : vs.getD j.toNatClampNeg dv = v) {g : JFrame} (hg : g.method = m) {rest : List Value} (hs : g.stack = .int j :: .ref a :: rest) (hd : decode c.code g.pc = .ok (.aaload, 1)) :
    ∀ target, Steps p.tables e below (T.setTop { g with pc := g.pc + 1, stack := v :: rest }) target → Steps p.tables e below (T.setTop g) target := by
  obtain ⟨cl, Ar, -, S, N, H, -⟩ := A
  intro t k
  exact X.aaload hx (by rw [eT]; exact Ar.1) (State.isArrayOf_alike hZ.alike Ar.2.1) hr Ar.2.2 (inb_of S hj) (H.at (inb_of S hj) hv) hg hs hd t k
theorem own_nf {y y' : MethodName} (hc : y'.cls = y.cls) (w : (Jvm.Cond.instanceMethod y).before args s = true) (hn : NotFace s y) : NotFace s y' := fun r0 h0 => by
  obtain ⟨mk, methM, hnamed, -⟩ := Cond.instanceMethod_spec w
  obtain ⟨kr, h1, h2⟩ := hn mk hnamed
  have q1 := findClass_of_methodNamed hnamed
  have q2 := findClass_of_methodNamed h0
  rw [hc] at q2
  have q3 : mk.cls = r0.cls := Option.some.inj (q1.symm.trans q2)
  exact ⟨kr, q3 ▸ h1, h2⟩
theorem own_selp {y : MethodName} (w : (Jvm.Cond.instanceMethod y).before args s = true) (hn : NotFace s y) (hp : s.PrivateAt y) (hy : y.cls ≠ "java/lang/invoke/MethodHandle" ∧ y.cls ≠ "java/lang/invoke/VarHandle") : (Jvm.Cond.selects y.cls y y).before args s = true := by
  obtain ⟨mk, methM, hnamed, -⟩ := Cond.instanceMethod_spec w
  obtain ⟨kr, h1, h2⟩ := hn mk hnamed
  exact selects_self_of_private (findClass_of_methodNamed hnamed) h1 h2 hp w hy
theorem own_same {y : MethodName} (w : (Jvm.Cond.instanceMethod y).before args s = true) (hn : NotFace s y) (hy : y.cls ≠ "java/lang/invoke/MethodHandle" ∧ y.cls ≠ "java/lang/invoke/VarHandle") : (Jvm.Cond.sameMethod y.cls y.cls y.name y.desc).before args s = true := by
  obtain ⟨mk, methM, hnamed, -⟩ := Cond.instanceMethod_spec w
  obtain ⟨kr, h1, h2⟩ := hn mk hnamed
  have q1 := findClass_of_methodNamed hnamed
  have q2 := State.methodFound?_of_named hnamed hy
  have q3 : s.methodNamed? ⟨y.cls, y.name, y.desc⟩ = some mk := hnamed
  simp [Cond.before, Cond.holds, Cond.value, q1, q2, q3, h1, h2]
theorem own_stR (X : Stand p l e R s m args below meth c T locs cells slots) (hx : p.tables.exec = Jvm.exec) (hZ : Z.Warmed39 s.vm) (eT : T.heap = h) (A : Arv Z h a k ty n vs dv) (hr : ty.isReference = true) {j : Int32} {v : Value} {i : Nat} (F : Sto Z h a v) (hf : fits ty v = true) (hj : ¬ j < 0 ∧ j < n) (hi : j.toNatClampNeg = i) (hl : i < vs.length) {g : JFrame} (hg : g.method = m) {rest : List Value} (hs : g.stack = v :: .int j :: .ref a :: rest) (hd : decode c.code g.pc = .ok (.aastore, 1)) :
    ∃ T' h', Stand p l e R s m args below meth c T' (locs ++ [⟨a, j.toNatClampNeg⟩]) cells slots ∧ T'.heap = h' ∧ Wr h h' a j.toNatClampNeg v ∧ Arv Z h' a k ty n (vs.set i v) dv ∧ ∀ target, Steps p.tables e below (T'.setTop { g with pc := g.pc + 1, stack := rest }) target → Steps p.tables e below (T.setTop g) target := by
  obtain ⟨cl, Ar, q, S, N, H, G⟩ := A
  obtain ⟨T', h', X', e', W, st⟩ := stR X hx hZ eT Ar (inb_of S hj) hr F hg hs hd
  exact ⟨T', h', X', e', W, Arv.set Ar q S N H G hf W i hi hl, st⟩
theorem own_stoA {y : Addr} {C : String} {t0 : FieldType} (A : Arv Z h a k t0 n vs dv) (O : OvrA Z k ty C) (I : Ins Z h y C true) : Sto Z h a (.ref y) := by
  obtain ⟨cl, Ar, q, -⟩ := A
  exact Sto.ofVA Ar q O I
theorem own_stoV {y : Addr} {C : String} {t0 : FieldType} (A : Arv Z h a k t0 n vs dv) (O : Ovr Z k C) (I : Ins Z h y C true) : Sto Z h a (.ref y) := by
  obtain ⟨cl, Ar, q, -⟩ := A
  exact Sto.ofV Ar q O I
theorem own_getD_cp (vs vd : List Value) (dv dd : Value) (sp dp nn i : Nat) : ((vd ++ List.replicate (dp + nn) dd).take dp ++ ((List.range nn).map fun i => vs.getD (sp + i) dv) ++ (vd ++ List.replicate (dp + nn) dd).drop (dp + nn)).getD i dd = if dp ≤ i ∧ i < dp + nn then vs.getD (sp + (i - dp)) dv else vd.getD i dd := by
  have hlen : dp ≤ (vd ++ List.replicate (dp + nn) dd).length := by simp; omega
  have hpad := pad_rep vd dd (dp + nn) i
  by_cases h1 : i < dp
  · rw [if_neg (by omega), ← hpad]
    have e1 : ((vd ++ List.replicate (dp + nn) dd).take dp).length = dp := by rw [List.length_take]; omega
    rw [List.getD_eq_getElem?_getD, List.append_assoc, List.getElem?_append_left (by rw [e1]; exact h1), List.getElem?_take, if_pos h1, List.getD_eq_getElem?_getD]
  · by_cases h2 : i < dp + nn
    · rw [if_pos ⟨by omega, h2⟩]
      have e1 : ((vd ++ List.replicate (dp + nn) dd).take dp).length = dp := by rw [List.length_take]; omega
      rw [List.getD_eq_getElem?_getD, List.append_assoc, List.getElem?_append_right (by rw [e1]; omega), e1, List.getElem?_append_left (by simp; omega)]
      simp [show i - dp < nn by omega]
    · rw [if_neg (by omega), ← hpad]
      have e1 : ((vd ++ List.replicate (dp + nn) dd).take dp).length = dp := by rw [List.length_take]; omega
      rw [List.getD_eq_getElem?_getD, List.getElem?_append_right (by rw [List.length_append, e1]; simp; omega), List.getElem?_drop, List.getD_eq_getElem?_getD]
      congr 2
      rw [List.length_append, e1]; simp; omega
theorem own_cp {b : Addr} {a0 : Array Value} (X : Stand p l e R s m args below meth c T locs cells slots) (hx : p.tables.exec = Jvm.exec) (hZ : Z.Warmed39 s.vm) {own : String} {index : Nat} (hown : s.vm.findClass own = some m.cls)
    (w1 : (Cond.methodLink own index Jvm.Stand.acN).before a0 Z = true) (w2 : (Cond.native Jvm.Stand.acN).before a0 Z = true) (w3 : (Cond.static Jvm.Stand.acN).before a0 Z = true) (w4 : (Cond.initialized "java/lang/System").before a0 Z = true) (eT : T.heap = h)
    {k' : ClassId} {z z' sp dp nn : Int32} {vd : List Value} {dd : Value} (A : Arv Z h a k ty z vs dv) (B : Arv Z h b k' ty z' vd dd) (hty : refKind ty = false)
    (h1 : 0 ≤ sp.toInt) (h2 : 0 ≤ dp.toInt) (h3 : 0 ≤ nn.toInt) (h4 : sp.toInt + nn.toInt ≤ z.toInt) (h5 : dp.toInt + nn.toInt ≤ z'.toInt) {n0 : Nat} (N : Fr n0 locs) (ge : n0 ≤ b)
    {g : JFrame} (hg : g.method = m) (hsize : g.locals.size = c.maxLocals) {rest : List Value} (hs : g.stack = .int nn :: .int dp :: .ref b :: .int sp :: .ref a :: rest) (hd : decode c.code g.pc = .ok (.invokestatic index, 3))
    (hf : 1 ≤ R.frames) {W : Nat} (hW : 2 * g.monitorRoom + (rest.map fun v => v.category).sum ≤ W) (hlo : W + 18 ≤ R.locals) :
    ∃ T' h' L vd', Stand p l e R s m args below meth c T' L cells slots ∧ T'.heap = h' ∧ Fr n0 L ∧ Keep h h' [b] ∧ Arv Z h' b k' ty z' vd' dd ∧ (∀ i : Nat, vd'.getD i dd = if dp.toNatClampNeg ≤ i ∧ i < dp.toNatClampNeg + nn.toNatClampNeg then vs.getD (sp.toNatClampNeg + (i - dp.toNatClampNeg)) dv else vd.getD i dd) ∧
      ∀ target, Steps p.tables e below (T'.setTop { g with pc := g.pc + 3, stack := rest }) target → Steps p.tables e below (T.setTop g) target := by
  have e0 : (0 : Int32).toInt = 0 := by decide
  have lt : ∀ {x : Int32}, 0 ≤ x.toInt → ¬ x < 0 := fun q => by rw [Int32.lt_iff_toInt_lt]; omega
  have nz : ¬ z < 0 := lt (by omega)
  have nz' : ¬ z' < 0 := lt (by omega)
  have c1 := nat_of (lt h1); have c2 := nat_of (lt h2); have c3 := nat_of (lt h3); have c4 := nat_of nz; have c5 := nat_of nz'
  obtain ⟨T', h', L, X', e', N', K', V', st⟩ := cpA X hx hZ hown w1 w2 w3 w4 eT A (B.pad (pad_rep vd dd (dp.toNatClampNeg + nn.toNatClampNeg))) (us := _) (Or.inl ⟨rfl, hty⟩) (lt h1) (lt h2) (lt h3) (by omega) (by omega) rfl (by simp) N ge hg hsize hs hd hf hW (by exact hlo)
  exact ⟨T', h', L, _, X', e', N', K', V', fun i => own_getD_cp vs vd dv dd _ _ _ i, st⟩
/-- as backOf, the callee told besides that the tables are those of Z but warmer -/
theorem own_backH {a0 : Array Value} {y : MethodName} {bytes : ByteArray} {maxL : Nat} {ret : Option FieldType} {rm : Room} {len W : Nat} {as' : Array Value} {Q : Option Value → Heap → List Loc → Prop}
    (hM : MetFree l y (head1 [Cond.code y bytes maxL ret] rm) (fun a U => a = as' ∧ Z.WarmedH U.vm ∧ U.heap = h) (fun _ _ _ _ _ => True) (fun _ U o U' => ∃ v L, o = .returned v ∧ Q v U'.heap L ∧ FrameEnd U o U' L rm.cells rm.slots))
    (hZ : Z.WarmedH s.vm) (wc : (Cond.code y bytes maxL ret).before a0 Z = true) (wz : (Cond.initialized y.cls).before a0 Z = true) (hf : rm.frames + 1 ≤ R.frames) (hl : W + (maxL + 11) + rm.locals ≤ R.locals) :
    Back l R p e below s args y len W (fun A a => a = as' ∧ A.U.heap = h ∧ A.cells + rm.cells ≤ R.cells ∧ A.slots + rm.slots ≤ R.slots)
      (fun A _ v B => ∃ L, Q v B.U.heap L ∧ B.locs = A.locs ++ L ∧ B.cells = A.cells + rm.cells ∧ B.slots = A.slots + rm.slots) := by
  refine Back.of_free (bytes := bytes) (maxL := maxL) (ret := ret) (E := fun _ _ o t L k n => k = rm.cells ∧ n = rm.slots ∧ ∃ v, o = .returned v ∧ Q v t.heap L) hM hf hl ?_ ?_ (fun _ _ _ _ _ _ _ _ _ => trivial) ?_ ?_
  · intro m meth c A a Y hp
    have hU : Z.Warmed39 A.U.vm := wtrans hZ.wide Y.warmed
    exact ⟨by show (Cond.and _ .tt).before a A.U = true; rw [Cond.before_and, mv hU wc]; rfl, mv hU wc, mv hU wz, hp.2.2.1, hp.2.2.2⟩
  · intro m meth c A a g mk Y hp
    exact ⟨hp.1, hZ.trans Y.warmed, hp.2.1⟩
  · rintro _ _ _ _ ⟨v, L, h1, h2, h3⟩
    exact ⟨L, _, _, h3, rfl, rfl, v, h1, h2⟩
  · rintro m meth c A a g mk v t L k n Y hp _ _ ⟨e1, e2, v', e3, e4⟩
    cases e3; subst e1 e2; exact ⟨L, e4, rfl, rfl, rfl⟩
end Own
end Jvm.RoadKit
namespace Jvm.FP.Core
/-! whole numbers, however great, and their rounding to a double -/
theorem own_qmin : b64.qmin = -1074 := by decide
theorem own_qmax : b64.qmax = 971 := by decide
theorem own_signedI {i : Int} {s : Bool} (hs : i ≠ 0 → s = decide (i < 0)) : signed s i.natAbs = i := by
  by_cases hi : i = 0
  · rw [hi]; exact signed_zero s
  · rw [hs hi]
    by_cases hn : i < 0
    · rw [decide_eq_true hn]; show -((i.natAbs : Nat) : Int) = i; omega
    · rw [decide_eq_false hn]; show ((i.natAbs : Nat) : Int) = i; omega
theorem own_wholeOf {i : Int} {s : Bool} {c : Nat} {q : Int} (hs : i ≠ 0 → s = decide (i < 0)) (h : c * 2 ^ q.toNat = i.natAbs * 2 ^ (-q).toNat) : Whole i (.fin s c q) := by
  show signed s (c * 2 ^ q.toNat) = i * ((2 ^ (-q).toNat : Nat) : Int)
  rw [h, signed_mul, own_signedI hs]
theorem own_signedD (s : Bool) {a b k : Nat} (h1 : a ≤ b + k) (h2 : b ≤ a + k) : (signed s a - signed s b).natAbs ≤ k := by
  cases s
  · show ((a : Int) - (b : Int)).natAbs ≤ k; omega
  · show (-(a : Int) - -(b : Int)).natAbs ≤ k; omega
/-- a whole number below 2^62 is rounded to a whole number nearby -/
theorem own_roundW {i : Int} {d : Datum} (hi : i.natAbs ≤ 2 ^ 62) (h : Whole i d) : ∃ j : Int, Whole j (round b64 d) ∧ (j - i).natAbs ≤ 2 ^ 9 := by
  by_cases hs : i.natAbs ≤ 2 ^ 53
  · exact ⟨i, whole_round good_b64 wide_b64 hs h, by simp⟩
  cases d with
  | nan => exact h.elim
  | inf => exact h.elim
  | fin s c q =>
    have hA : 0 < i.natAbs := by omega
    have hsg := own_signedI (i := i) (s := s) (fun z => whole_sign h z)
    have e1 : roundRatio b64 s i.natAbs 1 0 = roundAt b64 s i.natAbs 1 0 (quantum b64 i.natAbs 1 0) := if_neg (by omega)
    have q1 := quantum_below (f := b64) hA (by decide : 0 < 1) 0
    have q2 := quantum_not_below (f := b64) hA (by decide : 0 < 1) 0
    have c1 := nearest_units_le (f := b64) hA (by decide : 0 < 1) 0
    rw [round_whole h, e1]
    generalize quantum b64 i.natAbs 1 0 = Q at q1 q2 c1 ⊢
    have l1 : 0 < Q := Int.not_le.mp fun hq => by
      have z : Below i.natAbs 1 53 := below_mono (by show Q - 0 + 53 ≤ 53; omega) q1
      have z' : i.natAbs * 2 ^ 0 < 1 * 2 ^ 53 := z
      omega
    have l2 : Q ≤ 10 := Int.not_lt.mp fun hq => by
      rcases q2 with q2 | q2
      · rw [own_qmin] at q2; omega
      · refine q2 (below_mono (a := 63) (by show (63 : Int) ≤ Q - 0 + (53 - 1); omega) ?_)
        show i.natAbs * 2 ^ 0 < 1 * 2 ^ 63
        omega
    obtain ⟨k, rfl⟩ : ∃ k : Nat, Q = (k : Int) := ⟨Q.toNat, by omega⟩
    have e2 : unitsNum i.natAbs 0 (k : Int) = i.natAbs := by
      show i.natAbs * 2 ^ ((0 : Int) - (k : Int)).toNat = i.natAbs
      rw [show ((0 : Int) - (k : Int)).toNat = 0 by omega, Nat.pow_zero, Nat.mul_one]
    have e3 : unitsDen 1 0 (k : Int) = 2 ^ k := by
      show 1 * 2 ^ ((k : Int) - 0).toNat = 2 ^ k
      rw [show ((k : Int) - 0).toNat = k by omega, Nat.one_mul]
    rw [e2, e3] at c1
    show ∃ j : Int, Whole j (settle b64 s (nearest (unitsNum i.natAbs 0 (k : Int)) (unitsDen 1 0 (k : Int))) (k : Int)) ∧ (j - i).natAbs ≤ 2 ^ 9
    rw [e2, e3]
    obtain ⟨n1, n2, -⟩ := nearest_spec i.natAbs (2 ^ k) (Nat.two_pow_pos k)
    generalize nearest i.natAbs (2 ^ k) = C at c1 n1 n2 ⊢
    rw [Nat.add_mul, Nat.mul_assoc, Nat.one_mul] at n1
    rw [Nat.mul_assoc] at n2
    have hp : 2 ^ k ≤ 2 ^ 10 := Nat.pow_le_pow_right (by decide) (by omega)
    refine ⟨signed s (C * 2 ^ k), ?_, ?_⟩
    · by_cases hc : C < 2 ^ 53
      · have e4 : settle b64 s C (k : Int) = .fin s C (k : Int) := (if_pos hc).trans (if_pos (by rw [own_qmax]; omega))
        rw [e4]
        show signed s (C * 2 ^ (k : Int).toNat) = signed s (C * 2 ^ k) * ((2 ^ (-(k : Int)).toNat : Nat) : Int)
        rw [show (-(k : Int)).toNat = 0 by omega, show (k : Int).toNat = k by omega]
        simp
      · have hC : C = 2 ^ 53 := Nat.le_antisymm c1 (Nat.le_of_not_lt hc)
        have e4 : settle b64 s C (k : Int) = .fin s b64.tails ((k : Int) + 1) := (if_neg hc).trans (if_pos (by rw [own_qmax]; omega))
        rw [e4]
        show signed s (b64.tails * 2 ^ ((k : Int) + 1).toNat) = signed s (C * 2 ^ k) * ((2 ^ (-((k : Int) + 1)).toNat : Nat) : Int)
        have e5 : b64.tails * 2 ^ (k + 1) = C * 2 ^ k := by
          rw [hC, show b64.tails = 2 ^ 52 from rfl, ← Nat.pow_add, ← Nat.pow_add]
          congr 1
          omega
        rw [show (-((k : Int) + 1)).toNat = 0 by omega, show ((k : Int) + 1).toNat = k + 1 by omega, e5]
        simp
    · have q := own_signedD s (a := C * 2 ^ k) (b := i.natAbs) (k := 2 ^ 9) (by generalize C * 2 ^ k = X at n1 n2 ⊢; omega) (by generalize C * 2 ^ k = X at n1 n2 ⊢; omega)
      rw [hsg] at q
      exact q
theorem own_shift {m : Nat} (h0 : 0 < m) (h1 : m ≤ 2 ^ 53) {k : Nat} (hk : k ≤ 100) (s : Bool) : ∃ (c : Nat) (q : Int), fits b64 (.fin s c q) ∧ m * 2 ^ k * 2 ^ (0 - q).toNat = c * 1 * 2 ^ (q - 0).toNat := by
  obtain ⟨c, q, ⟨f1, f2, f3, f4⟩, hv⟩ := natFit good_b64 wide_b64 s (n := m) h1
  have f1' : c < 2 ^ 53 := f1
  rw [own_qmin] at f2 f4
  have hne : q ≠ -1074 := fun z => by
    subst z
    rw [show ((0 : Int) - -1074).toNat = 1074 from rfl, show ((-1074 : Int) - 0).toNat = 0 from rfl, Nat.pow_zero, Nat.mul_one, Nat.mul_one] at hv
    have z := Nat.mul_le_mul_right (2 ^ 1074) (show 1 ≤ m from h0)
    have z2 : (2 : Nat) ^ 53 ≤ 2 ^ 1074 := Nat.pow_le_pow_right (by decide) (by decide)
    rw [hv, Nat.one_mul] at z
    exact absurd (Nat.lt_of_lt_of_le f1' (Nat.le_trans z2 z)) (Nat.lt_irrefl _)
  have hup : q ≤ 60 := Int.not_lt.mp fun z => by
    rw [show ((0 : Int) - q).toNat = 0 by omega, show (q - 0).toNat = q.toNat by omega, Nat.pow_zero, Nat.mul_one, Nat.mul_one] at hv
    have hc : 0 < c := Nat.pos_of_ne_zero fun y => by rw [y, Nat.zero_mul] at hv; omega
    have y1 : (2 : Nat) ^ 61 ≤ 2 ^ q.toNat := Nat.pow_le_pow_right (by decide) (by omega)
    have y2 := Nat.mul_le_mul (show 1 ≤ c from hc) y1
    rw [← hv, Nat.one_mul] at y2
    omega
  refine ⟨c, q + (k : Int), ⟨f1, by rw [own_qmin]; omega, by rw [own_qmax]; omega, Or.inr (f4.resolve_left hne)⟩, ?_⟩
  rcases Int.le_total 0 q with hq | hq
  · rw [show ((0 : Int) - q).toNat = 0 by omega, show (q - 0).toNat = q.toNat by omega] at hv
    rw [show ((0 : Int) - (q + (k : Int))).toNat = 0 by omega, show (q + (k : Int) - 0).toNat = q.toNat + k by omega, Nat.pow_add]
    simp only [Nat.pow_zero, Nat.mul_one] at hv ⊢
    rw [hv, Nat.mul_assoc]
  · obtain ⟨a, rfl⟩ : ∃ a : Nat, q = -(a : Int) := ⟨(-q).toNat, by omega⟩
    rw [show ((0 : Int) - -(a : Int)).toNat = a by omega, show (-(a : Int) - 0).toNat = 0 by omega] at hv
    rcases Nat.le_total a k with hak | hak
    · rw [show ((0 : Int) - (-(a : Int) + (k : Int))).toNat = 0 by omega, show (-(a : Int) + (k : Int) - 0).toNat = k - a by omega]
      simp only [Nat.pow_zero, Nat.mul_one] at hv ⊢
      rw [← hv, Nat.mul_assoc, ← Nat.pow_add, show a + (k - a) = k by omega]
    · rw [show ((0 : Int) - (-(a : Int) + (k : Int))).toNat = a - k by omega, show (-(a : Int) + (k : Int) - 0).toNat = 0 by omega]
      simp only [Nat.pow_zero, Nat.mul_one] at hv ⊢
      rw [← hv, Nat.mul_assoc, ← Nat.pow_add, show k + (a - k) = a by omega]
/-- a whole number of few digits and many zeros is a double -/
theorem own_wholeS {i mm : Int} {k : Nat} (e : i = mm * ((2 ^ k : Nat) : Int)) (hm : mm.natAbs ≤ 2 ^ 53) (hk : k ≤ 100) {d : Datum} (h : Whole i d) : Whole i (round b64 d) := by
  by_cases hi : i = 0
  · exact whole_round good_b64 wide_b64 (by rw [hi]; decide) h
  cases d with
  | nan => exact h.elim
  | inf => exact h.elim
  | fin s c q =>
    have hm0 : 0 < mm.natAbs := Nat.pos_of_ne_zero fun z => hi (by rw [e, Int.natAbs_eq_zero.mp z, Int.zero_mul])
    have en : i.natAbs = mm.natAbs * 2 ^ k := by rw [e, Int.natAbs_mul, Int.natAbs_natCast]
    obtain ⟨c', q', hf, hv⟩ := own_shift hm0 hm hk s
    rw [← en] at hv
    rw [round_whole h, roundRatio_exact good_b64 (by decide) hf hv]
    refine own_wholeOf (fun z => whole_sign h z) ?_
    rw [show (-q').toNat = (0 - q').toNat by omega, show q'.toNat = (q' - 0).toNat by omega, hv, Nat.mul_one]
theorem own_addR {i j : Int} {a b : UInt64} (ha : DInt i a) (hb : DInt j b) (h : (i + j).natAbs ≤ 2 ^ 62) : ∃ k, DInt k (dadd a b) ∧ (k - (i + j)).natAbs ≤ 2 ^ 9 := by
  obtain ⟨k, h1, h2⟩ := own_roundW h (whole_sum ha hb)
  exact ⟨k, by show Whole k (val64 (dadd a b)); rw [val64_dadd]; exact h1, h2⟩
theorem own_nn {i : Int} {a : UInt64} (h : DInt i a) : val64 a ≠ .nan := fun q => by
  have h' : Whole i (val64 a) := h
  rw [q] at h'
  exact h'
theorem own_nn2 {i : Int} {a : UInt64} (h : DInt i a) : Jvm.Free.Fl.NoNaN64 a := Jvm.Free.Fl.noNaN64_no.mpr (decide_eq_false (own_nn h))
/-- a rounded sum is what the whole sum becomes as a double -/
theorem own_cmpR {i j : Int} {a b : UInt64} {t : Int64} (ha : DInt i a) (hb : DInt j b) (e : i + j = t.toInt) (h : (i + j).natAbs ≤ 2 ^ 62) : dcmp (dadd a b) (l2d t) = some .eq := by
  by_cases z : i + j = 0
  · have h1 := dadd_int ha hb (by rw [z]; decide)
    have h2 := l2d_int (a := t) (by rw [← e, z]; decide)
    rw [dcmp_int h1 h2, ← e, z]
    rfl
  · have w := whole_sum ha hb
    have e1 : val64 (dadd a b) = val64 (l2d t) := by
      rw [val64_dadd, val64_l2d]
      generalize exactSum (val64 a) (val64 b) = d at w
      cases d with
      | nan => exact w.elim
      | inf => exact w.elim
      | fin s c q =>
        rw [round_whole w]
        have v : Whole t.toInt (.fin (decide (t.toInt < 0)) t.toInt.natAbs 0) := whole_ofInt t.toInt
        show _ = round b64 (.fin (decide (t.toInt < 0)) t.toInt.natAbs 0)
        rw [round_whole v, whole_sign w z, e]
    obtain ⟨k, hk, -⟩ := own_addR ha hb h
    show order (val64 (dadd a b)) (val64 (l2d t)) = some .eq
    rw [← e1]
    exact order_self (own_nn hk)
theorem own_l2dS {t : Int64} {mm : Int} {k : Nat} (e : t.toInt = mm * ((2 ^ k : Nat) : Int)) (hm : mm.natAbs ≤ 2 ^ 53) (hk : k ≤ 100) : DInt t.toInt (l2d t) := by
  show Whole t.toInt (val64 (l2d t))
  rw [val64_l2d]
  exact own_wholeS e hm hk (whole_ofInt _)
theorem own_l2dz (t : Int64) (h : DInt t.toInt (l2d t)) : l2d t ≠ dzeroNeg := fun q => by
  by_cases z : t.toInt = 0
  · have : t = 0 := Int64.toInt_inj.mp z
    subst this
    exact absurd q (by decide +kernel)
  · have h' : Whole t.toInt (val64 (l2d t)) := h
    rw [q, val64_dzeroNeg] at h'
    exact z ((whole_zero h').mp rfl)
theorem own_sub0 {a : UInt64} (h : val64 a ≠ .nan) : dsub a 0 = a := by
  rw [dsub_eq, show dneg 0 = dzeroNeg from by decide +kernel]
  exact dadd_zeroNeg h
theorem own_0add {a : UInt64} (h : val64 a ≠ .nan) (hz : a ≠ dzeroNeg) : dadd 0 a = a := by
  rw [dadd_comm]
  exact dadd_zero h hz
theorem own_subS {i : Int} {a : UInt64} (h : DInt i a) : dsub a a = 0 := by
  have h' : Whole i (val64 a) := h
  cases e : val64 a with
  | nan => rw [e] at h'; exact h'.elim
  | inf => rw [e] at h'; exact h'.elim
  | fin s c q => exact dsub_self e
end Jvm.FP.Core
namespace Jvm.RoadKit
open Sem ClassFile Op Lib Jvm.FP Jvm.Free.Fl
/-- Kahan's two fields hold the whole sum V so far: sum less lost -/
def own_Inv (V : Int) (sm lo : UInt64) : Prop := ∃ S L : Int, Core.DInt S sm ∧ Core.DInt L lo ∧ S - L = V ∧ L.natAbs ≤ 2 ^ 9
theorem own_next {V t : Int} {sm lo x : UInt64} (h : own_Inv V sm lo) (hx : Core.DInt t x) (hV : V.natAbs ≤ 2 ^ 61 + 2 ^ 40) (ht : t.natAbs ≤ 2 ^ 20) :
    ∃ cr nx d1 lo2 : UInt64, (FP.dsub x lo = cr ∧ NoNaN64 (FP.dsub x lo)) ∧ (FP.dadd sm cr = nx ∧ NoNaN64 (FP.dadd sm cr)) ∧ (FP.dsub nx sm = d1 ∧ NoNaN64 (FP.dsub nx sm)) ∧ (FP.dsub d1 cr = lo2 ∧ NoNaN64 (FP.dsub d1 cr)) ∧ own_Inv (V + t) nx lo2 ∧
      ∀ T : Int64, T.toInt = V + t → FP.dcmp nx (FP.l2d T) = some .eq := by
  obtain ⟨S, L, hS, hL, e, bL⟩ := h
  have h1 := Core.dsub_int hx hL (by omega)
  obtain ⟨N, h2, b2⟩ := Core.own_addR hS h1 (by omega)
  have h3 := Core.dsub_int h2 hS (by omega)
  have h4 := Core.dsub_int h3 h1 (by omega)
  exact ⟨_, _, _, _, ⟨rfl, Core.own_nn2 h1⟩, ⟨rfl, Core.own_nn2 h2⟩, ⟨rfl, Core.own_nn2 h3⟩, ⟨rfl, Core.own_nn2 h4⟩, ⟨N, _, h2, h4, by omega, by omega⟩, fun T hT => Core.own_cmpR hS h1 (by omega) (by omega)⟩
theorem own_first {t : Int} {x : UInt64} (hx : Core.DInt t x) (hz : x ≠ Core.dzeroNeg) :
    ∃ cr nx d1 lo2 : UInt64, (FP.dsub x 0 = cr ∧ NoNaN64 (FP.dsub x 0)) ∧ (FP.dadd 0 cr = nx ∧ NoNaN64 (FP.dadd 0 cr)) ∧ (FP.dsub nx 0 = d1 ∧ NoNaN64 (FP.dsub nx 0)) ∧ (FP.dsub d1 cr = lo2 ∧ NoNaN64 (FP.dsub d1 cr)) ∧ own_Inv t nx lo2 := by
  have n := Core.own_nn hx
  have e1 : FP.dsub x 0 = x := Core.own_sub0 n
  have e2 : FP.dadd 0 x = x := Core.own_0add n hz
  have e3 : FP.dsub x x = 0 := Core.own_subS hx
  have z : Core.DInt 0 (0 : UInt64) := by
    have q := Core.l2d_int (a := 0) (by decide)
    rw [show Core.l2d 0 = 0 from l2d_zero] at q
    exact q
  refine ⟨x, x, x, 0, ⟨e1, by rw [e1]; exact Core.own_nn2 hx⟩, ⟨e2, by rw [e2]; exact Core.own_nn2 hx⟩, ⟨e1, by rw [e1]; exact Core.own_nn2 hx⟩, ⟨e3, by rw [e3]; exact Core.own_nn2 z⟩, t, 0, hx, z, by omega, by decide⟩
theorem own_cmpV {x y : UInt64} (h : FP.dcmp x y = some .eq) : cmpValue (FP.dcmp x y) .l = (0 : Int32) := by rw [h]; rfl
/-- the law's great term: ten digits at the most, moved up by 51 places at the most -/
theorem own_big (a : Int32) : ∃ (mm : Int) (k : Nat), (((a >>> ((6 : Int32) &&& 31)) % (1024 : Int32)).toInt64 <<< (((a &&& (63 : Int32)) % (52 : Int32)) &&& 0x3f).toInt64).toInt = mm * ((2 ^ k : Nat) : Int) ∧ mm.natAbs ≤ 1023 ∧ k ≤ 51 := by
  have a1 := c_irem (a >>> ((6 : Int32) &&& 31)) 1024 1024 (by decide)
  have a2 := c_mask a 63 6 (by decide) (by decide)
  have a3 := (c_irem (a &&& (63 : Int32)) 52 52 (by decide)).1 (by omega)
  generalize (a >>> ((6 : Int32) &&& 31)) = u at a1 ⊢
  generalize (a &&& (63 : Int32)) = w at a2 a3 ⊢
  have b1 : (u % (1024 : Int32)).toInt.natAbs ≤ 1023 := by
    rcases Int.lt_or_le u.toInt 0 with q | q
    · rw [a1.2 q]; omega
    · rw [a1.1 q]; omega
  have c0 := c_i2l (u % (1024 : Int32))
  generalize (u % (1024 : Int32)) = v at b1 c0 ⊢
  generalize hS : (w % (52 : Int32)) = S at a3 ⊢
  have c1 := BitVec.toInt_eq_toNat_cond S.toBitVec
  have c2 : S.toBitVec.toInt = S.toInt := rfl
  have c3 := S.toBitVec.isLt
  have c4 : S.toBitVec.toNat ≤ 51 := by
    rw [c2] at c1
    split at c1 <;> omega
  have d1 := c_lshl v.toInt64 S (S.toBitVec.toNat) (by omega)
  have d2 := rng64 (v.toInt64 <<< (S &&& 0x3f).toInt64)
  generalize S.toBitVec.toNat = k at c4 d1
  refine ⟨v.toInt, k, ?_, b1, c4⟩
  rw [c0] at d1
  have p1 : 2 ^ k ≤ 2 ^ 51 := Nat.pow_le_pow_right (by decide) c4
  have p2 : (v.toInt * ((2 ^ k : Nat) : Int)).natAbs ≤ 1023 * 2 ^ 51 := by
    rw [Int.natAbs_mul, Int.natAbs_natCast]
    exact Nat.mul_le_mul b1 p1
  generalize v.toInt * ((2 ^ k : Nat) : Int) = M at d1 p2 ⊢
  omega
theorem own_bigR {i mm : Int} {k : Nat} (e : i = mm * ((2 ^ k : Nat) : Int)) (hm : mm.natAbs ≤ 1023) (hk : k ≤ 51) : i.natAbs ≤ 2 ^ 61 := by
  have p1 : 2 ^ k ≤ 2 ^ 51 := Nat.pow_le_pow_right (by decide) hk
  have p2 : (mm * ((2 ^ k : Nat) : Int)).natAbs ≤ 1023 * 2 ^ 51 := by
    rw [Int.natAbs_mul, Int.natAbs_natCast]
    exact Nat.mul_le_mul hm p1
  rw [← e] at p2
  omega
theorem own_small (x : Int32) : (x % (1048576 : Int32)).toInt.natAbs ≤ 2 ^ 20 := by
  have a := c_irem x 1048576 1048576 (by decide)
  rcases Int.lt_or_le x.toInt 0 with q | q
  · rw [a.2 q]; omega
  · rw [a.1 q]; omega
end Jvm.RoadKit

namespace Jvm.Pilot.@@N@@
open Jvm Jvm.ClassFile Sem Op Lib Jvm.Free Jvm.Stand Jvm.LawKit Jvm.RoadKit Bundle Jvm.Pilot.@@N@@.Jvm.D
theorem pd_0 : parseMethodDescriptor "()V" = some ⟨[], none⟩ := by decide +kernel
theorem pd_1 : parseMethodDescriptor "(D)V" = some ⟨[.double], none⟩ := by decide +kernel
theorem pd_2 : parseMethodDescriptor "()D" = some ⟨[], some .double⟩ := by decide +kernel
theorem d1_0 : decode prog_37_method_1_code 0 = .ok (.aload_n 0, 1) := by decide +kernel
theorem d1_1 : decode prog_37_method_1_code 1 = .ok (.invokespecial 1, 3) := by decide +kernel
theorem d1_4 : decode prog_37_method_1_code 4 = .ok (.return_, 1) := by decide +kernel
theorem pn_0 : plainName "com/example/link_importance/linkimportance/rank/CompensatedSum" = true := by first | (simp [plainName, overriddenIn]; done) | decide +kernel
theorem ef_1_R (m : MethodId) (x0 : Addr) : entryFrame m #[(.ref x0)] 1 = mkF m 0 #[.val (.ref x0)] [] := by first | (simp [entryFrame, mkF, argsToLocals, Value.category]; done) | rfl
def Q_rm1 (Z : State) (x0 : Addr) (h0 : Heap) (n0 : Nat) (v : Option Value) (h : Heap) (L : List Loc) : Prop := v = none ∧ Fr n0 L ∧ h = h0
set_option maxRecDepth 65536 in
set_option maxHeartbeats 40000000 in
theorem rm1 (l : Launch) (Z : State) (a0 : Array Value) (hw : ∀ d ∈ tables_1, d.before a0 Z = true) (ws : List Jvm.Cond) (x0 : Addr) (h0 : Heap) (n0 : Nat) (Z0 : n0 ≤ h0.size) :
    MetFree l (⟨"com/example/link_importance/linkimportance/rank/CompensatedSum", "<init>", "()V"⟩ : MethodName) (head1 (Jvm.Cond.code (⟨"com/example/link_importance/linkimportance/rank/CompensatedSum", "<init>", "()V"⟩ : MethodName) prog_37_method_1_code 1 none :: ws) ({ frames := 1, cells := 0, slots := 0, locals := 12 } : Room)) (fun a U => a = #[(.ref x0)] ∧ Z.Warmed39 U.vm ∧ U.heap = h0) (fun _ _ _ _ _ => True) (fun _ U o U' => ∃ v L, o = .returned v ∧ Q_rm1 Z x0 h0 n0 v U'.heap L ∧ FrameEnd U o U' L ({ frames := 1, cells := 0, slots := 0, locals := 12 } : Room).cells ({ frames := 1, cells := 0, slots := 0, locals := 12 } : Room).slots) := by
  refine MetFree.of_bodySF (plainFor_of_name pn_0) hisR ?_
  intro p e s m args below meth c s₁ Bd hml0 hP hK
  obtain ⟨rfl, hZ, hh⟩ := hP
  have hx := Bd.exec
  have hby := Bd.bytes
  have hml : c.maxLocals = 1 := hml0
  have hown : s.vm.findClass "com/example/link_importance/linkimportance/rank/CompensatedSum" = some m.cls := findClass_of_methodNamed Bd.named
  have hnm := (name_of_methodNamed Bd.named Bd.method).1
  have X0 : Stand p l e ({ frames := 1, cells := 0, slots := 0, locals := 12 } : Room) s m #[(.ref x0)] below meth c s₁ [] 0 0 := Stand.of_body Bd
  have e0 : s₁.heap = h0 := by rw [← hh, Bd.state]; rfl
  have N0 := Fr.nil n0
  show own_Ends p e below s ({ frames := 1, cells := 0, slots := 0, locals := 12 } : Room).cells ({ frames := 1, cells := 0, slots := 0, locals := 12 } : Room).slots (Q_rm1 Z x0 h0 n0) (s₁.setTop (entryFrame m #[(.ref x0)] 1))
  rw [ef_1_R]
  refine own_step (st' := s₁.setTop (mkF m 1 #[.val (.ref x0)] [(.ref x0)])) (fun t k => XS.aloadN X0.here hx rfl (hb hby d1_0) rfl rfl k) ?_
  obtain ⟨T1, X1, e1, st1⟩ := initO X0 hx hZ hown (hw _ (List.mem_of_getElem? (i := 7) rfl)) (hw _ (List.mem_of_getElem? (i := 8) rfl)) (hw _ (List.mem_of_getElem? (i := 9) rfl)) e0 (g := (mkF m 1 #[.val (.ref x0)] [(.ref x0)])) rfl (by rw [hml]; rfl) rfl (hb hby d1_1) (by decide) (W := 0) (by show 2 * 0 + _ ≤ _; exact Nat.le_of_eq rfl) (by decide)
  refine own_step (st' := T1.setTop (mkF m 4 #[.val (.ref x0)] [])) st1 ?_
  refine own_ret X1 Bd.notSynchronized (none) (fun _ => rfl) (fun fs hr => X1.returnOut hx Bd.returns (hb hby d1_4) hr) ?_ (by decide) (by decide)
  rw [e1]
  exact ⟨rfl, N0, rfl⟩
theorem d3_0 : decode prog_37_method_2_code 0 = .ok (.dload_n 1, 1) := by decide +kernel
theorem d3_1 : decode prog_37_method_2_code 1 = .ok (.aload_n 0, 1) := by decide +kernel
theorem d3_2 : decode prog_37_method_2_code 2 = .ok (.getfield 7, 3) := by decide +kernel
theorem d3_5 : decode prog_37_method_2_code 5 = .ok (.dsub, 1) := by decide +kernel
theorem d3_6 : decode prog_37_method_2_code 6 = .ok (.dstore_n 3, 1) := by decide +kernel
theorem d3_7 : decode prog_37_method_2_code 7 = .ok (.aload_n 0, 1) := by decide +kernel
theorem d3_8 : decode prog_37_method_2_code 8 = .ok (.getfield 13, 3) := by decide +kernel
theorem d3_11 : decode prog_37_method_2_code 11 = .ok (.dload_n 3, 1) := by decide +kernel
theorem d3_12 : decode prog_37_method_2_code 12 = .ok (.dadd, 1) := by decide +kernel
theorem d3_13 : decode prog_37_method_2_code 13 = .ok (.dstore 5, 2) := by decide +kernel
theorem d3_15 : decode prog_37_method_2_code 15 = .ok (.aload_n 0, 1) := by decide +kernel
theorem d3_16 : decode prog_37_method_2_code 16 = .ok (.dload 5, 2) := by decide +kernel
theorem d3_18 : decode prog_37_method_2_code 18 = .ok (.aload_n 0, 1) := by decide +kernel
theorem d3_19 : decode prog_37_method_2_code 19 = .ok (.getfield 13, 3) := by decide +kernel
theorem d3_22 : decode prog_37_method_2_code 22 = .ok (.dsub, 1) := by decide +kernel
theorem d3_23 : decode prog_37_method_2_code 23 = .ok (.dload_n 3, 1) := by decide +kernel
theorem d3_24 : decode prog_37_method_2_code 24 = .ok (.dsub, 1) := by decide +kernel
theorem d3_25 : decode prog_37_method_2_code 25 = .ok (.putfield 7, 3) := by decide +kernel
theorem d3_28 : decode prog_37_method_2_code 28 = .ok (.aload_n 0, 1) := by decide +kernel
theorem d3_29 : decode prog_37_method_2_code 29 = .ok (.dload 5, 2) := by decide +kernel
theorem d3_31 : decode prog_37_method_2_code 31 = .ok (.putfield 13, 3) := by decide +kernel
theorem d3_34 : decode prog_37_method_2_code 34 = .ok (.return_, 1) := by decide +kernel
theorem ef_3_RD (m : MethodId) (x0 : Addr) (x1 : UInt64) : entryFrame m #[(.ref x0), (.double x1)] 7 = mkF m 0 #[.val (.ref x0), .val (.double x1), .second, .unset, .unset, .unset, .unset] [] := by first | (simp [entryFrame, mkF, argsToLocals, Value.category]; done) | rfl
def Q_rm3 (Z : State) (x0 : Addr) (x1 : UInt64) (sm : UInt64) (lo : UInt64) (cr : UInt64) (nx : UInt64) (dd : UInt64) (ln : UInt64) (h0 : Heap) (n0 : Nat) (v : Option Value) (h : Heap) (L : List Loc) : Prop := v = none ∧ Fr n0 L ∧ Keep h0 h [x0] ∧ Fld Z h x0 "com/example/link_importance/linkimportance/rank/CompensatedSum" "sum" "D" (.double nx) ∧ Fld Z h x0 "com/example/link_importance/linkimportance/rank/CompensatedSum" "lost" "D" (.double ln)
set_option maxRecDepth 65536 in
set_option maxHeartbeats 40000000 in
theorem rm3 (l : Launch) (Z : State) (a0 : Array Value) (hw : ∀ d ∈ tables_1, d.before a0 Z = true) (ws : List Jvm.Cond) (x0 : Addr) (x1 : UInt64) (sm : UInt64) (lo : UInt64) (cr : UInt64) (nx : UInt64) (dd : UInt64) (ln : UInt64) (h0 : Heap) (n0 : Nat) (Z0 : n0 ≤ h0.size) (p_0 : Fld Z h0 x0 "com/example/link_importance/linkimportance/rank/CompensatedSum" "sum" "D" (.double sm)) (p_1 : Fld Z h0 x0 "com/example/link_importance/linkimportance/rank/CompensatedSum" "lost" "D" (.double lo)) (p_2 : Exa Z h0 x0 "com/example/link_importance/linkimportance/rank/CompensatedSum") (p_3 : n0 ≤ x0) (p_4 : FP.dsub x1 lo = cr ∧ Jvm.Free.Fl.NoNaN64 (FP.dsub x1 lo)) (p_5 : FP.dadd sm cr = nx ∧ Jvm.Free.Fl.NoNaN64 (FP.dadd sm cr)) (p_6 : FP.dsub nx sm = dd ∧ Jvm.Free.Fl.NoNaN64 (FP.dsub nx sm)) (p_7 : FP.dsub dd cr = ln ∧ Jvm.Free.Fl.NoNaN64 (FP.dsub dd cr)) :
    MetFree l (⟨"com/example/link_importance/linkimportance/rank/CompensatedSum", "add", "(D)V"⟩ : MethodName) (head1 (Jvm.Cond.code (⟨"com/example/link_importance/linkimportance/rank/CompensatedSum", "add", "(D)V"⟩ : MethodName) prog_37_method_2_code 7 none :: ws) ({ frames := 0, cells := 0, slots := 0, locals := 0 } : Room)) (fun a U => a = #[(.ref x0), (.double x1)] ∧ Z.Warmed39 U.vm ∧ U.heap = h0) (fun _ _ _ _ _ => True) (fun _ U o U' => ∃ v L, o = .returned v ∧ Q_rm3 Z x0 x1 sm lo cr nx dd ln h0 n0 v U'.heap L ∧ FrameEnd U o U' L ({ frames := 0, cells := 0, slots := 0, locals := 0 } : Room).cells ({ frames := 0, cells := 0, slots := 0, locals := 0 } : Room).slots) := by
  refine MetFree.of_bodySF (plainFor_of_name pn_0) hisR ?_
  intro p e s m args below meth c s₁ Bd hml0 hP hK
  obtain ⟨rfl, hZ, hh⟩ := hP
  have hx := Bd.exec
  have hby := Bd.bytes
  have hml : c.maxLocals = 7 := hml0
  have hown : s.vm.findClass "com/example/link_importance/linkimportance/rank/CompensatedSum" = some m.cls := findClass_of_methodNamed Bd.named
  have hnm := (name_of_methodNamed Bd.named Bd.method).1
  have X0 : Stand p l e ({ frames := 0, cells := 0, slots := 0, locals := 0 } : Room) s m #[(.ref x0), (.double x1)] below meth c s₁ [] 0 0 := Stand.of_body Bd
  have e0 : s₁.heap = h0 := by rw [← hh, Bd.state]; rfl
  have N0 := Fr.nil n0
  show own_Ends p e below s ({ frames := 0, cells := 0, slots := 0, locals := 0 } : Room).cells ({ frames := 0, cells := 0, slots := 0, locals := 0 } : Room).slots (Q_rm3 Z x0 x1 sm lo cr nx dd ln h0 n0) (s₁.setTop (entryFrame m #[(.ref x0), (.double x1)] 7))
  rw [ef_3_RD]
  refine own_step (st' := s₁.setTop (mkF m 1 #[.val (.ref x0), .val (.double x1), .second, .unset, .unset, .unset, .unset] [(.double x1)])) (fun t k => XS.dloadN X0.here hx rfl (hb hby d3_0) rfl k) ?_
  refine own_step (st' := s₁.setTop (mkF m 2 #[.val (.ref x0), .val (.double x1), .second, .unset, .unset, .unset, .unset] [(.ref x0), (.double x1)])) (fun t k => XS.aloadN X0.here hx rfl (hb hby d3_1) rfl rfl k) ?_
  obtain ⟨T1, X1, e1, st1⟩ := getF X0 hx hZ hown (host := "") (Or.inl (hw _ (List.mem_of_getElem? (i := 15) rfl))) Via.refl e0 p_1 (g := (mkF m 2 #[.val (.ref x0), .val (.double x1), .second, .unset, .unset, .unset, .unset] [(.ref x0), (.double x1)])) rfl rfl (hb hby d3_2)
  refine own_step (st' := T1.setTop (mkF m 5 #[.val (.ref x0), .val (.double x1), .second, .unset, .unset, .unset, .unset] [(.double lo), (.double x1)])) st1 ?_
  refine own_step (st' := T1.setTop (mkF m 6 #[.val (.ref x0), .val (.double x1), .second, .unset, .unset, .unset, .unset] [(.double cr)])) (fun t k => XS.dsubS X1.here hx rfl (hb hby d3_5) rfl p_4.2 p_4.1 k) ?_
  refine own_step (st' := T1.setTop (mkF m 7 #[.val (.ref x0), .val (.double x1), .second, .val (.double cr), .second, .unset, .unset] [])) (fun t k => XS.dstoreN X1.here hx rfl (hb hby d3_6) rfl (l' := #[.val (.ref x0), .val (.double x1), .second, .val (.double cr), .second, .unset, .unset]) rfl k) ?_
  refine own_step (st' := T1.setTop (mkF m 8 #[.val (.ref x0), .val (.double x1), .second, .val (.double cr), .second, .unset, .unset] [(.ref x0)])) (fun t k => XS.aloadN X1.here hx rfl (hb hby d3_7) rfl rfl k) ?_
  obtain ⟨T2, X2, e2, st2⟩ := getF X1 hx hZ hown (host := "") (Or.inl (hw _ (List.mem_of_getElem? (i := 17) rfl))) Via.refl e1 p_0 (g := (mkF m 8 #[.val (.ref x0), .val (.double x1), .second, .val (.double cr), .second, .unset, .unset] [(.ref x0)])) rfl rfl (hb hby d3_8)
  refine own_step (st' := T2.setTop (mkF m 11 #[.val (.ref x0), .val (.double x1), .second, .val (.double cr), .second, .unset, .unset] [(.double sm)])) st2 ?_
  refine own_step (st' := T2.setTop (mkF m 12 #[.val (.ref x0), .val (.double x1), .second, .val (.double cr), .second, .unset, .unset] [(.double cr), (.double sm)])) (fun t k => XS.dloadN X2.here hx rfl (hb hby d3_11) rfl k) ?_
  refine own_step (st' := T2.setTop (mkF m 13 #[.val (.ref x0), .val (.double x1), .second, .val (.double cr), .second, .unset, .unset] [(.double nx)])) (fun t k => XS.daddS X2.here hx rfl (hb hby d3_12) rfl p_5.2 p_5.1 k) ?_
  refine own_step (st' := T2.setTop (mkF m 15 #[.val (.ref x0), .val (.double x1), .second, .val (.double cr), .second, .val (.double nx), .second] [])) (fun t k => XS.dstore X2.here hx rfl (hb hby d3_13) rfl (l' := #[.val (.ref x0), .val (.double x1), .second, .val (.double cr), .second, .val (.double nx), .second]) rfl k) ?_
  refine own_step (st' := T2.setTop (mkF m 16 #[.val (.ref x0), .val (.double x1), .second, .val (.double cr), .second, .val (.double nx), .second] [(.ref x0)])) (fun t k => XS.aloadN X2.here hx rfl (hb hby d3_15) rfl rfl k) ?_
  refine own_step (st' := T2.setTop (mkF m 18 #[.val (.ref x0), .val (.double x1), .second, .val (.double cr), .second, .val (.double nx), .second] [(.double nx), (.ref x0)])) (fun t k => XS.dload X2.here hx rfl (hb hby d3_16) rfl k) ?_
  refine own_step (st' := T2.setTop (mkF m 19 #[.val (.ref x0), .val (.double x1), .second, .val (.double cr), .second, .val (.double nx), .second] [(.ref x0), (.double nx), (.ref x0)])) (fun t k => XS.aloadN X2.here hx rfl (hb hby d3_18) rfl rfl k) ?_
  obtain ⟨T3, X3, e3, st3⟩ := getF X2 hx hZ hown (host := "") (Or.inl (hw _ (List.mem_of_getElem? (i := 17) rfl))) Via.refl e2 p_0 (g := (mkF m 19 #[.val (.ref x0), .val (.double x1), .second, .val (.double cr), .second, .val (.double nx), .second] [(.ref x0), (.double nx), (.ref x0)])) rfl rfl (hb hby d3_19)
  refine own_step (st' := T3.setTop (mkF m 22 #[.val (.ref x0), .val (.double x1), .second, .val (.double cr), .second, .val (.double nx), .second] [(.double sm), (.double nx), (.ref x0)])) st3 ?_
  refine own_step (st' := T3.setTop (mkF m 23 #[.val (.ref x0), .val (.double x1), .second, .val (.double cr), .second, .val (.double nx), .second] [(.double dd), (.ref x0)])) (fun t k => XS.dsubS X3.here hx rfl (hb hby d3_22) rfl p_6.2 p_6.1 k) ?_
  refine own_step (st' := T3.setTop (mkF m 24 #[.val (.ref x0), .val (.double x1), .second, .val (.double cr), .second, .val (.double nx), .second] [(.double cr), (.double dd), (.ref x0)])) (fun t k => XS.dloadN X3.here hx rfl (hb hby d3_23) rfl k) ?_
  refine own_step (st' := T3.setTop (mkF m 25 #[.val (.ref x0), .val (.double x1), .second, .val (.double cr), .second, .val (.double nx), .second] [(.double ln), (.ref x0)])) (fun t k => XS.dsubS X3.here hx rfl (hb hby d3_24) rfl p_7.2 p_7.1 k) ?_
  obtain ⟨T4, h4, X4, e4, W4, st4⟩ := putF X3 hx hZ hown (host := "") (Or.inl (hw _ (List.mem_of_getElem? (i := 15) rfl))) Via.refl e3 p_1 p_2 (Or.inl (hw _ (List.mem_of_getElem? (i := 16) rfl))) (hw _ (List.mem_of_getElem? (i := 2) rfl)) (ty := .double) (by decide) rfl rfl (g := (mkF m 25 #[.val (.ref x0), .val (.double x1), .second, .val (.double cr), .second, .val (.double nx), .second] [(.double ln), (.ref x0)])) rfl rfl (hb hby d3_25)
  have F4 := p_1.same W4
  have f5 := p_0.other W4 (Or.inr (slot_ne (Or.inl (hw _ (List.mem_of_getElem? (i := 18) rfl))) (Or.inl (hw _ (List.mem_of_getElem? (i := 16) rfl))) (by decide) (t := .double) (t' := .double) (by decide) (by decide)))
  have f6 := p_2.wr W4
  have K7 : Keep h0 h4 [x0] := (Keep.refl h0 [x0]).wr W4 (Or.inl (List.mem_of_getElem? (i := 0) rfl))
  have Z8 : n0 ≤ h4.size := Nat.le_trans Z0 (Keep.of_wr W4).1
  have N9 := Fr.snoc X4 N0 p_3
  refine own_step (st' := T4.setTop (mkF m 28 #[.val (.ref x0), .val (.double x1), .second, .val (.double cr), .second, .val (.double nx), .second] [])) st4 ?_
  refine own_step (st' := T4.setTop (mkF m 29 #[.val (.ref x0), .val (.double x1), .second, .val (.double cr), .second, .val (.double nx), .second] [(.ref x0)])) (fun t k => XS.aloadN X4.here hx rfl (hb hby d3_28) rfl rfl k) ?_
  refine own_step (st' := T4.setTop (mkF m 31 #[.val (.ref x0), .val (.double x1), .second, .val (.double cr), .second, .val (.double nx), .second] [(.double nx), (.ref x0)])) (fun t k => XS.dload X4.here hx rfl (hb hby d3_29) rfl k) ?_
  obtain ⟨T10, h10, X10, e10, W10, st10⟩ := putF X4 hx hZ hown (host := "") (Or.inl (hw _ (List.mem_of_getElem? (i := 17) rfl))) Via.refl e4 f5 f6 (Or.inl (hw _ (List.mem_of_getElem? (i := 18) rfl))) (hw _ (List.mem_of_getElem? (i := 2) rfl)) (ty := .double) (by decide) rfl rfl (g := (mkF m 31 #[.val (.ref x0), .val (.double x1), .second, .val (.double cr), .second, .val (.double nx), .second] [(.double nx), (.ref x0)])) rfl rfl (hb hby d3_31)
  have F10 := f5.same W10
  have f11 := f6.wr W10
  have f12 := F4.other W10 (Or.inr (slot_ne (Or.inl (hw _ (List.mem_of_getElem? (i := 16) rfl))) (Or.inl (hw _ (List.mem_of_getElem? (i := 18) rfl))) (by decide) (t := .double) (t' := .double) (by decide) (by decide)))
  have K13 : Keep h0 h10 [x0] := K7.wr W10 (Or.inl (List.mem_of_getElem? (i := 0) rfl))
  have Z14 : n0 ≤ h10.size := Nat.le_trans Z8 (Keep.of_wr W10).1
  have N15 := Fr.snoc X10 N9 p_3
  refine own_step (st' := T10.setTop (mkF m 34 #[.val (.ref x0), .val (.double x1), .second, .val (.double cr), .second, .val (.double nx), .second] [])) st10 ?_
  refine own_ret X10 Bd.notSynchronized (none) (fun _ => rfl) (fun fs hr => X10.returnOut hx Bd.returns (hb hby d3_34) hr) ?_ (by decide) (by decide)
  rw [e10]
  exact ⟨rfl, N15, K13, F10, f12⟩
theorem d4_0 : decode prog_37_method_3_code 0 = .ok (.aload_n 0, 1) := by decide +kernel
theorem d4_1 : decode prog_37_method_3_code 1 = .ok (.getfield 13, 3) := by decide +kernel
theorem d4_4 : decode prog_37_method_3_code 4 = .ok (.dreturn, 1) := by decide +kernel
theorem ef_4_R (m : MethodId) (x0 : Addr) : entryFrame m #[(.ref x0)] 1 = mkF m 0 #[.val (.ref x0)] [] := by first | (simp [entryFrame, mkF, argsToLocals, Value.category]; done) | rfl
def Q_rm4 (Z : State) (x0 : Addr) (sm : UInt64) (h0 : Heap) (n0 : Nat) (v : Option Value) (h : Heap) (L : List Loc) : Prop := v = some (.double sm) ∧ Fr n0 L ∧ h = h0
set_option maxRecDepth 65536 in
set_option maxHeartbeats 40000000 in
theorem rm4 (l : Launch) (Z : State) (a0 : Array Value) (hw : ∀ d ∈ tables_1, d.before a0 Z = true) (ws : List Jvm.Cond) (x0 : Addr) (sm : UInt64) (h0 : Heap) (n0 : Nat) (Z0 : n0 ≤ h0.size) (p_0 : Fld Z h0 x0 "com/example/link_importance/linkimportance/rank/CompensatedSum" "sum" "D" (.double sm)) :
    MetFree l (⟨"com/example/link_importance/linkimportance/rank/CompensatedSum", "value", "()D"⟩ : MethodName) (head1 (Jvm.Cond.code (⟨"com/example/link_importance/linkimportance/rank/CompensatedSum", "value", "()D"⟩ : MethodName) prog_37_method_3_code 1 (some .double) :: ws) ({ frames := 0, cells := 0, slots := 0, locals := 0 } : Room)) (fun a U => a = #[(.ref x0)] ∧ Z.Warmed39 U.vm ∧ U.heap = h0) (fun _ _ _ _ _ => True) (fun _ U o U' => ∃ v L, o = .returned v ∧ Q_rm4 Z x0 sm h0 n0 v U'.heap L ∧ FrameEnd U o U' L ({ frames := 0, cells := 0, slots := 0, locals := 0 } : Room).cells ({ frames := 0, cells := 0, slots := 0, locals := 0 } : Room).slots) := by
  refine MetFree.of_bodySF (plainFor_of_name pn_0) hisR ?_
  intro p e s m args below meth c s₁ Bd hml0 hP hK
  obtain ⟨rfl, hZ, hh⟩ := hP
  have hx := Bd.exec
  have hby := Bd.bytes
  have hml : c.maxLocals = 1 := hml0
  have hown : s.vm.findClass "com/example/link_importance/linkimportance/rank/CompensatedSum" = some m.cls := findClass_of_methodNamed Bd.named
  have hnm := (name_of_methodNamed Bd.named Bd.method).1
  have X0 : Stand p l e ({ frames := 0, cells := 0, slots := 0, locals := 0 } : Room) s m #[(.ref x0)] below meth c s₁ [] 0 0 := Stand.of_body Bd
  have e0 : s₁.heap = h0 := by rw [← hh, Bd.state]; rfl
  have N0 := Fr.nil n0
  show own_Ends p e below s ({ frames := 0, cells := 0, slots := 0, locals := 0 } : Room).cells ({ frames := 0, cells := 0, slots := 0, locals := 0 } : Room).slots (Q_rm4 Z x0 sm h0 n0) (s₁.setTop (entryFrame m #[(.ref x0)] 1))
  rw [ef_4_R]
  refine own_step (st' := s₁.setTop (mkF m 1 #[.val (.ref x0)] [(.ref x0)])) (fun t k => XS.aloadN X0.here hx rfl (hb hby d4_0) rfl rfl k) ?_
  obtain ⟨T1, X1, e1, st1⟩ := getF X0 hx hZ hown (host := "") (Or.inl (hw _ (List.mem_of_getElem? (i := 17) rfl))) Via.refl e0 p_0 (g := (mkF m 1 #[.val (.ref x0)] [(.ref x0)])) rfl rfl (hb hby d4_1)
  refine own_step (st' := T1.setTop (mkF m 4 #[.val (.ref x0)] [(.double sm)])) st1 ?_
  refine own_ret X1 Bd.notSynchronized (some (.double sm)) (fun h => by rw [Bd.returns] at h; cases h) (fun fs hr => retOut X1 hx Bd.returns rfl (Or.inr (Or.inr (Or.inl ⟨rfl, rfl, _, rfl⟩))) (hb hby d4_4) hr) ?_ (by decide) (by decide)
  rw [e1]
  exact ⟨rfl, N0, rfl⟩
theorem pn_1 : plainName "com/example/link_importance/linkimportance/rank/CompensatedSumAddPinLaw" = true := by first | (simp [plainName, overriddenIn]; done) | decide +kernel
theorem ef_0_IIII (m : MethodId) (x0 : Int32) (x1 : Int32) (x2 : Int32) (x3 : Int32) : entryFrame m #[(.int x0), (.int x1), (.int x2), (.int x3)] maxLocals = mkF m 0 #[.val (.int x0), .val (.int x1), .val (.int x2), .val (.int x3), .unset, .unset, .unset, .unset, .unset, .unset, .unset, .unset, .unset, .unset, .unset] [] := by first | (simp [entryFrame, mkF, argsToLocals, Value.category, maxLocals]; done) | rfl
def Q_rm0 (Z : State) (x0 : Int32) (x1 : Int32) (x2 : Int32) (x3 : Int32) (h0 : Heap) (n0 : Nat) (v : Option Value) (h : Heap) (L : List Loc) : Prop := v = some (.int (1 : Int32)) ∧ Fr n0 L
set_option maxRecDepth 65536 in
set_option maxHeartbeats 40000000 in
theorem rm0 (l : Launch) (Z : State) (a0 : Array Value) (hw : ∀ d ∈ tables_1, d.before a0 Z = true) (ws : List Jvm.Cond) (x0 : Int32) (x1 : Int32) (x2 : Int32) (x3 : Int32) (h0 : Heap) (n0 : Nat) (Z0 : n0 ≤ h0.size) :
    MetFree l x (head1 (Jvm.Cond.code x code maxLocals ret :: ws) room_1) (fun a U => a = #[(.int x0), (.int x1), (.int x2), (.int x3)] ∧ Z.Warmed39 U.vm ∧ U.heap = h0) (fun _ _ _ _ _ => True) (fun _ U o U' => ∃ v L, o = .returned v ∧ Q_rm0 Z x0 x1 x2 x3 h0 n0 v U'.heap L ∧ FrameEnd U o U' L room_1.cells room_1.slots) := by
  refine MetFree.of_bodySF (plainFor_of_name pn_1) hisR ?_
  intro p e s m args below meth c s₁ Bd hml0 hP hK
  obtain ⟨rfl, hZ, hh⟩ := hP
  have hx := Bd.exec
  have hby := Bd.bytes
  have hml : c.maxLocals = 15 := hml0
  have hown : s.vm.findClass "com/example/link_importance/linkimportance/rank/CompensatedSumAddPinLaw" = some m.cls := findClass_of_methodNamed Bd.named
  have hnm := (name_of_methodNamed Bd.named Bd.method).1
  have X0 : Stand p l e room_1 s m #[(.int x0), (.int x1), (.int x2), (.int x3)] below meth c s₁ [] 0 0 := Stand.of_body Bd
  have e0 : s₁.heap = h0 := by rw [← hh, Bd.state]; rfl
  have N0 := Fr.nil n0
  show own_Ends p e below s room_1.cells room_1.slots (Q_rm0 Z x0 x1 x2 x3 h0 n0) (s₁.setTop (entryFrame m #[(.int x0), (.int x1), (.int x2), (.int x3)] maxLocals))
  rw [ef_0_IIII]
  refine own_step (st' := s₁.setTop (mkF m 1 #[.val (.int x0), .val (.int x1), .val (.int x2), .val (.int x3), .unset, .unset, .unset, .unset, .unset, .unset, .unset, .unset, .unset, .unset, .unset] [(.int x0)])) (fun t k => XS.iloadN X0.here hx rfl (hb hby at_0) rfl k) ?_
  refine own_step (st' := s₁.setTop (mkF m 3 #[.val (.int x0), .val (.int x1), .val (.int x2), .val (.int x3), .unset, .unset, .unset, .unset, .unset, .unset, .unset, .unset, .unset, .unset, .unset] [(.int (6 : Int32)), (.int x0)])) (fun t k => XS.bipush X0.here hx rfl (hb hby at_1) k) ?_
  refine own_step (st' := s₁.setTop (mkF m 4 #[.val (.int x0), .val (.int x1), .val (.int x2), .val (.int x3), .unset, .unset, .unset, .unset, .unset, .unset, .unset, .unset, .unset, .unset, .unset] [(.int (x0 >>> ((6 : Int32) &&& 31)))])) (fun t k => XS.ishr X0.here hx rfl (hb hby at_3) rfl k) ?_
  refine own_step (st' := s₁.setTop (mkF m 7 #[.val (.int x0), .val (.int x1), .val (.int x2), .val (.int x3), .unset, .unset, .unset, .unset, .unset, .unset, .unset, .unset, .unset, .unset, .unset] [(.int (1024 : Int32)), (.int (x0 >>> ((6 : Int32) &&& 31)))])) (fun t k => XS.sipush X0.here hx rfl (hb hby at_4) k) ?_
  refine own_step (st' := s₁.setTop (mkF m 8 #[.val (.int x0), .val (.int x1), .val (.int x2), .val (.int x3), .unset, .unset, .unset, .unset, .unset, .unset, .unset, .unset, .unset, .unset, .unset] [(.int ((x0 >>> ((6 : Int32) &&& 31)) % (1024 : Int32)))])) (fun t k => iremM (g := (mkF m 7 #[.val (.int x0), .val (.int x1), .val (.int x2), .val (.int x3), .unset, .unset, .unset, .unset, .unset, .unset, .unset, .unset, .unset, .unset, .unset] [(.int (1024 : Int32)), (.int (x0 >>> ((6 : Int32) &&& 31)))])) X0 hx rfl (hb hby at_7) rfl (by decide) k) ?_
  refine own_step (st' := s₁.setTop (mkF m 9 #[.val (.int x0), .val (.int x1), .val (.int x2), .val (.int x3), .unset, .unset, .unset, .unset, .unset, .unset, .unset, .unset, .unset, .unset, .unset] [(.long (((x0 >>> ((6 : Int32) &&& 31)) % (1024 : Int32)).toInt64))])) (fun t k => XS.i2l X0.here hx rfl (hb hby at_8) rfl k) ?_
  refine own_step (st' := s₁.setTop (mkF m 11 #[.val (.int x0), .val (.int x1), .val (.int x2), .val (.int x3), .val (.long (((x0 >>> ((6 : Int32) &&& 31)) % (1024 : Int32)).toInt64)), .second, .unset, .unset, .unset, .unset, .unset, .unset, .unset, .unset, .unset] [])) (fun t k => XS.lstore X0.here hx rfl (hb hby at_9) rfl (l' := #[.val (.int x0), .val (.int x1), .val (.int x2), .val (.int x3), .val (.long (((x0 >>> ((6 : Int32) &&& 31)) % (1024 : Int32)).toInt64)), .second, .unset, .unset, .unset, .unset, .unset, .unset, .unset, .unset, .unset]) rfl k) ?_
  refine own_step (st' := s₁.setTop (mkF m 12 #[.val (.int x0), .val (.int x1), .val (.int x2), .val (.int x3), .val (.long (((x0 >>> ((6 : Int32) &&& 31)) % (1024 : Int32)).toInt64)), .second, .unset, .unset, .unset, .unset, .unset, .unset, .unset, .unset, .unset] [(.int x0)])) (fun t k => XS.iloadN X0.here hx rfl (hb hby at_11) rfl k) ?_
  refine own_step (st' := s₁.setTop (mkF m 14 #[.val (.int x0), .val (.int x1), .val (.int x2), .val (.int x3), .val (.long (((x0 >>> ((6 : Int32) &&& 31)) % (1024 : Int32)).toInt64)), .second, .unset, .unset, .unset, .unset, .unset, .unset, .unset, .unset, .unset] [(.int (63 : Int32)), (.int x0)])) (fun t k => XS.bipush X0.here hx rfl (hb hby at_12) k) ?_
  refine own_step (st' := s₁.setTop (mkF m 15 #[.val (.int x0), .val (.int x1), .val (.int x2), .val (.int x3), .val (.long (((x0 >>> ((6 : Int32) &&& 31)) % (1024 : Int32)).toInt64)), .second, .unset, .unset, .unset, .unset, .unset, .unset, .unset, .unset, .unset] [(.int (x0 &&& (63 : Int32)))])) (fun t k => XS.iand X0.here hx rfl (hb hby at_14) rfl k) ?_
  refine own_step (st' := s₁.setTop (mkF m 17 #[.val (.int x0), .val (.int x1), .val (.int x2), .val (.int x3), .val (.long (((x0 >>> ((6 : Int32) &&& 31)) % (1024 : Int32)).toInt64)), .second, .unset, .unset, .unset, .unset, .unset, .unset, .unset, .unset, .unset] [(.int (52 : Int32)), (.int (x0 &&& (63 : Int32)))])) (fun t k => XS.bipush X0.here hx rfl (hb hby at_15) k) ?_
  refine own_step (st' := s₁.setTop (mkF m 18 #[.val (.int x0), .val (.int x1), .val (.int x2), .val (.int x3), .val (.long (((x0 >>> ((6 : Int32) &&& 31)) % (1024 : Int32)).toInt64)), .second, .unset, .unset, .unset, .unset, .unset, .unset, .unset, .unset, .unset] [(.int ((x0 &&& (63 : Int32)) % (52 : Int32)))])) (fun t k => iremM (g := (mkF m 17 #[.val (.int x0), .val (.int x1), .val (.int x2), .val (.int x3), .val (.long (((x0 >>> ((6 : Int32) &&& 31)) % (1024 : Int32)).toInt64)), .second, .unset, .unset, .unset, .unset, .unset, .unset, .unset, .unset, .unset] [(.int (52 : Int32)), (.int (x0 &&& (63 : Int32)))])) X0 hx rfl (hb hby at_17) rfl (by decide) k) ?_
  refine own_step (st' := s₁.setTop (mkF m 20 #[.val (.int x0), .val (.int x1), .val (.int x2), .val (.int x3), .val (.long (((x0 >>> ((6 : Int32) &&& 31)) % (1024 : Int32)).toInt64)), .second, .val (.int ((x0 &&& (63 : Int32)) % (52 : Int32))), .unset, .unset, .unset, .unset, .unset, .unset, .unset, .unset] [])) (fun t k => XS.istore X0.here hx rfl (hb hby at_18) rfl (l' := #[.val (.int x0), .val (.int x1), .val (.int x2), .val (.int x3), .val (.long (((x0 >>> ((6 : Int32) &&& 31)) % (1024 : Int32)).toInt64)), .second, .val (.int ((x0 &&& (63 : Int32)) % (52 : Int32))), .unset, .unset, .unset, .unset, .unset, .unset, .unset, .unset]) rfl k) ?_
  refine own_step (st' := s₁.setTop (mkF m 22 #[.val (.int x0), .val (.int x1), .val (.int x2), .val (.int x3), .val (.long (((x0 >>> ((6 : Int32) &&& 31)) % (1024 : Int32)).toInt64)), .second, .val (.int ((x0 &&& (63 : Int32)) % (52 : Int32))), .unset, .unset, .unset, .unset, .unset, .unset, .unset, .unset] [(.long (((x0 >>> ((6 : Int32) &&& 31)) % (1024 : Int32)).toInt64))])) (fun t k => XS.lload X0.here hx rfl (hb hby at_20) rfl k) ?_
  refine own_step (st' := s₁.setTop (mkF m 24 #[.val (.int x0), .val (.int x1), .val (.int x2), .val (.int x3), .val (.long (((x0 >>> ((6 : Int32) &&& 31)) % (1024 : Int32)).toInt64)), .second, .val (.int ((x0 &&& (63 : Int32)) % (52 : Int32))), .unset, .unset, .unset, .unset, .unset, .unset, .unset, .unset] [(.int ((x0 &&& (63 : Int32)) % (52 : Int32))), (.long (((x0 >>> ((6 : Int32) &&& 31)) % (1024 : Int32)).toInt64))])) (fun t k => XS.iload X0.here hx rfl (hb hby at_22) rfl k) ?_
  refine own_step (st' := s₁.setTop (mkF m 25 #[.val (.int x0), .val (.int x1), .val (.int x2), .val (.int x3), .val (.long (((x0 >>> ((6 : Int32) &&& 31)) % (1024 : Int32)).toInt64)), .second, .val (.int ((x0 &&& (63 : Int32)) % (52 : Int32))), .unset, .unset, .unset, .unset, .unset, .unset, .unset, .unset] [(.long ((((x0 >>> ((6 : Int32) &&& 31)) % (1024 : Int32)).toInt64) <<< (((x0 &&& (63 : Int32)) % (52 : Int32)) &&& 0x3f).toInt64))])) (fun t k => XS.lshl X0.here hx rfl (hb hby at_24) rfl k) ?_
  obtain ⟨bg, e_bg⟩ : ∃ z : Int64, z = ((((x0 >>> ((6 : Int32) &&& 31)) % (1024 : Int32)).toInt64) <<< (((x0 &&& (63 : Int32)) % (52 : Int32)) &&& 0x3f).toInt64) := ⟨_, rfl⟩
  rw [← e_bg]
  obtain ⟨mm, kk, eb, hm, hk⟩ := own_big x0
  rw [← e_bg] at eb
  have DB : FP.Core.DInt bg.toInt (FP.l2d bg) := FP.Core.own_l2dS eb (by omega) (by omega)
  have RB := own_bigR eb hm hk
  refine own_step (st' := s₁.setTop (mkF m 27 #[.val (.int x0), .val (.int x1), .val (.int x2), .val (.int x3), .val (.long (((x0 >>> ((6 : Int32) &&& 31)) % (1024 : Int32)).toInt64)), .second, .val (.int ((x0 &&& (63 : Int32)) % (52 : Int32))), .val (.long bg), .second, .unset, .unset, .unset, .unset, .unset, .unset] [])) (fun t k => XS.lstore X0.here hx rfl (hb hby at_25) rfl (l' := #[.val (.int x0), .val (.int x1), .val (.int x2), .val (.int x3), .val (.long (((x0 >>> ((6 : Int32) &&& 31)) % (1024 : Int32)).toInt64)), .second, .val (.int ((x0 &&& (63 : Int32)) % (52 : Int32))), .val (.long bg), .second, .unset, .unset, .unset, .unset, .unset, .unset]) rfl k) ?_
  refine own_step (st' := s₁.setTop (mkF m 28 #[.val (.int x0), .val (.int x1), .val (.int x2), .val (.int x3), .val (.long (((x0 >>> ((6 : Int32) &&& 31)) % (1024 : Int32)).toInt64)), .second, .val (.int ((x0 &&& (63 : Int32)) % (52 : Int32))), .val (.long bg), .second, .unset, .unset, .unset, .unset, .unset, .unset] [(.int x1)])) (fun t k => XS.iloadN X0.here hx rfl (hb hby at_27) rfl k) ?_
  refine own_step (st' := s₁.setTop (mkF m 30 #[.val (.int x0), .val (.int x1), .val (.int x2), .val (.int x3), .val (.long (((x0 >>> ((6 : Int32) &&& 31)) % (1024 : Int32)).toInt64)), .second, .val (.int ((x0 &&& (63 : Int32)) % (52 : Int32))), .val (.long bg), .second, .unset, .unset, .unset, .unset, .unset, .unset] [(.int (1048576 : Int32)), (.int x1)])) (fun t k => X0.ldcInt hx hown (mvT hZ (hw _ (List.mem_of_getElem? (i := 0) rfl))) (g := (mkF m 28 #[.val (.int x0), .val (.int x1), .val (.int x2), .val (.int x3), .val (.long (((x0 >>> ((6 : Int32) &&& 31)) % (1024 : Int32)).toInt64)), .second, .val (.int ((x0 &&& (63 : Int32)) % (52 : Int32))), .val (.long bg), .second, .unset, .unset, .unset, .unset, .unset, .unset] [(.int x1)])) rfl (hb hby at_28) t k) ?_
  refine own_step (st' := s₁.setTop (mkF m 31 #[.val (.int x0), .val (.int x1), .val (.int x2), .val (.int x3), .val (.long (((x0 >>> ((6 : Int32) &&& 31)) % (1024 : Int32)).toInt64)), .second, .val (.int ((x0 &&& (63 : Int32)) % (52 : Int32))), .val (.long bg), .second, .unset, .unset, .unset, .unset, .unset, .unset] [(.int (x1 % (1048576 : Int32)))])) (fun t k => iremM (g := (mkF m 30 #[.val (.int x0), .val (.int x1), .val (.int x2), .val (.int x3), .val (.long (((x0 >>> ((6 : Int32) &&& 31)) % (1024 : Int32)).toInt64)), .second, .val (.int ((x0 &&& (63 : Int32)) % (52 : Int32))), .val (.long bg), .second, .unset, .unset, .unset, .unset, .unset, .unset] [(.int (1048576 : Int32)), (.int x1)])) X0 hx rfl (hb hby at_30) rfl (by decide) k) ?_
  obtain ⟨t1, e_t1⟩ : ∃ z : Int32, z = (x1 % (1048576 : Int32)) := ⟨_, rfl⟩
  rw [← e_t1]
  have r_t1 := own_small x1
  rw [← e_t1] at r_t1
  refine own_step (st' := s₁.setTop (mkF m 33 #[.val (.int x0), .val (.int x1), .val (.int x2), .val (.int x3), .val (.long (((x0 >>> ((6 : Int32) &&& 31)) % (1024 : Int32)).toInt64)), .second, .val (.int ((x0 &&& (63 : Int32)) % (52 : Int32))), .val (.long bg), .second, .val (.int t1), .unset, .unset, .unset, .unset, .unset] [])) (fun t k => XS.istore X0.here hx rfl (hb hby at_31) rfl (l' := #[.val (.int x0), .val (.int x1), .val (.int x2), .val (.int x3), .val (.long (((x0 >>> ((6 : Int32) &&& 31)) % (1024 : Int32)).toInt64)), .second, .val (.int ((x0 &&& (63 : Int32)) % (52 : Int32))), .val (.long bg), .second, .val (.int t1), .unset, .unset, .unset, .unset, .unset]) rfl k) ?_
  refine own_step (st' := s₁.setTop (mkF m 34 #[.val (.int x0), .val (.int x1), .val (.int x2), .val (.int x3), .val (.long (((x0 >>> ((6 : Int32) &&& 31)) % (1024 : Int32)).toInt64)), .second, .val (.int ((x0 &&& (63 : Int32)) % (52 : Int32))), .val (.long bg), .second, .val (.int t1), .unset, .unset, .unset, .unset, .unset] [(.int x2)])) (fun t k => XS.iloadN X0.here hx rfl (hb hby at_33) rfl k) ?_
  refine own_step (st' := s₁.setTop (mkF m 36 #[.val (.int x0), .val (.int x1), .val (.int x2), .val (.int x3), .val (.long (((x0 >>> ((6 : Int32) &&& 31)) % (1024 : Int32)).toInt64)), .second, .val (.int ((x0 &&& (63 : Int32)) % (52 : Int32))), .val (.long bg), .second, .val (.int t1), .unset, .unset, .unset, .unset, .unset] [(.int (1048576 : Int32)), (.int x2)])) (fun t k => X0.ldcInt hx hown (mvT hZ (hw _ (List.mem_of_getElem? (i := 0) rfl))) (g := (mkF m 34 #[.val (.int x0), .val (.int x1), .val (.int x2), .val (.int x3), .val (.long (((x0 >>> ((6 : Int32) &&& 31)) % (1024 : Int32)).toInt64)), .second, .val (.int ((x0 &&& (63 : Int32)) % (52 : Int32))), .val (.long bg), .second, .val (.int t1), .unset, .unset, .unset, .unset, .unset] [(.int x2)])) rfl (hb hby at_34) t k) ?_
  refine own_step (st' := s₁.setTop (mkF m 37 #[.val (.int x0), .val (.int x1), .val (.int x2), .val (.int x3), .val (.long (((x0 >>> ((6 : Int32) &&& 31)) % (1024 : Int32)).toInt64)), .second, .val (.int ((x0 &&& (63 : Int32)) % (52 : Int32))), .val (.long bg), .second, .val (.int t1), .unset, .unset, .unset, .unset, .unset] [(.int (x2 % (1048576 : Int32)))])) (fun t k => iremM (g := (mkF m 36 #[.val (.int x0), .val (.int x1), .val (.int x2), .val (.int x3), .val (.long (((x0 >>> ((6 : Int32) &&& 31)) % (1024 : Int32)).toInt64)), .second, .val (.int ((x0 &&& (63 : Int32)) % (52 : Int32))), .val (.long bg), .second, .val (.int t1), .unset, .unset, .unset, .unset, .unset] [(.int (1048576 : Int32)), (.int x2)])) X0 hx rfl (hb hby at_36) rfl (by decide) k) ?_
  obtain ⟨t2, e_t2⟩ : ∃ z : Int32, z = (x2 % (1048576 : Int32)) := ⟨_, rfl⟩
  rw [← e_t2]
  have r_t2 := own_small x2
  rw [← e_t2] at r_t2
  refine own_step (st' := s₁.setTop (mkF m 39 #[.val (.int x0), .val (.int x1), .val (.int x2), .val (.int x3), .val (.long (((x0 >>> ((6 : Int32) &&& 31)) % (1024 : Int32)).toInt64)), .second, .val (.int ((x0 &&& (63 : Int32)) % (52 : Int32))), .val (.long bg), .second, .val (.int t1), .val (.int t2), .unset, .unset, .unset, .unset] [])) (fun t k => XS.istore X0.here hx rfl (hb hby at_37) rfl (l' := #[.val (.int x0), .val (.int x1), .val (.int x2), .val (.int x3), .val (.long (((x0 >>> ((6 : Int32) &&& 31)) % (1024 : Int32)).toInt64)), .second, .val (.int ((x0 &&& (63 : Int32)) % (52 : Int32))), .val (.long bg), .second, .val (.int t1), .val (.int t2), .unset, .unset, .unset, .unset]) rfl k) ?_
  refine own_step (st' := s₁.setTop (mkF m 40 #[.val (.int x0), .val (.int x1), .val (.int x2), .val (.int x3), .val (.long (((x0 >>> ((6 : Int32) &&& 31)) % (1024 : Int32)).toInt64)), .second, .val (.int ((x0 &&& (63 : Int32)) % (52 : Int32))), .val (.long bg), .second, .val (.int t1), .val (.int t2), .unset, .unset, .unset, .unset] [(.int x3)])) (fun t k => XS.iloadN X0.here hx rfl (hb hby at_39) rfl k) ?_
  refine own_step (st' := s₁.setTop (mkF m 42 #[.val (.int x0), .val (.int x1), .val (.int x2), .val (.int x3), .val (.long (((x0 >>> ((6 : Int32) &&& 31)) % (1024 : Int32)).toInt64)), .second, .val (.int ((x0 &&& (63 : Int32)) % (52 : Int32))), .val (.long bg), .second, .val (.int t1), .val (.int t2), .unset, .unset, .unset, .unset] [(.int (1048576 : Int32)), (.int x3)])) (fun t k => X0.ldcInt hx hown (mvT hZ (hw _ (List.mem_of_getElem? (i := 0) rfl))) (g := (mkF m 40 #[.val (.int x0), .val (.int x1), .val (.int x2), .val (.int x3), .val (.long (((x0 >>> ((6 : Int32) &&& 31)) % (1024 : Int32)).toInt64)), .second, .val (.int ((x0 &&& (63 : Int32)) % (52 : Int32))), .val (.long bg), .second, .val (.int t1), .val (.int t2), .unset, .unset, .unset, .unset] [(.int x3)])) rfl (hb hby at_40) t k) ?_
  refine own_step (st' := s₁.setTop (mkF m 43 #[.val (.int x0), .val (.int x1), .val (.int x2), .val (.int x3), .val (.long (((x0 >>> ((6 : Int32) &&& 31)) % (1024 : Int32)).toInt64)), .second, .val (.int ((x0 &&& (63 : Int32)) % (52 : Int32))), .val (.long bg), .second, .val (.int t1), .val (.int t2), .unset, .unset, .unset, .unset] [(.int (x3 % (1048576 : Int32)))])) (fun t k => iremM (g := (mkF m 42 #[.val (.int x0), .val (.int x1), .val (.int x2), .val (.int x3), .val (.long (((x0 >>> ((6 : Int32) &&& 31)) % (1024 : Int32)).toInt64)), .second, .val (.int ((x0 &&& (63 : Int32)) % (52 : Int32))), .val (.long bg), .second, .val (.int t1), .val (.int t2), .unset, .unset, .unset, .unset] [(.int (1048576 : Int32)), (.int x3)])) X0 hx rfl (hb hby at_42) rfl (by decide) k) ?_
  obtain ⟨t3, e_t3⟩ : ∃ z : Int32, z = (x3 % (1048576 : Int32)) := ⟨_, rfl⟩
  rw [← e_t3]
  have r_t3 := own_small x3
  rw [← e_t3] at r_t3
  refine own_step (st' := s₁.setTop (mkF m 45 #[.val (.int x0), .val (.int x1), .val (.int x2), .val (.int x3), .val (.long (((x0 >>> ((6 : Int32) &&& 31)) % (1024 : Int32)).toInt64)), .second, .val (.int ((x0 &&& (63 : Int32)) % (52 : Int32))), .val (.long bg), .second, .val (.int t1), .val (.int t2), .val (.int t3), .unset, .unset, .unset] [])) (fun t k => XS.istore X0.here hx rfl (hb hby at_43) rfl (l' := #[.val (.int x0), .val (.int x1), .val (.int x2), .val (.int x3), .val (.long (((x0 >>> ((6 : Int32) &&& 31)) % (1024 : Int32)).toInt64)), .second, .val (.int ((x0 &&& (63 : Int32)) % (52 : Int32))), .val (.long bg), .second, .val (.int t1), .val (.int t2), .val (.int t3), .unset, .unset, .unset]) rfl k) ?_
  obtain ⟨T1, h1, X1, e1, E1, A1, D1, -, st1⟩ := newO X0 hx hZ hown (hw _ (List.mem_of_getElem? (i := 1) rfl)) (hw _ (List.mem_of_getElem? (i := 2) rfl)) (hw _ (List.mem_of_getElem? (i := 3) rfl)) e0 (g := (mkF m 45 #[.val (.int x0), .val (.int x1), .val (.int x2), .val (.int x3), .val (.long (((x0 >>> ((6 : Int32) &&& 31)) % (1024 : Int32)).toInt64)), .second, .val (.int ((x0 &&& (63 : Int32)) % (52 : Int32))), .val (.long bg), .second, .val (.int t1), .val (.int t2), .val (.int t3), .unset, .unset, .unset] [])) rfl (hb hby at_45) (by decide) (by decide)
  obtain ⟨b1, g1⟩ : ∃ z, z = h0.size := ⟨_, rfl⟩
  rw [← g1] at A1 D1 st1
  have g_b1 : n0 ≤ b1 := Nat.le_trans Z0 (Nat.le_of_eq g1.symm)
  have Z2 : n0 ≤ h1.size := Nat.le_trans Z0 E1.1
  have f3 : Fld Z h1 b1 "com/example/link_importance/linkimportance/rank/CompensatedSum" "lost" "D" (.double (0 : UInt64)) := D1 (Or.inl (hw _ (List.mem_of_getElem? (i := 16) rfl))) (ty := .double) (by decide)
  have f4 : Fld Z h1 b1 "com/example/link_importance/linkimportance/rank/CompensatedSum" "sum" "D" (.double (0 : UInt64)) := D1 (Or.inl (hw _ (List.mem_of_getElem? (i := 18) rfl))) (ty := .double) (by decide)
  refine own_step (st' := T1.setTop (mkF m 48 #[.val (.int x0), .val (.int x1), .val (.int x2), .val (.int x3), .val (.long (((x0 >>> ((6 : Int32) &&& 31)) % (1024 : Int32)).toInt64)), .second, .val (.int ((x0 &&& (63 : Int32)) % (52 : Int32))), .val (.long bg), .second, .val (.int t1), .val (.int t2), .val (.int t3), .unset, .unset, .unset] [(.ref b1)])) st1 ?_
  refine own_step (st' := T1.setTop (mkF m 49 #[.val (.int x0), .val (.int x1), .val (.int x2), .val (.int x3), .val (.long (((x0 >>> ((6 : Int32) &&& 31)) % (1024 : Int32)).toInt64)), .second, .val (.int ((x0 &&& (63 : Int32)) % (52 : Int32))), .val (.long bg), .second, .val (.int t1), .val (.int t2), .val (.int t3), .unset, .unset, .unset] [(.ref b1), (.ref b1)])) (fun t k => XS.dup X1.here hx rfl (hb hby at_48) rfl rfl k) ?_
  obtain ⟨_, _, ⟨T5, L5, k5, n5⟩, -, X5, ⟨Lc5, hQ5, l5, y5, z5⟩, st5⟩ := X1.specialBack hx (y := (⟨"com/example/link_importance/linkimportance/rank/CompensatedSum", "<init>", "()V"⟩ : MethodName)) rfl hown (mvT hZ (hw _ (List.mem_of_getElem? (i := 4) rfl))) (mvT hZ (hw _ (List.mem_of_getElem? (i := 5) rfl))) (mvT hZ (hw _ (List.mem_of_getElem? (i := 6) rfl))) (by decide) (backOf (W := 1) (rm1 l Z a0 hw [] b1 h1 n0 Z2) hZ (hw _ (List.mem_of_getElem? (i := 6) rfl)) (hw _ (List.mem_of_getElem? (i := 3) rfl)) (by decide) (by decide)) (g := (mkF m 49 #[.val (.int x0), .val (.int x1), .val (.int x2), .val (.int x3), .val (.long (((x0 >>> ((6 : Int32) &&& 31)) % (1024 : Int32)).toInt64)), .second, .val (.int ((x0 &&& (63 : Int32)) % (52 : Int32))), .val (.long bg), .second, .val (.int t1), .val (.int t2), .val (.int t3), .unset, .unset, .unset] [(.ref b1), (.ref b1)])) rfl (by rw [hml]; rfl) (Steps.refl _) (a := b1) (argsL := []) (rest := [(.ref b1)]) (lenOf pd_0 rfl) rfl (by show 2 * 0 + _ ≤ _; exact Nat.le_of_eq rfl) (hb hby at_49) (fun _ _ => ⟨rfl, e1, (by decide : 1 + 0 ≤ _), (by decide : 2 + 0 ≤ _)⟩)
  dsimp only [Pt.U, Pt.locs, Pt.cells, Pt.slots] at X5 l5 y5 z5 st5 hQ5
  subst y5 z5
  obtain ⟨rfl, N5q, e5⟩ := hQ5
  have N5 := Fr.app N0 N5q
  rw [← l5] at N5
  clear l5
  refine own_step (st' := T5.setTop (mkF m 52 #[.val (.int x0), .val (.int x1), .val (.int x2), .val (.int x3), .val (.long (((x0 >>> ((6 : Int32) &&& 31)) % (1024 : Int32)).toInt64)), .second, .val (.int ((x0 &&& (63 : Int32)) % (52 : Int32))), .val (.long bg), .second, .val (.int t1), .val (.int t2), .val (.int t3), .unset, .unset, .unset] [(.ref b1)])) (fun t k => st5.trans k) ?_
  refine own_step (st' := T5.setTop (mkF m 54 #[.val (.int x0), .val (.int x1), .val (.int x2), .val (.int x3), .val (.long (((x0 >>> ((6 : Int32) &&& 31)) % (1024 : Int32)).toInt64)), .second, .val (.int ((x0 &&& (63 : Int32)) % (52 : Int32))), .val (.long bg), .second, .val (.int t1), .val (.int t2), .val (.int t3), .val (.ref b1), .unset, .unset] [])) (fun t k => XS.astore X5.here hx rfl (hb hby at_52) rfl rfl (l' := #[.val (.int x0), .val (.int x1), .val (.int x2), .val (.int x3), .val (.long (((x0 >>> ((6 : Int32) &&& 31)) % (1024 : Int32)).toInt64)), .second, .val (.int ((x0 &&& (63 : Int32)) % (52 : Int32))), .val (.long bg), .second, .val (.int t1), .val (.int t2), .val (.int t3), .val (.ref b1), .unset, .unset]) rfl k) ?_
  refine own_step (st' := T5.setTop (mkF m 56 #[.val (.int x0), .val (.int x1), .val (.int x2), .val (.int x3), .val (.long (((x0 >>> ((6 : Int32) &&& 31)) % (1024 : Int32)).toInt64)), .second, .val (.int ((x0 &&& (63 : Int32)) % (52 : Int32))), .val (.long bg), .second, .val (.int t1), .val (.int t2), .val (.int t3), .val (.ref b1), .unset, .unset] [(.ref b1)])) (fun t k => XS.aload X5.here hx rfl (hb hby at_54) rfl rfl k) ?_
  refine own_step (st' := T5.setTop (mkF m 58 #[.val (.int x0), .val (.int x1), .val (.int x2), .val (.int x3), .val (.long (((x0 >>> ((6 : Int32) &&& 31)) % (1024 : Int32)).toInt64)), .second, .val (.int ((x0 &&& (63 : Int32)) % (52 : Int32))), .val (.long bg), .second, .val (.int t1), .val (.int t2), .val (.int t3), .val (.ref b1), .unset, .unset] [(.long bg), (.ref b1)])) (fun t k => XS.lload X5.here hx rfl (hb hby at_56) rfl k) ?_
  refine own_step (st' := T5.setTop (mkF m 59 #[.val (.int x0), .val (.int x1), .val (.int x2), .val (.int x3), .val (.long (((x0 >>> ((6 : Int32) &&& 31)) % (1024 : Int32)).toInt64)), .second, .val (.int ((x0 &&& (63 : Int32)) % (52 : Int32))), .val (.long bg), .second, .val (.int t1), .val (.int t2), .val (.int t3), .val (.ref b1), .unset, .unset] [(.double (FP.l2d bg)), (.ref b1)])) (fun t k => XS.l2dS X5.here hx rfl (hb hby at_58) rfl rfl k) ?_
  obtain ⟨cr1, nx1, dd1, ln1, va1, vb1, vc1, vd1, iv1⟩ := own_first (x := FP.l2d bg) DB (FP.Core.own_l2dz bg DB)
  obtain ⟨cq6, kq6, q6a, q6b, q6c⟩ := isOf hZ e5 A1
  obtain ⟨_, _, ⟨T6, L6, k6, n6⟩, -, X6, ⟨Lc6, hQ6, l6, y6, z6⟩, st6⟩ := X5.virtualBack hx (y := (⟨"com/example/link_importance/linkimportance/rank/CompensatedSum", "add", "(D)V"⟩ : MethodName)) (z := (⟨"com/example/link_importance/linkimportance/rank/CompensatedSum", "add", "(D)V"⟩ : MethodName)) hown (mvT hZ (hw _ (List.mem_of_getElem? (i := 10) rfl))) (mvT hZ (hw _ (List.mem_of_getElem? (i := 11) rfl))) (notFace_of_selects (args := #[]) (mvT hZ (hw _ (List.mem_of_getElem? (i := 13) rfl)))) (mvT hZ (hw _ (List.mem_of_getElem? (i := 13) rfl))) (mvT hZ (hw _ (List.mem_of_getElem? (i := 12) rfl))) (by decide) (backOf (W := 0) (rm3 l Z a0 hw [] b1 (FP.l2d bg) (0 : UInt64) (0 : UInt64) cr1 nx1 dd1 ln1 h1 n0 Z2 f4 f3 A1 g_b1 va1 vb1 vc1 vd1) hZ (hw _ (List.mem_of_getElem? (i := 14) rfl)) (hw _ (List.mem_of_getElem? (i := 3) rfl)) (by decide) (by decide)) q6a q6c (g := (mkF m 59 #[.val (.int x0), .val (.int x1), .val (.int x2), .val (.int x3), .val (.long (((x0 >>> ((6 : Int32) &&& 31)) % (1024 : Int32)).toInt64)), .second, .val (.int ((x0 &&& (63 : Int32)) % (52 : Int32))), .val (.long bg), .second, .val (.int t1), .val (.int t2), .val (.int t3), .val (.ref b1), .unset, .unset] [(.double (FP.l2d bg)), (.ref b1)])) rfl (by rw [hml]; rfl) (Steps.refl _) (argsL := [(.double (FP.l2d bg))]) (rest := []) (lenOf pd_1 rfl) rfl (by show 2 * 0 + _ ≤ _; exact Nat.le_of_eq rfl) (hb hby at_59) (fun _ _ => ⟨rfl, e5, (by decide : 1 + 0 ≤ _), (by decide : 2 + 0 ≤ _)⟩)
  dsimp only [Pt.U, Pt.locs, Pt.cells, Pt.slots] at X6 l6 y6 z6 st6 hQ6
  subst y6 z6
  obtain ⟨rfl, N6q, K6, pq6_0, pq6_1⟩ := hQ6
  have N6 := Fr.app N5 N6q
  rw [← l6] at N6
  clear l6
  obtain ⟨h6, e6⟩ : ∃ z, T6.heap = z := ⟨_, rfl⟩
  rw [e6] at K6 pq6_0 pq6_1
  have f7 := A1.keep K6
  have Z8 : n0 ≤ h6.size := Nat.le_trans Z2 K6.1
  refine own_step (st' := T6.setTop (mkF m 62 #[.val (.int x0), .val (.int x1), .val (.int x2), .val (.int x3), .val (.long (((x0 >>> ((6 : Int32) &&& 31)) % (1024 : Int32)).toInt64)), .second, .val (.int ((x0 &&& (63 : Int32)) % (52 : Int32))), .val (.long bg), .second, .val (.int t1), .val (.int t2), .val (.int t3), .val (.ref b1), .unset, .unset] [])) (fun t k => st6.trans k) ?_
  refine own_step (st' := T6.setTop (mkF m 64 #[.val (.int x0), .val (.int x1), .val (.int x2), .val (.int x3), .val (.long (((x0 >>> ((6 : Int32) &&& 31)) % (1024 : Int32)).toInt64)), .second, .val (.int ((x0 &&& (63 : Int32)) % (52 : Int32))), .val (.long bg), .second, .val (.int t1), .val (.int t2), .val (.int t3), .val (.ref b1), .unset, .unset] [(.ref b1)])) (fun t k => XS.aload X6.here hx rfl (hb hby at_62) rfl rfl k) ?_
  refine own_step (st' := T6.setTop (mkF m 66 #[.val (.int x0), .val (.int x1), .val (.int x2), .val (.int x3), .val (.long (((x0 >>> ((6 : Int32) &&& 31)) % (1024 : Int32)).toInt64)), .second, .val (.int ((x0 &&& (63 : Int32)) % (52 : Int32))), .val (.long bg), .second, .val (.int t1), .val (.int t2), .val (.int t3), .val (.ref b1), .unset, .unset] [(.int t1), (.ref b1)])) (fun t k => XS.iload X6.here hx rfl (hb hby at_64) rfl k) ?_
  refine own_step (st' := T6.setTop (mkF m 67 #[.val (.int x0), .val (.int x1), .val (.int x2), .val (.int x3), .val (.long (((x0 >>> ((6 : Int32) &&& 31)) % (1024 : Int32)).toInt64)), .second, .val (.int ((x0 &&& (63 : Int32)) % (52 : Int32))), .val (.long bg), .second, .val (.int t1), .val (.int t2), .val (.int t3), .val (.ref b1), .unset, .unset] [(.double (FP.i2d t1)), (.ref b1)])) (fun t k => XS.i2dS X6.here hx rfl (hb hby at_66) rfl rfl k) ?_
  obtain ⟨cr2, nx2, dd2, ln2, va2, vb2, vc2, vd2, iv2, ev2⟩ := own_next (x := FP.i2d t1) iv1 (FP.Core.i2d_int t1) (by omega) r_t1
  obtain ⟨cq9, kq9, q9a, q9b, q9c⟩ := isOf hZ e6 f7
  obtain ⟨_, _, ⟨T9, L9, k9, n9⟩, -, X9, ⟨Lc9, hQ9, l9, y9, z9⟩, st9⟩ := X6.virtualBack hx (y := (⟨"com/example/link_importance/linkimportance/rank/CompensatedSum", "add", "(D)V"⟩ : MethodName)) (z := (⟨"com/example/link_importance/linkimportance/rank/CompensatedSum", "add", "(D)V"⟩ : MethodName)) hown (mvT hZ (hw _ (List.mem_of_getElem? (i := 10) rfl))) (mvT hZ (hw _ (List.mem_of_getElem? (i := 11) rfl))) (notFace_of_selects (args := #[]) (mvT hZ (hw _ (List.mem_of_getElem? (i := 13) rfl)))) (mvT hZ (hw _ (List.mem_of_getElem? (i := 13) rfl))) (mvT hZ (hw _ (List.mem_of_getElem? (i := 12) rfl))) (by decide) (backOf (W := 0) (rm3 l Z a0 hw [] b1 (FP.i2d t1) nx1 ln1 cr2 nx2 dd2 ln2 h6 n0 Z8 pq6_0 pq6_1 f7 g_b1 va2 vb2 vc2 vd2) hZ (hw _ (List.mem_of_getElem? (i := 14) rfl)) (hw _ (List.mem_of_getElem? (i := 3) rfl)) (by decide) (by decide)) q9a q9c (g := (mkF m 67 #[.val (.int x0), .val (.int x1), .val (.int x2), .val (.int x3), .val (.long (((x0 >>> ((6 : Int32) &&& 31)) % (1024 : Int32)).toInt64)), .second, .val (.int ((x0 &&& (63 : Int32)) % (52 : Int32))), .val (.long bg), .second, .val (.int t1), .val (.int t2), .val (.int t3), .val (.ref b1), .unset, .unset] [(.double (FP.i2d t1)), (.ref b1)])) rfl (by rw [hml]; rfl) (Steps.refl _) (argsL := [(.double (FP.i2d t1))]) (rest := []) (lenOf pd_1 rfl) rfl (by show 2 * 0 + _ ≤ _; exact Nat.le_of_eq rfl) (hb hby at_67) (fun _ _ => ⟨rfl, e6, (by decide : 1 + 0 ≤ _), (by decide : 2 + 0 ≤ _)⟩)
  dsimp only [Pt.U, Pt.locs, Pt.cells, Pt.slots] at X9 l9 y9 z9 st9 hQ9
  subst y9 z9
  obtain ⟨rfl, N9q, K9, pq9_0, pq9_1⟩ := hQ9
  have N9 := Fr.app N6 N9q
  rw [← l9] at N9
  clear l9
  obtain ⟨h9, e9⟩ : ∃ z, T9.heap = z := ⟨_, rfl⟩
  rw [e9] at K9 pq9_0 pq9_1
  have f10 := f7.keep K9
  have Z11 : n0 ≤ h9.size := Nat.le_trans Z8 K9.1
  refine own_step (st' := T9.setTop (mkF m 70 #[.val (.int x0), .val (.int x1), .val (.int x2), .val (.int x3), .val (.long (((x0 >>> ((6 : Int32) &&& 31)) % (1024 : Int32)).toInt64)), .second, .val (.int ((x0 &&& (63 : Int32)) % (52 : Int32))), .val (.long bg), .second, .val (.int t1), .val (.int t2), .val (.int t3), .val (.ref b1), .unset, .unset] [])) (fun t k => st9.trans k) ?_
  refine own_step (st' := T9.setTop (mkF m 72 #[.val (.int x0), .val (.int x1), .val (.int x2), .val (.int x3), .val (.long (((x0 >>> ((6 : Int32) &&& 31)) % (1024 : Int32)).toInt64)), .second, .val (.int ((x0 &&& (63 : Int32)) % (52 : Int32))), .val (.long bg), .second, .val (.int t1), .val (.int t2), .val (.int t3), .val (.ref b1), .unset, .unset] [(.ref b1)])) (fun t k => XS.aload X9.here hx rfl (hb hby at_70) rfl rfl k) ?_
  refine own_step (st' := T9.setTop (mkF m 74 #[.val (.int x0), .val (.int x1), .val (.int x2), .val (.int x3), .val (.long (((x0 >>> ((6 : Int32) &&& 31)) % (1024 : Int32)).toInt64)), .second, .val (.int ((x0 &&& (63 : Int32)) % (52 : Int32))), .val (.long bg), .second, .val (.int t1), .val (.int t2), .val (.int t3), .val (.ref b1), .unset, .unset] [(.int t2), (.ref b1)])) (fun t k => XS.iload X9.here hx rfl (hb hby at_72) rfl k) ?_
  refine own_step (st' := T9.setTop (mkF m 75 #[.val (.int x0), .val (.int x1), .val (.int x2), .val (.int x3), .val (.long (((x0 >>> ((6 : Int32) &&& 31)) % (1024 : Int32)).toInt64)), .second, .val (.int ((x0 &&& (63 : Int32)) % (52 : Int32))), .val (.long bg), .second, .val (.int t1), .val (.int t2), .val (.int t3), .val (.ref b1), .unset, .unset] [(.double (FP.i2d t2)), (.ref b1)])) (fun t k => XS.i2dS X9.here hx rfl (hb hby at_74) rfl rfl k) ?_
  obtain ⟨cr3, nx3, dd3, ln3, va3, vb3, vc3, vd3, iv3, ev3⟩ := own_next (x := FP.i2d t2) iv2 (FP.Core.i2d_int t2) (by omega) r_t2
  obtain ⟨cq12, kq12, q12a, q12b, q12c⟩ := isOf hZ e9 f10
  obtain ⟨_, _, ⟨T12, L12, k12, n12⟩, -, X12, ⟨Lc12, hQ12, l12, y12, z12⟩, st12⟩ := X9.virtualBack hx (y := (⟨"com/example/link_importance/linkimportance/rank/CompensatedSum", "add", "(D)V"⟩ : MethodName)) (z := (⟨"com/example/link_importance/linkimportance/rank/CompensatedSum", "add", "(D)V"⟩ : MethodName)) hown (mvT hZ (hw _ (List.mem_of_getElem? (i := 10) rfl))) (mvT hZ (hw _ (List.mem_of_getElem? (i := 11) rfl))) (notFace_of_selects (args := #[]) (mvT hZ (hw _ (List.mem_of_getElem? (i := 13) rfl)))) (mvT hZ (hw _ (List.mem_of_getElem? (i := 13) rfl))) (mvT hZ (hw _ (List.mem_of_getElem? (i := 12) rfl))) (by decide) (backOf (W := 0) (rm3 l Z a0 hw [] b1 (FP.i2d t2) nx2 ln2 cr3 nx3 dd3 ln3 h9 n0 Z11 pq9_0 pq9_1 f10 g_b1 va3 vb3 vc3 vd3) hZ (hw _ (List.mem_of_getElem? (i := 14) rfl)) (hw _ (List.mem_of_getElem? (i := 3) rfl)) (by decide) (by decide)) q12a q12c (g := (mkF m 75 #[.val (.int x0), .val (.int x1), .val (.int x2), .val (.int x3), .val (.long (((x0 >>> ((6 : Int32) &&& 31)) % (1024 : Int32)).toInt64)), .second, .val (.int ((x0 &&& (63 : Int32)) % (52 : Int32))), .val (.long bg), .second, .val (.int t1), .val (.int t2), .val (.int t3), .val (.ref b1), .unset, .unset] [(.double (FP.i2d t2)), (.ref b1)])) rfl (by rw [hml]; rfl) (Steps.refl _) (argsL := [(.double (FP.i2d t2))]) (rest := []) (lenOf pd_1 rfl) rfl (by show 2 * 0 + _ ≤ _; exact Nat.le_of_eq rfl) (hb hby at_75) (fun _ _ => ⟨rfl, e9, (by decide : 1 + 0 ≤ _), (by decide : 2 + 0 ≤ _)⟩)
  dsimp only [Pt.U, Pt.locs, Pt.cells, Pt.slots] at X12 l12 y12 z12 st12 hQ12
  subst y12 z12
  obtain ⟨rfl, N12q, K12, pq12_0, pq12_1⟩ := hQ12
  have N12 := Fr.app N9 N12q
  rw [← l12] at N12
  clear l12
  obtain ⟨h12, e12⟩ : ∃ z, T12.heap = z := ⟨_, rfl⟩
  rw [e12] at K12 pq12_0 pq12_1
  have f13 := f10.keep K12
  have Z14 : n0 ≤ h12.size := Nat.le_trans Z11 K12.1
  refine own_step (st' := T12.setTop (mkF m 78 #[.val (.int x0), .val (.int x1), .val (.int x2), .val (.int x3), .val (.long (((x0 >>> ((6 : Int32) &&& 31)) % (1024 : Int32)).toInt64)), .second, .val (.int ((x0 &&& (63 : Int32)) % (52 : Int32))), .val (.long bg), .second, .val (.int t1), .val (.int t2), .val (.int t3), .val (.ref b1), .unset, .unset] [])) (fun t k => st12.trans k) ?_
  refine own_step (st' := T12.setTop (mkF m 80 #[.val (.int x0), .val (.int x1), .val (.int x2), .val (.int x3), .val (.long (((x0 >>> ((6 : Int32) &&& 31)) % (1024 : Int32)).toInt64)), .second, .val (.int ((x0 &&& (63 : Int32)) % (52 : Int32))), .val (.long bg), .second, .val (.int t1), .val (.int t2), .val (.int t3), .val (.ref b1), .unset, .unset] [(.ref b1)])) (fun t k => XS.aload X12.here hx rfl (hb hby at_78) rfl rfl k) ?_
  refine own_step (st' := T12.setTop (mkF m 82 #[.val (.int x0), .val (.int x1), .val (.int x2), .val (.int x3), .val (.long (((x0 >>> ((6 : Int32) &&& 31)) % (1024 : Int32)).toInt64)), .second, .val (.int ((x0 &&& (63 : Int32)) % (52 : Int32))), .val (.long bg), .second, .val (.int t1), .val (.int t2), .val (.int t3), .val (.ref b1), .unset, .unset] [(.int t3), (.ref b1)])) (fun t k => XS.iload X12.here hx rfl (hb hby at_80) rfl k) ?_
  refine own_step (st' := T12.setTop (mkF m 83 #[.val (.int x0), .val (.int x1), .val (.int x2), .val (.int x3), .val (.long (((x0 >>> ((6 : Int32) &&& 31)) % (1024 : Int32)).toInt64)), .second, .val (.int ((x0 &&& (63 : Int32)) % (52 : Int32))), .val (.long bg), .second, .val (.int t1), .val (.int t2), .val (.int t3), .val (.ref b1), .unset, .unset] [(.double (FP.i2d t3)), (.ref b1)])) (fun t k => XS.i2dS X12.here hx rfl (hb hby at_82) rfl rfl k) ?_
  obtain ⟨cr4, nx4, dd4, ln4, va4, vb4, vc4, vd4, iv4, ev4⟩ := own_next (x := FP.i2d t3) iv3 (FP.Core.i2d_int t3) (by omega) r_t3
  obtain ⟨cq15, kq15, q15a, q15b, q15c⟩ := isOf hZ e12 f13
  obtain ⟨_, _, ⟨T15, L15, k15, n15⟩, -, X15, ⟨Lc15, hQ15, l15, y15, z15⟩, st15⟩ := X12.virtualBack hx (y := (⟨"com/example/link_importance/linkimportance/rank/CompensatedSum", "add", "(D)V"⟩ : MethodName)) (z := (⟨"com/example/link_importance/linkimportance/rank/CompensatedSum", "add", "(D)V"⟩ : MethodName)) hown (mvT hZ (hw _ (List.mem_of_getElem? (i := 10) rfl))) (mvT hZ (hw _ (List.mem_of_getElem? (i := 11) rfl))) (notFace_of_selects (args := #[]) (mvT hZ (hw _ (List.mem_of_getElem? (i := 13) rfl)))) (mvT hZ (hw _ (List.mem_of_getElem? (i := 13) rfl))) (mvT hZ (hw _ (List.mem_of_getElem? (i := 12) rfl))) (by decide) (backOf (W := 0) (rm3 l Z a0 hw [] b1 (FP.i2d t3) nx3 ln3 cr4 nx4 dd4 ln4 h12 n0 Z14 pq12_0 pq12_1 f13 g_b1 va4 vb4 vc4 vd4) hZ (hw _ (List.mem_of_getElem? (i := 14) rfl)) (hw _ (List.mem_of_getElem? (i := 3) rfl)) (by decide) (by decide)) q15a q15c (g := (mkF m 83 #[.val (.int x0), .val (.int x1), .val (.int x2), .val (.int x3), .val (.long (((x0 >>> ((6 : Int32) &&& 31)) % (1024 : Int32)).toInt64)), .second, .val (.int ((x0 &&& (63 : Int32)) % (52 : Int32))), .val (.long bg), .second, .val (.int t1), .val (.int t2), .val (.int t3), .val (.ref b1), .unset, .unset] [(.double (FP.i2d t3)), (.ref b1)])) rfl (by rw [hml]; rfl) (Steps.refl _) (argsL := [(.double (FP.i2d t3))]) (rest := []) (lenOf pd_1 rfl) rfl (by show 2 * 0 + _ ≤ _; exact Nat.le_of_eq rfl) (hb hby at_83) (fun _ _ => ⟨rfl, e12, (by decide : 1 + 0 ≤ _), (by decide : 2 + 0 ≤ _)⟩)
  dsimp only [Pt.U, Pt.locs, Pt.cells, Pt.slots] at X15 l15 y15 z15 st15 hQ15
  subst y15 z15
  obtain ⟨rfl, N15q, K15, pq15_0, pq15_1⟩ := hQ15
  have N15 := Fr.app N12 N15q
  rw [← l15] at N15
  clear l15
  obtain ⟨h15, e15⟩ : ∃ z, T15.heap = z := ⟨_, rfl⟩
  rw [e15] at K15 pq15_0 pq15_1
  have f16 := f13.keep K15
  have Z17 : n0 ≤ h15.size := Nat.le_trans Z14 K15.1
  refine own_step (st' := T15.setTop (mkF m 86 #[.val (.int x0), .val (.int x1), .val (.int x2), .val (.int x3), .val (.long (((x0 >>> ((6 : Int32) &&& 31)) % (1024 : Int32)).toInt64)), .second, .val (.int ((x0 &&& (63 : Int32)) % (52 : Int32))), .val (.long bg), .second, .val (.int t1), .val (.int t2), .val (.int t3), .val (.ref b1), .unset, .unset] [])) (fun t k => st15.trans k) ?_
  refine own_step (st' := T15.setTop (mkF m 88 #[.val (.int x0), .val (.int x1), .val (.int x2), .val (.int x3), .val (.long (((x0 >>> ((6 : Int32) &&& 31)) % (1024 : Int32)).toInt64)), .second, .val (.int ((x0 &&& (63 : Int32)) % (52 : Int32))), .val (.long bg), .second, .val (.int t1), .val (.int t2), .val (.int t3), .val (.ref b1), .unset, .unset] [(.long bg)])) (fun t k => XS.lload X15.here hx rfl (hb hby at_86) rfl k) ?_
  refine own_step (st' := T15.setTop (mkF m 90 #[.val (.int x0), .val (.int x1), .val (.int x2), .val (.int x3), .val (.long (((x0 >>> ((6 : Int32) &&& 31)) % (1024 : Int32)).toInt64)), .second, .val (.int ((x0 &&& (63 : Int32)) % (52 : Int32))), .val (.long bg), .second, .val (.int t1), .val (.int t2), .val (.int t3), .val (.ref b1), .unset, .unset] [(.int t1), (.long bg)])) (fun t k => XS.iload X15.here hx rfl (hb hby at_88) rfl k) ?_
  refine own_step (st' := T15.setTop (mkF m 91 #[.val (.int x0), .val (.int x1), .val (.int x2), .val (.int x3), .val (.long (((x0 >>> ((6 : Int32) &&& 31)) % (1024 : Int32)).toInt64)), .second, .val (.int ((x0 &&& (63 : Int32)) % (52 : Int32))), .val (.long bg), .second, .val (.int t1), .val (.int t2), .val (.int t3), .val (.ref b1), .unset, .unset] [(.long (t1.toInt64)), (.long bg)])) (fun t k => XS.i2l X15.here hx rfl (hb hby at_90) rfl k) ?_
  refine own_step (st' := T15.setTop (mkF m 92 #[.val (.int x0), .val (.int x1), .val (.int x2), .val (.int x3), .val (.long (((x0 >>> ((6 : Int32) &&& 31)) % (1024 : Int32)).toInt64)), .second, .val (.int ((x0 &&& (63 : Int32)) % (52 : Int32))), .val (.long bg), .second, .val (.int t1), .val (.int t2), .val (.int t3), .val (.ref b1), .unset, .unset] [(.long (bg + (t1.toInt64)))])) (fun t k => XS.ladd X15.here hx rfl (hb hby at_91) rfl k) ?_
  refine own_step (st' := T15.setTop (mkF m 94 #[.val (.int x0), .val (.int x1), .val (.int x2), .val (.int x3), .val (.long (((x0 >>> ((6 : Int32) &&& 31)) % (1024 : Int32)).toInt64)), .second, .val (.int ((x0 &&& (63 : Int32)) % (52 : Int32))), .val (.long bg), .second, .val (.int t1), .val (.int t2), .val (.int t3), .val (.ref b1), .unset, .unset] [(.int t2), (.long (bg + (t1.toInt64)))])) (fun t k => XS.iload X15.here hx rfl (hb hby at_92) rfl k) ?_
  refine own_step (st' := T15.setTop (mkF m 95 #[.val (.int x0), .val (.int x1), .val (.int x2), .val (.int x3), .val (.long (((x0 >>> ((6 : Int32) &&& 31)) % (1024 : Int32)).toInt64)), .second, .val (.int ((x0 &&& (63 : Int32)) % (52 : Int32))), .val (.long bg), .second, .val (.int t1), .val (.int t2), .val (.int t3), .val (.ref b1), .unset, .unset] [(.long (t2.toInt64)), (.long (bg + (t1.toInt64)))])) (fun t k => XS.i2l X15.here hx rfl (hb hby at_94) rfl k) ?_
  refine own_step (st' := T15.setTop (mkF m 96 #[.val (.int x0), .val (.int x1), .val (.int x2), .val (.int x3), .val (.long (((x0 >>> ((6 : Int32) &&& 31)) % (1024 : Int32)).toInt64)), .second, .val (.int ((x0 &&& (63 : Int32)) % (52 : Int32))), .val (.long bg), .second, .val (.int t1), .val (.int t2), .val (.int t3), .val (.ref b1), .unset, .unset] [(.long ((bg + (t1.toInt64)) + (t2.toInt64)))])) (fun t k => XS.ladd X15.here hx rfl (hb hby at_95) rfl k) ?_
  refine own_step (st' := T15.setTop (mkF m 98 #[.val (.int x0), .val (.int x1), .val (.int x2), .val (.int x3), .val (.long (((x0 >>> ((6 : Int32) &&& 31)) % (1024 : Int32)).toInt64)), .second, .val (.int ((x0 &&& (63 : Int32)) % (52 : Int32))), .val (.long bg), .second, .val (.int t1), .val (.int t2), .val (.int t3), .val (.ref b1), .unset, .unset] [(.int t3), (.long ((bg + (t1.toInt64)) + (t2.toInt64)))])) (fun t k => XS.iload X15.here hx rfl (hb hby at_96) rfl k) ?_
  refine own_step (st' := T15.setTop (mkF m 99 #[.val (.int x0), .val (.int x1), .val (.int x2), .val (.int x3), .val (.long (((x0 >>> ((6 : Int32) &&& 31)) % (1024 : Int32)).toInt64)), .second, .val (.int ((x0 &&& (63 : Int32)) % (52 : Int32))), .val (.long bg), .second, .val (.int t1), .val (.int t2), .val (.int t3), .val (.ref b1), .unset, .unset] [(.long (t3.toInt64)), (.long ((bg + (t1.toInt64)) + (t2.toInt64)))])) (fun t k => XS.i2l X15.here hx rfl (hb hby at_98) rfl k) ?_
  refine own_step (st' := T15.setTop (mkF m 100 #[.val (.int x0), .val (.int x1), .val (.int x2), .val (.int x3), .val (.long (((x0 >>> ((6 : Int32) &&& 31)) % (1024 : Int32)).toInt64)), .second, .val (.int ((x0 &&& (63 : Int32)) % (52 : Int32))), .val (.long bg), .second, .val (.int t1), .val (.int t2), .val (.int t3), .val (.ref b1), .unset, .unset] [(.long (((bg + (t1.toInt64)) + (t2.toInt64)) + (t3.toInt64)))])) (fun t k => XS.ladd X15.here hx rfl (hb hby at_99) rfl k) ?_
  obtain ⟨tt, e_tt⟩ : ∃ z : Int64, z = (((bg + (t1.toInt64)) + (t2.toInt64)) + (t3.toInt64)) := ⟨_, rfl⟩
  rw [← e_tt]
  have eT : tt.toInt = bg.toInt + t1.toInt + t2.toInt + t3.toInt := by
    have a1 := c_ladd bg t1.toInt64
    have a2 := c_ladd (bg + t1.toInt64) t2.toInt64
    have a3 := c_ladd ((bg + t1.toInt64) + t2.toInt64) t3.toInt64
    have b1 := c_i2l t1
    have b2 := c_i2l t2
    have b3 := c_i2l t3
    have d1 := rng64 (bg + t1.toInt64)
    have d2 := rng64 ((bg + t1.toInt64) + t2.toInt64)
    have d3 := rng64 (((bg + t1.toInt64) + t2.toInt64) + t3.toInt64)
    rw [← e_tt] at a3 d3
    omega
  refine own_step (st' := T15.setTop (mkF m 102 #[.val (.int x0), .val (.int x1), .val (.int x2), .val (.int x3), .val (.long (((x0 >>> ((6 : Int32) &&& 31)) % (1024 : Int32)).toInt64)), .second, .val (.int ((x0 &&& (63 : Int32)) % (52 : Int32))), .val (.long bg), .second, .val (.int t1), .val (.int t2), .val (.int t3), .val (.ref b1), .val (.long tt), .second] [])) (fun t k => XS.lstore X15.here hx rfl (hb hby at_100) rfl (l' := #[.val (.int x0), .val (.int x1), .val (.int x2), .val (.int x3), .val (.long (((x0 >>> ((6 : Int32) &&& 31)) % (1024 : Int32)).toInt64)), .second, .val (.int ((x0 &&& (63 : Int32)) % (52 : Int32))), .val (.long bg), .second, .val (.int t1), .val (.int t2), .val (.int t3), .val (.ref b1), .val (.long tt), .second]) rfl k) ?_
  refine own_step (st' := T15.setTop (mkF m 104 #[.val (.int x0), .val (.int x1), .val (.int x2), .val (.int x3), .val (.long (((x0 >>> ((6 : Int32) &&& 31)) % (1024 : Int32)).toInt64)), .second, .val (.int ((x0 &&& (63 : Int32)) % (52 : Int32))), .val (.long bg), .second, .val (.int t1), .val (.int t2), .val (.int t3), .val (.ref b1), .val (.long tt), .second] [(.ref b1)])) (fun t k => XS.aload X15.here hx rfl (hb hby at_102) rfl rfl k) ?_
  obtain ⟨cq18, kq18, q18a, q18b, q18c⟩ := isOf hZ e15 f16
  obtain ⟨_, _, ⟨T18, L18, k18, n18⟩, -, X18, ⟨Lc18, hQ18, l18, y18, z18⟩, st18⟩ := X15.virtualBack hx (y := (⟨"com/example/link_importance/linkimportance/rank/CompensatedSum", "value", "()D"⟩ : MethodName)) (z := (⟨"com/example/link_importance/linkimportance/rank/CompensatedSum", "value", "()D"⟩ : MethodName)) hown (mvT hZ (hw _ (List.mem_of_getElem? (i := 19) rfl))) (mvT hZ (hw _ (List.mem_of_getElem? (i := 20) rfl))) (notFace_of_selects (args := #[]) (mvT hZ (hw _ (List.mem_of_getElem? (i := 22) rfl)))) (mvT hZ (hw _ (List.mem_of_getElem? (i := 22) rfl))) (mvT hZ (hw _ (List.mem_of_getElem? (i := 21) rfl))) (by decide) (backOf (W := 0) (rm4 l Z a0 hw [] b1 nx4 h15 n0 Z17 pq15_0) hZ (hw _ (List.mem_of_getElem? (i := 23) rfl)) (hw _ (List.mem_of_getElem? (i := 3) rfl)) (by decide) (by decide)) q18a q18c (g := (mkF m 104 #[.val (.int x0), .val (.int x1), .val (.int x2), .val (.int x3), .val (.long (((x0 >>> ((6 : Int32) &&& 31)) % (1024 : Int32)).toInt64)), .second, .val (.int ((x0 &&& (63 : Int32)) % (52 : Int32))), .val (.long bg), .second, .val (.int t1), .val (.int t2), .val (.int t3), .val (.ref b1), .val (.long tt), .second] [(.ref b1)])) rfl (by rw [hml]; rfl) (Steps.refl _) (argsL := []) (rest := []) (lenOf pd_2 rfl) rfl (by show 2 * 0 + _ ≤ _; exact Nat.le_of_eq rfl) (hb hby at_104) (fun _ _ => ⟨rfl, e15, (by decide : 1 + 0 ≤ _), (by decide : 2 + 0 ≤ _)⟩)
  dsimp only [Pt.U, Pt.locs, Pt.cells, Pt.slots] at X18 l18 y18 z18 st18 hQ18
  subst y18 z18
  obtain ⟨rfl, N18q, e18⟩ := hQ18
  have N18 := Fr.app N15 N18q
  rw [← l18] at N18
  clear l18
  refine own_step (st' := T18.setTop (mkF m 107 #[.val (.int x0), .val (.int x1), .val (.int x2), .val (.int x3), .val (.long (((x0 >>> ((6 : Int32) &&& 31)) % (1024 : Int32)).toInt64)), .second, .val (.int ((x0 &&& (63 : Int32)) % (52 : Int32))), .val (.long bg), .second, .val (.int t1), .val (.int t2), .val (.int t3), .val (.ref b1), .val (.long tt), .second] [(.double nx4)])) (fun t k => st18.trans k) ?_
  refine own_step (st' := T18.setTop (mkF m 109 #[.val (.int x0), .val (.int x1), .val (.int x2), .val (.int x3), .val (.long (((x0 >>> ((6 : Int32) &&& 31)) % (1024 : Int32)).toInt64)), .second, .val (.int ((x0 &&& (63 : Int32)) % (52 : Int32))), .val (.long bg), .second, .val (.int t1), .val (.int t2), .val (.int t3), .val (.ref b1), .val (.long tt), .second] [(.long tt), (.double nx4)])) (fun t k => XS.lload X18.here hx rfl (hb hby at_107) rfl k) ?_
  refine own_step (st' := T18.setTop (mkF m 110 #[.val (.int x0), .val (.int x1), .val (.int x2), .val (.int x3), .val (.long (((x0 >>> ((6 : Int32) &&& 31)) % (1024 : Int32)).toInt64)), .second, .val (.int ((x0 &&& (63 : Int32)) % (52 : Int32))), .val (.long bg), .second, .val (.int t1), .val (.int t2), .val (.int t3), .val (.ref b1), .val (.long tt), .second] [(.double (FP.l2d tt)), (.double nx4)])) (fun t k => XS.l2dS X18.here hx rfl (hb hby at_109) rfl rfl k) ?_
  refine own_step (st' := T18.setTop (mkF m 111 #[.val (.int x0), .val (.int x1), .val (.int x2), .val (.int x3), .val (.long (((x0 >>> ((6 : Int32) &&& 31)) % (1024 : Int32)).toInt64)), .second, .val (.int ((x0 &&& (63 : Int32)) % (52 : Int32))), .val (.long bg), .second, .val (.int t1), .val (.int t2), .val (.int t3), .val (.ref b1), .val (.long tt), .second] [(.int (0 : Int32))])) (fun t k => XS.dcmpS X18.here hx rfl (hb hby at_110) rfl (own_cmpV (ev4 tt eT)) k) ?_
  refine own_step (st' := T18.setTop (mkF m 114 #[.val (.int x0), .val (.int x1), .val (.int x2), .val (.int x3), .val (.long (((x0 >>> ((6 : Int32) &&& 31)) % (1024 : Int32)).toInt64)), .second, .val (.int ((x0 &&& (63 : Int32)) % (52 : Int32))), .val (.long bg), .second, .val (.int t1), .val (.int t2), .val (.int t3), .val (.ref b1), .val (.long tt), .second] [])) (fun t k => XS.ifNo X18.here hx rfl (hb hby at_111) rfl ((if0 _ _).trans (teq (by decide)).2) k) ?_
  refine own_step (st' := T18.setTop (mkF m 115 #[.val (.int x0), .val (.int x1), .val (.int x2), .val (.int x3), .val (.long (((x0 >>> ((6 : Int32) &&& 31)) % (1024 : Int32)).toInt64)), .second, .val (.int ((x0 &&& (63 : Int32)) % (52 : Int32))), .val (.long bg), .second, .val (.int t1), .val (.int t2), .val (.int t3), .val (.ref b1), .val (.long tt), .second] [(.int (1 : Int32))])) (fun t k => XS.iconst X18.here hx rfl (hb hby at_114) k) ?_
  refine own_step (st' := T18.setTop (mkF m 119 #[.val (.int x0), .val (.int x1), .val (.int x2), .val (.int x3), .val (.long (((x0 >>> ((6 : Int32) &&& 31)) % (1024 : Int32)).toInt64)), .second, .val (.int ((x0 &&& (63 : Int32)) % (52 : Int32))), .val (.long bg), .second, .val (.int t1), .val (.int t2), .val (.int t3), .val (.ref b1), .val (.long tt), .second] [(.int (1 : Int32))])) (fun t k => XS.goto X18.here hx rfl (pc0 := 115) (pc' := 119) rfl (hb hby at_115) (by decide) (by decide) k) ?_
  refine own_ret X18 Bd.notSynchronized (some (.int (1 : Int32))) (fun h => by rw [Bd.returns] at h; cases h) (fun fs hr => retN X18 hx (t := .boolean) Bd.returns (by simp) (hb hby at_119) hr) ?_ (by decide) (by decide)
  rw [e18]
  exact ⟨rfl, N18⟩
set_option maxRecDepth 65536 in
set_option maxHeartbeats 40000000 in
theorem comes_1 {Post : Tables → Env → Array Value → State → Outcome → State → Prop} (hpost : ∀ tb e args s v u, (limb_1_1.after args s (.returned v) u = true ∧ limb_1_2.after args s (.returned v) u = true ∧ True) → FrameEnd s (.returned v) u (Jvm.fieldLocs frame_1_writes args s ++ Jvm.arrayLocs frame_1_arrays args s ++ Jvm.staticLocs frame_1_statics s) 16 128 → Post tb e args s (.returned v) u) :
    ArmFor flags0 classFile x code maxLocals ret World_1 tables_1 room_1 Calls_1 rest_1 Pre_1 Post := by
  intro l hfl _ _ p e ha hc hk s m args below hf hA hF happ hP
  obtain ⟨hcalls, hrest, hpre⟩ := hP
  obtain ⟨-, -, -, hnamed, -, -, -, hat⟩ := (Spec.applies_iff hf).mp happ
  obtain ⟨hg, hn⟩ := and_e (Cond.before_iff.mp (show (Jvm.Cond.and given_1 narrow_1).before args s = true from hpre))
  obtain ⟨hcount, hg0⟩ := and_e hg
  obtain ⟨ha0, hg1⟩ := and_e hg0
  obtain ⟨ha1, hg2⟩ := and_e hg1
  obtain ⟨ha2, hg3⟩ := and_e hg2
  obtain ⟨w0, w1, w2, w3, rfl⟩ : ∃ w0 w1 w2 w3 : Value, args = #[w0, w1, w2, w3] := by
    have hs : args.size = 4 := by simpa [Cond.value, given_1] using hcount
    obtain ⟨L⟩ := args
    match L, hs with
    | [w0, w1, w2, w3], _ => exact ⟨w0, w1, w2, w3, rfl⟩
  have hw := fun d (hd : d ∈ tables_1) => atoms_spec (ws := Jvm.Cond.code x code maxLocals ret :: tables_1) hat d (List.mem_cons_of_mem _ hd)
  have hfit : Fit s := fun {y c} hc i hi => by
    obtain ⟨ha, rfl⟩ := Array.getElem?_eq_some_iff.mp hc
    have q := List.all_eq_true.mp ((Array.all_eq_true_iff_forall_mem.mp hF) _ (Array.getElem_mem ha)) i (List.mem_range.mpr hi)
    simpa [Array.getElem?_eq_getElem hi] using q
  obtain ⟨i0, ei0⟩ := is_v ha0
  obtain rfl : w0 = (.int i0) := Option.some.inj ei0
  obtain ⟨i1, ei1⟩ := is_v ha1
  obtain rfl : w1 = (.int i1) := Option.some.inj ei1
  obtain ⟨i2, ei2⟩ := is_v ha2
  obtain rfl : w2 = (.int i2) := Option.some.inj ei2
  obtain ⟨i3, ei3⟩ := is_v hg3
  obtain rfl : w3 = (.int i3) := Option.some.inj ei3
  obtain ⟨n, o, h1, h2, h3, _, L, rfl, ⟨rfl, N⟩, hq⟩ := rm0 l s _ hw tables_1 i0 i1 i2 i3 s.heap s.heap.size (Nat.le_refl _) p e ha hc hk s m _ below hf ((Spec.applies_iff_loose hf).mp happ).1 ⟨rfl, State.Warmed39.refl s, rfl⟩ trivial
  refine ⟨n, _, h1, h2, h3, hpost _ _ _ _ _ _ ⟨Cond.after_iff.mpr rfl, Cond.after_iff.mpr (eq_i res_at (Term.int_eval (1)) rfl), trivial⟩ ⟨hq.1, hq.2.1, (hq.2.2.sift fun y hy => Or.inr (N y hy)).mono (by decide) (by decide)⟩⟩
theorem main_1_1 : Claimed_1_1 := comes_1 fun _ _ _ _ _ _ h hF => ⟨h.1, hF⟩
theorem main_1_2 : Claimed_1_2 := comes_1 fun _ _ _ _ _ _ h hF => ⟨h.2.1, hF⟩
end Jvm.Pilot.@@N@@
namespace Jvm.Pilot.@@N@@
open Jvm Jvm.ClassFile Sem Op Lib Jvm.Free Jvm.Stand Jvm.Pilot.@@N@@.Jvm.D
/-! MADE BY PROGRAM (witnessworld.py) out of the Statement's table words and the real class files: 9 classes; the members and pool entries that the words name. The judged class is class 1, her method 1. -/
namespace start1
open Jvm.ClassFile
def u (s : String) : CpInfo := .utf8 (stringToUtf16 s)
/-- a pool by its gaps: so many unusable entries, then the entry; so many at the end -/
def gap : Nat → List CpInfo → List CpInfo
  | 0, r => r
  | n + 1, r => .unusable :: gap n r
def poolList (es : List (Nat × CpInfo)) (last : Nat) : List CpInfo := es.foldr (fun e r => gap e.1 (e.2 :: r)) (gap last [])
def pool (es : List (Nat × CpInfo)) (last : Nat) : Array CpInfo := ⟨poolList es last⟩
def fileOf (pool : Array CpInfo) (this : Nat) (attrs : Array Attribute := #[]) (ms : Array MethodInfo := #[]) (fl : Nat := 33) (sup : Nat := 0) (ifs : Array Nat := #[]) (fds : Array FieldInfo := #[]) : ClassFile where
  minorVersion := 0
  majorVersion := 65
  constantPool := pool
  accessFlags := fl
  thisClass := this
  superClass := sup
  interfaces := ifs
  fields := fds
  methods := ms
  attributes := attrs
def plain (name : String) (sup : Option ClassId) : Class where
  name := name
  kind := .ordinary
  loader := none
  accessFlags := 33
  super := sup
  interfaces := #[]
  cf := none
  fields := #[]
  methods := #[]
  instanceTypes := #[]
  staticTypes := #[]
  resolved := #[]
  callSites := []
  init := .initialized
  statics := none
  mirror := none

def pool0 : Array CpInfo := pool [(5, u "<init>"), (0, u "()V"), (1, .class_ 10), (1, u "java/lang/Object")] 113

def k0c0 : Code := { maxStack := 0, maxLocals := 1, code := object_method_1_code, exceptionTable := #[], attributes := #[] }
def k0m0 : Method := { name := "<init>", desc := "()V", sig := { parameters := [], returnType := none }, accessFlags := 1, code := some k0c0 }
/-- java/lang/Object -/
def k0 : Class := { plain "java/lang/Object" none with
  accessFlags := 33
  interfaces := #[]
  cf := some (fileOf pool0 8 #[] #[{ accessFlags := 1, nameIndex := 5, descriptorIndex := 6, attributes := #[] }] 33 0 #[] #[])
  fields := #[]
  methods := #[k0m0]
  instanceTypes := #[]
  staticTypes := #[]
  resolved := Array.replicate 124 none
  statics := none }

def pool1 : Array CpInfo := pool [(2, .class_ 4), (0, .nameAndType 5 6), (0, u "java/lang/Object"), (0, u "<init>"), (0, u "()V"), (0, .integer 1048576), (0, .class_ 9), (0, u "com/example/link_importance/linkimportance/rank/CompensatedSum"), (0, .methodref 8 3), (0, .methodref 8 12), (0, .nameAndType 13 14), (0, u "add"), (0, u "(D)V"), (0, .methodref 8 16), (0, .nameAndType 17 18), (0, u "value"), (0, u "()D"), (0, .class_ 20), (0, u "com/example/link_importance/linkimportance/rank/CompensatedSumAddPinLaw"), (2, u "law"), (0, u "(IIII)Z")] 3

def k1m0 : Method := { name := "<init>", desc := "()V", sig := { parameters := [], returnType := none }, accessFlags := 1, code := none }
def k1c1 : Code := { maxStack := 4, maxLocals := 15, code := code, exceptionTable := #[], attributes := #[] }
def k1m1 : Method := { name := "law", desc := "(IIII)Z", sig := { parameters := [.int, .int, .int, .int], returnType := some .boolean }, accessFlags := 9, code := some k1c1 }
/-- com/example/link_importance/linkimportance/rank/CompensatedSumAddPinLaw -/
def k1 : Class := { plain "com/example/link_importance/linkimportance/rank/CompensatedSumAddPinLaw" (some 0) with
  accessFlags := 49
  interfaces := #[]
  cf := some (fileOf pool1 19 #[] #[{ accessFlags := 1, nameIndex := 5, descriptorIndex := 6, attributes := #[] }, { accessFlags := 9, nameIndex := 23, descriptorIndex := 24, attributes := #[] }] 49 2 #[] #[])
  fields := #[]
  methods := #[k1m0, k1m1]
  instanceTypes := #[]
  staticTypes := #[]
  resolved := Array.replicate 28 none
  statics := none }

def pool2 : Array CpInfo := pool [(1, .methodref 2 3), (0, .class_ 4), (0, .nameAndType 5 6), (0, u "java/lang/Object"), (0, u "<init>"), (0, u "()V"), (0, .fieldref 8 9), (0, .class_ 10), (0, .nameAndType 11 12), (0, u "com/example/link_importance/linkimportance/rank/CompensatedSum"), (0, u "lost"), (0, u "D"), (0, .fieldref 8 14), (0, .nameAndType 15 12), (0, u "sum"), (2, u "add"), (0, u "(D)V"), (0, u "value"), (0, u "()D")] 2

def k2c0 : Code := { maxStack := 1, maxLocals := 1, code := prog_37_method_1_code, exceptionTable := #[], attributes := #[] }
def k2m0 : Method := { name := "<init>", desc := "()V", sig := { parameters := [], returnType := none }, accessFlags := 0, code := some k2c0 }
def k2c1 : Code := { maxStack := 5, maxLocals := 7, code := prog_37_method_2_code, exceptionTable := #[], attributes := #[] }
def k2m1 : Method := { name := "add", desc := "(D)V", sig := { parameters := [.double], returnType := none }, accessFlags := 0, code := some k2c1 }
def k2c2 : Code := { maxStack := 2, maxLocals := 1, code := prog_37_method_3_code, exceptionTable := #[], attributes := #[] }
def k2m2 : Method := { name := "value", desc := "()D", sig := { parameters := [], returnType := some .double }, accessFlags := 0, code := some k2c2 }
/-- com/example/link_importance/linkimportance/rank/CompensatedSum -/
def k2 : Class := { plain "com/example/link_importance/linkimportance/rank/CompensatedSum" (some 0) with
  accessFlags := 48
  interfaces := #[]
  cf := some (fileOf pool2 8 #[] #[{ accessFlags := 0, nameIndex := 5, descriptorIndex := 6, attributes := #[] }, { accessFlags := 0, nameIndex := 18, descriptorIndex := 19, attributes := #[] }, { accessFlags := 0, nameIndex := 20, descriptorIndex := 21, attributes := #[] }] 48 2 #[] #[{ accessFlags := 2, nameIndex := 15, descriptorIndex := 12, attributes := #[] }, { accessFlags := 2, nameIndex := 11, descriptorIndex := 12, attributes := #[] }])
  fields := #[{ name := "sum", type := .double, accessFlags := 2, slot := 0, constantValue := 0 }, { name := "lost", type := .double, accessFlags := 2, slot := 1, constantValue := 0 }]
  methods := #[k2m0, k2m1, k2m2]
  instanceTypes := #[.double, .double]
  staticTypes := #[]
  resolved := Array.replicate 24 none
  statics := none }

def pool3 : Array CpInfo := pool [(1, u "java/lang/Cloneable"), (0, .class_ 1), (0, u "java/lang/Object"), (0, .class_ 3)] 3

/-- java/lang/Cloneable -/
def k3 : Class := { plain "java/lang/Cloneable" (some 0) with
  accessFlags := 1537
  interfaces := #[]
  cf := some (fileOf pool3 2 #[] #[] 1537 4 #[] #[])
  fields := #[]
  methods := #[]
  instanceTypes := #[]
  staticTypes := #[]
  resolved := Array.replicate 8 none
  statics := none }

def pool4 : Array CpInfo := pool [(1, u "java/io/Serializable"), (0, .class_ 1), (0, u "java/lang/Object"), (0, .class_ 3)] 3

/-- java/io/Serializable -/
def k4 : Class := { plain "java/io/Serializable" (some 0) with
  accessFlags := 1537
  interfaces := #[]
  cf := some (fileOf pool4 2 #[] #[] 1537 4 #[] #[])
  fields := #[]
  methods := #[]
  instanceTypes := #[]
  staticTypes := #[]
  resolved := Array.replicate 8 none
  statics := none }

/-- the primitive byte -/
def k5 : Class := { plain "byte" none with kind := .primitive 'B', accessFlags := 0x411 }
/-- [B -/
def k6 : Class := { plain "[B" (some 0) with kind := .array 5 .byte, interfaces := #[3, 4], accessFlags := 1041 }

/-- the primitive int -/
def k7 : Class := { plain "int" none with kind := .primitive 'I', accessFlags := 0x411 }
/-- [I -/
def k8 : Class := { plain "[I" (some 0) with kind := .array 7 .int, interfaces := #[3, 4], accessFlags := 1041 }

def heap : Heap := #[]
def classes : Array Class := #[k0, k1, k2, k3, k4, k5, k6, k7, k8]
def interned : List (Array UInt16 × Addr) := []
def slotsUsed : Nat := 0
def theMethod : MethodId := ⟨1, 1⟩
def args0 : Array Value := #[.int 500, .int 7, .int 3, .int 2]
def aboutOver (below : List Frame) : State where
  vm := { classes := classes, interned := interned.toArray }
  heap := heap
  slotsUsed := slotsUsed
  threads := #[{ frames := .invoking theMethod args0 :: below }]
def below0 : List Frame := [.native { method := ⟨0, 0⟩, args := #[] }]
def about1 : State := aboutOver below0
def p0 : Program := .bare "" "" ""
def e0 : Env := launch0.env 0 0 0
theorem w_frames : about1.frames = Frame.invoking theMethod args0 :: below0 := rfl
set_option maxRecDepth 65536 in
theorem w_args : argsFit about1.vm theMethod args0 = true := by decide +kernel
set_option maxRecDepth 65536 in
theorem w_heap : heapFits about1 = true := by decide +kernel
set_option maxRecDepth 65536 in
theorem w_runnable : about1.curStatus? = some .runnable := by decide +kernel
set_option maxRecDepth 65536 in
theorem w_alone : about1.alone = true := by decide +kernel
set_option maxRecDepth 65536 in
theorem w_named : about1.methodNamed? x = some theMethod := by decide +kernel
set_option maxRecDepth 65536 in
theorem w_hears : about1.hears theMethod below0 = true := by decide +kernel
set_option maxRecDepth 65536 in
theorem w_ripe : about1.ripe theMethod args0 below0 = true := by decide +kernel
theorem w_running : about1.status = .running := rfl
set_option maxRecDepth 65536 in
theorem w_room : about1.hasRoom e0.platform room_1 = true :=
  launch0.hasRoom_least _ room_1 (by decide +kernel) (by decide +kernel) (by decide +kernel) (by decide +kernel) (by decide +kernel) (by decide +kernel)
theorem allAtoms_all (ts : List Jvm.Cond) (a : Array Jvm.Value) (st : Jvm.State) : (allAtoms ts).before a st = ts.all (fun c => c.before a st) := by
  induction ts with
  | nil => rfl
  | cons c t ih =>
    show (Jvm.Cond.and c (allAtoms t)).before a st = _
    rw [Jvm.Cond.before_and, ih, List.all_cons]
def words1 : List Jvm.Cond := Jvm.Cond.code x code maxLocals ret :: tables_1
/-- a 'code' word, met by the world's own term for the bytes: nothing is compared byte by byte -/
theorem code_word {y : MethodName} {bytes : ByteArray} {mx : Nat} {rt : Option FieldType} {a : Array Value} {s : State} {m : MethodId} {meth : Method} {c : Code} (h1 : s.methodNamed? y = some m) (h2 : s.vm.method? m = some meth) (h3 : meth.code = some c) (h4 : c.code = bytes)
    (h5 : (c.maxLocals == mx && c.exceptionTable.isEmpty && decide (c.maxStack ≤ mostOperands) && decide (meth.sig.returnType = rt) && !meth.locks && decide (parseMethodDescriptor y.desc = some meth.sig)) = true) : (Jvm.Cond.code y bytes mx rt).before a s = true := by
  simp only [Bool.and_eq_true, beq_iff_eq, Bool.not_eq_true', decide_eq_true_eq] at h5
  obtain ⟨⟨⟨⟨⟨g1, g2⟩, g3⟩, g4⟩, g5⟩, g6⟩ := h5
  simp [Cond.before, Cond.holds, Cond.value, h1, h2, h3, h4, g1, g2, g3, g4, g5, g6]
def isCode : Jvm.Cond → Bool
  | .code _ _ _ _ => true
  | _ => false
theorem all_split {L : List Jvm.Cond} {P : Jvm.Cond → Bool} (h1 : L.all (fun c => isCode c || P c) = true) (h2 : ∀ c ∈ L.filter isCode, P c = true) : L.all P = true := by
  refine List.all_eq_true.mpr fun c hc => ?_
  have h := List.all_eq_true.mp h1 c hc
  rcases Bool.eq_false_or_eq_true (isCode c) with hi | hi
  · exact h2 c (List.mem_filter.mpr ⟨hc, hi⟩)
  · simpa [hi] using h
set_option maxRecDepth 65536 in
theorem w_c0 : (Jvm.Cond.code x code maxLocals ret).before args0 about1 = true := code_word (m := ⟨1, 1⟩) (meth := k1m1) (c := k1c1) (by decide +kernel) rfl rfl rfl (by decide +kernel)
set_option maxRecDepth 65536 in
theorem w_c1 : (Jvm.Cond.code ({ cls := "com/example/link_importance/linkimportance/rank/CompensatedSum", name := "<init>", desc := "()V" } : Jvm.MethodName) prog_37_method_1_code (1 : Nat) (Option.none : Option Jvm.ClassFile.FieldType)).before args0 about1 = true := code_word (m := ⟨2, 0⟩) (meth := k2m0) (c := k2c0) (by decide +kernel) rfl rfl rfl (by decide +kernel)
set_option maxRecDepth 65536 in
theorem w_c2 : (Jvm.Cond.code ({ cls := "java/lang/Object", name := "<init>", desc := "()V" } : Jvm.MethodName) object_method_1_code (1 : Nat) (Option.none : Option Jvm.ClassFile.FieldType)).before args0 about1 = true := code_word (m := ⟨0, 0⟩) (meth := k0m0) (c := k0c0) (by decide +kernel) rfl rfl rfl (by decide +kernel)
set_option maxRecDepth 65536 in
theorem w_c3 : (Jvm.Cond.code ({ cls := "com/example/link_importance/linkimportance/rank/CompensatedSum", name := "add", desc := "(D)V" } : Jvm.MethodName) prog_37_method_2_code (7 : Nat) (Option.none : Option Jvm.ClassFile.FieldType)).before args0 about1 = true := code_word (m := ⟨2, 1⟩) (meth := k2m1) (c := k2c1) (by decide +kernel) rfl rfl rfl (by decide +kernel)
set_option maxRecDepth 65536 in
theorem w_c4 : (Jvm.Cond.code ({ cls := "com/example/link_importance/linkimportance/rank/CompensatedSum", name := "value", desc := "()D" } : Jvm.MethodName) prog_37_method_3_code (1 : Nat) (Option.some Jvm.ClassFile.FieldType.double)).before args0 about1 = true := code_word (m := ⟨2, 2⟩) (meth := k2m2) (c := k2c2) (by decide +kernel) rfl rfl rfl (by decide +kernel)
def codes1 : List Jvm.Cond := [Jvm.Cond.code x code maxLocals ret, Jvm.Cond.code ({ cls := "com/example/link_importance/linkimportance/rank/CompensatedSum", name := "<init>", desc := "()V" } : Jvm.MethodName) prog_37_method_1_code (1 : Nat) (Option.none : Option Jvm.ClassFile.FieldType), Jvm.Cond.code ({ cls := "java/lang/Object", name := "<init>", desc := "()V" } : Jvm.MethodName) object_method_1_code (1 : Nat) (Option.none : Option Jvm.ClassFile.FieldType), Jvm.Cond.code ({ cls := "com/example/link_importance/linkimportance/rank/CompensatedSum", name := "add", desc := "(D)V" } : Jvm.MethodName) prog_37_method_2_code (7 : Nat) (Option.none : Option Jvm.ClassFile.FieldType), Jvm.Cond.code ({ cls := "com/example/link_importance/linkimportance/rank/CompensatedSum", name := "value", desc := "()D" } : Jvm.MethodName) prog_37_method_3_code (1 : Nat) (Option.some Jvm.ClassFile.FieldType.double)]
set_option maxRecDepth 65536 in
theorem codes_eq : words1.filter isCode = codes1 := rfl
theorem w_codes : ∀ c ∈ words1.filter isCode, c.before args0 about1 = true := by
  rw [codes_eq]
  intro c hc
  simp only [codes1, List.mem_cons, List.not_mem_nil, or_false] at hc
  rcases hc with rfl | rfl | rfl | rfl | rfl
  · exact w_c0
  · exact w_c1
  · exact w_c2
  · exact w_c3
  · exact w_c4
set_option maxRecDepth 65536 in
theorem w_t1 : (words1.take 24).all (fun c => isCode c || c.before args0 about1) = true := by decide +kernel
set_option maxRecDepth 65536 in
theorem w_t2 : (words1.drop 24).all (fun c => isCode c || c.before args0 about1) = true := by decide +kernel
theorem w_tables : (allAtoms (Jvm.Cond.code x code maxLocals ret :: tables_1)).before args0 about1 = true := by
  rw [allAtoms_all]
  show words1.all (fun c => c.before args0 about1) = true
  refine all_split ?_ w_codes
  rw [← List.take_append_drop 24 words1, List.all_append, w_t1, w_t2]
  rfl
set_option maxRecDepth 65536 in
theorem w_case : (Jvm.Cond.and given_1 narrow_1).before args0 about1 = true := by decide +kernel
theorem w_applies : (headSpec (Jvm.Cond.code x code maxLocals ret :: tables_1) room_1).applies x e0.platform about1 = true :=
  (Spec.applies_iff w_frames).mpr ⟨w_running, w_runnable, w_alone, w_named, w_hears, w_ripe, w_room, w_tables⟩
theorem atStart : AtStart classFile x code maxLocals ret World_1 tables_1 room_1 Calls_1 rest_1 Pre_1 launch0 p0 e0 about1 theMethod args0 below0 :=
  ⟨lists_1, trivial, launch0.admits_env _ _ _, launch0.least_env, fairChoices_fair.cas, fairChoices_fair.clock, w_frames, w_args, w_heap, w_applies, trivial, trivial, w_case⟩
end start1
theorem witness_1 : WitnessClaimed_1 := ⟨start1.p0, start1.e0, start1.about1, start1.theMethod, start1.args0, start1.below0, start1.atStart⟩
end Jvm.Pilot.@@N@@
