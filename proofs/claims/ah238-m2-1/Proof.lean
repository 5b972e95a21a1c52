import JvmDerived
import JvmDerived.Pilot.@@N@@Statement
import JvmDerived.Pilot.@@N@@Code
set_option linter.unusedVariables false
set_option linter.unusedSimpArgs false
namespace Jvm.RoadKit
open Sem ClassFile Op Lib Jvm.Stand Jvm.Free Jvm.LawKit
section Own
variable {p : Program} {l : Launch} {e : Env} {R : Room} {s : State} {m : MethodId} {args : Array Value} {below : List Frame} {meth : Method} {c : Code} {T : State} {locs : List Loc} {cells slots : Nat} {Z : State} {h : Heap} {a : Addr} {k : ClassId} {n j : Int32} {vs : List Value} {dv : Value} {ty : FieldType}
theorem own_retI (X : Stand p l e R s m args below meth c T locs cells slots) (hx : p.tables.exec = Jvm.exec) {pc : Nat} {Ls : Array Slot} {z : Int32} {rest : List Value} (hret : meth.sig.returnType = some .int) (hd : decode c.code pc = .ok (.ireturn, 1)) {fs : List Frame}
    (hl : ∀ (f : JFrame) (acts : List Action), f.method = m → f.locked = none → f.entered = [] → (doReturn e (T.setTop f) acts (some (.int z))).1 = T.setFrames fs) : Steps p.tables e below (T.setTop (mkF m pc Ls (.int z :: rest))) (T.setFrames fs) :=
  retOut X hx hret rfl (Or.inl ⟨rfl, Or.inl rfl, _, rfl⟩) hd hl
/-- the run from st ends as the contract says -/
def own_Ends (p : Program) (e : Env) (below : List Frame) (s : State) (C S : Nat) (Q : Option Value → Heap → List Loc → Prop) (st : State) : Prop :=
  ∃ s₂ o, Steps p.tables e below st s₂ ∧ s₂.status = .running ∧ Ended s₂ below o ∧ ∃ v L, o = .returned v ∧ Q v s₂.heap L ∧ FrameEnd s o s₂ L C S
theorem own_step {C S : Nat} {Q : Option Value → Heap → List Loc → Prop} {st st' : State} (f : ∀ t, Steps p.tables e below st' t → Steps p.tables e below st t) (h : own_Ends p e below s C S Q st') : own_Ends p e below s C S Q st := by
  obtain ⟨s2, o, h1, h2⟩ := h
  exact ⟨s2, o, f _ h1, h2⟩
theorem own_sstep {st st' t : State} (f : ∀ t, Steps p.tables e below st' t → Steps p.tables e below st t) (h : Steps p.tables e below st' t) : Steps p.tables e below st t := f _ h
theorem own_ret (X : Stand p l e R s m args below meth c T locs cells slots) (hlocks : meth.locks = false) {C S : Nat} {Q : Option Value → Heap → List Loc → Prop} {g : JFrame} (v : Option Value) (hv : meth.sig.returnType = none → v = none)
    (st : ∀ fs, (∀ (f : JFrame) (acts : List Action), f.method = m → f.locked = none → f.entered = [] → (doReturn e (T.setTop f) acts v).1 = T.setFrames fs) → Steps p.tables e below (T.setTop g) (T.setFrames fs))
    (hQ : Q v T.heap locs) (hc : cells ≤ C) (hs : slots ≤ S) : own_Ends p e below s C S Q (T.setTop g) := by
  obtain ⟨fs, hr, hrun, hended, hW, hsame⟩ := X.leave (v := v) hv
  exact ⟨_, _, st fs hr, hrun, hended, _, _, rfl, hQ, ⟨_, rfl⟩, hW, hsame.mono hc hs⟩
theorem own_b1 {P : Prop} [Decidable P] (hp : P) : ¬ ((if P then (1 : Int32) else (0 : Int32)) = 0) := by rw [if_pos hp]; decide
theorem own_b1n {P : Prop} [Decidable P] (hp : ¬ P) : ¬ ((if P then (0 : Int32) else (1 : Int32)) = 0) := by rw [if_neg hp]; decide
theorem own_nar01 {P : Prop} [Decidable P] : nar .boolean (if P then (0 : Int32) else (1 : Int32)) = if P then (0 : Int32) else (1 : Int32) := by split <;> rfl
theorem own_nar10 {P : Prop} [Decidable P] : nar .boolean (if P then (1 : Int32) else (0 : Int32)) = if P then (1 : Int32) else (0 : Int32) := by split <;> rfl
theorem own_lrem {tb : Tables} [Ours tb] {target : State} {g : JFrame} (ha : At T m c below) (hx : tb.exec = Jvm.exec) (hg : g.method = m) {x y : Int64} {rest : List Value} (hd : decode c.code g.pc = .ok (.lrem, 1)) (hs : g.stack = .long y :: .long x :: rest) (hy : y ≠ 0) (hr : Steps tb e below (T.setTop { g with pc := g.pc + 1, stack := .long (x % y) :: rest }) target) : Steps tb e below (T.setTop g) target :=
  XS.lrem ha hx hg hd hs hy (by rw [lrem_mod]; exact hr)
theorem own_len (X : Stand p l e R s m args below meth c T locs cells slots) (hx : p.tables.exec = Jvm.exec) (hZ : Z.Warmed39 s.vm) (eT : T.heap = h) (A : Arv Z h a k ty n vs dv) {g : JFrame} (hg : g.method = m) {rest : List Value} (hs : g.stack = .ref a :: rest) (hd : decode c.code g.pc = .ok (.arraylength, 1)) :
    ∀ target, Steps p.tables e below (T.setTop { g with pc := g.pc + 1, stack := .int n :: rest }) target → Steps p.tables e below (T.setTop g) target := by
  obtain ⟨cl, Ar, -, S, N, -, -⟩ := A
  intro t k
  refine X.arraylength hx (by rw [eT]; exact Ar.1) (State.isArrayOf_alike hZ.alike Ar.2.1) hg hs hd t ?_
  rw [len_of S N]; exact k
theorem own_ldI (X : Stand p l e R s m args below meth c T locs cells slots) (hx : p.tables.exec = Jvm.exec) (hZ : Z.Warmed39 s.vm) (eT : T.heap = h) (A : Arv Z h a k .int n vs dv) {j : Int32} {v : Value} (hj : ¬ j < 0 ∧ j < n) (hv : vs.getD j.toNatClampNeg dv = v) {g : JFrame} (hg : g.method = m) {rest : List Value} (hs : g.stack = .int j :: .ref a :: rest) (hd : decode c.code g.pc = .ok (.iaload, 1)) :
    ∀ target, Steps p.tables e below (T.setTop { g with pc := g.pc + 1, stack := v :: rest }) target → Steps p.tables e below (T.setTop g) target := by
  obtain ⟨cl, Ar, -, S, N, H, -⟩ := A
  intro t k
  exact X.iaload hx (by rw [eT]; exact Ar.1) (State.isArrayOf_alike hZ.alike Ar.2.1) Ar.2.2 (inb_of S hj) (H.at (inb_of S hj) hv) hg hs hd t k
theorem own_ldJ (X : Stand p l e R s m args below meth c T locs cells slots) (hx : p.tables.exec = Jvm.exec) (hZ : Z.Warmed39 s.vm) (eT : T.heap = h) (A : Arv Z h a k .long n vs dv) {j : Int32} {v : Value} (hj : ¬ j < 0 ∧ j < n) (hv : vs.getD j.toNatClampNeg dv = v) {g : JFrame} (hg : g.method = m) {rest : List Value} (hs : g.stack = .int j :: .ref a :: rest) (hd : decode c.code g.pc = .ok (.laload, 1)) :
    ∀ target, Steps p.tables e below (T.setTop { g with pc := g.pc + 1, stack := v :: rest }) target → Steps p.tables e below (T.setTop g) target := by
  obtain ⟨cl, Ar, -, S, N, H, -⟩ := A
  intro t k
  exact X.laload hx (by rw [eT]; exact Ar.1) (State.isArrayOf_alike hZ.alike Ar.2.1) Ar.2.2 (inb_of S hj) (H.at (inb_of S hj) hv) hg hs hd t k
theorem own_ldC (X : Stand p l e R s m args below meth c T locs cells slots) (hx : p.tables.exec = Jvm.exec) (hZ : Z.Warmed39 s.vm) (eT : T.heap = h) (A : Arv Z h a k .char n vs dv) {j : Int32} {v : Value} (hj : ¬ j < 0 ∧ j < n) (hv : vs.getD j.toNatClampNeg dv = v) {g : JFrame} (hg : g.method = m) {rest : List Value} (hs : g.stack = .int j :: .ref a :: rest) (hd : decode c.code g.pc = .ok (.caload, 1)) :
    ∀ target, Steps p.tables e below (T.setTop { g with pc := g.pc + 1, stack := v :: rest }) target → Steps p.tables e below (T.setTop g) target := by
  obtain ⟨cl, Ar, -, S, N, H, -⟩ := A
  intro t k
  exact X.caload hx (by rw [eT]; exact Ar.1) (State.isArrayOf_alike hZ.alike Ar.2.1) Ar.2.2 (inb_of S hj) (H.at (inb_of S hj) hv) hg hs hd t k
theorem own_ldB (X : Stand p l e R s m args below meth c T locs cells slots) (hx : p.tables.exec = Jvm.exec) (hZ : Z.Warmed39 s.vm) (eT : T.heap = h) (A : Arv Z h a k .byte n vs dv) {j : Int32} {v : Value} (hj : ¬ j < 0 ∧ j < n) (hv : vs.getD j.toNatClampNeg dv = v) {g : JFrame} (hg : g.method = m) {rest : List Value} (hs : g.stack = .int j :: .ref a :: rest) (hd : decode c.code g.pc = .ok (.baload, 1)) :
    ∀ target, Steps p.tables e below (T.setTop { g with pc := g.pc + 1, stack := v :: rest }) target → Steps p.tables e below (T.setTop g) target := by
  obtain ⟨cl, Ar, -, S, N, H, -⟩ := A
  intro t k
  exact X.baloadBytes hx (by rw [eT]; exact Ar.1) (State.isArrayOf_alike hZ.alike Ar.2.1) Ar.2.2 (inb_of S hj) (H.at (inb_of S hj) hv) hg hs hd t k
theorem own_stI (X : Stand p l e R s m args below meth c T locs cells slots) (hx : p.tables.exec = Jvm.exec) (hZ : Z.Warmed39 s.vm) (eT : T.heap = h) (A : Arv Z h a k .int n vs dv) {j x : Int32} {i : Nat} (hj : ¬ j < 0 ∧ j < n) (hi : j.toNatClampNeg = i) (hl : i < vs.length) {g : JFrame} (hg : g.method = m) {rest : List Value} (hs : g.stack = .int x :: .int j :: .ref a :: rest) (hd : decode c.code g.pc = .ok (.iastore, 1)) :
    ∃ T' h', Stand p l e R s m args below meth c T' (locs ++ [⟨a, j.toNatClampNeg⟩]) cells slots ∧ T'.heap = h' ∧ Wr h h' a j.toNatClampNeg (.int x) ∧ Arv Z h' a k .int n (vs.set i (.int x)) dv ∧ ∀ target, Steps p.tables e below (T'.setTop { g with pc := g.pc + 1, stack := rest }) target → Steps p.tables e below (T.setTop g) target := by
  obtain ⟨cl, Ar, q, S, N, H, G⟩ := A
  obtain ⟨T', h', X', e', W, st⟩ := stI X hx hZ eT Ar (inb_of S hj) hg hs hd
  exact ⟨T', h', X', e', W, Arv.set Ar q S N H G rfl W i hi hl, st⟩
theorem own_stJ (X : Stand p l e R s m args below meth c T locs cells slots) (hx : p.tables.exec = Jvm.exec) (hZ : Z.Warmed39 s.vm) (eT : T.heap = h) (A : Arv Z h a k .long n vs dv) {j : Int32} {x : Int64} {i : Nat} (hj : ¬ j < 0 ∧ j < n) (hi : j.toNatClampNeg = i) (hl : i < vs.length) {g : JFrame} (hg : g.method = m) {rest : List Value} (hs : g.stack = .long x :: .int j :: .ref a :: rest) (hd : decode c.code g.pc = .ok (.lastore, 1)) :
    ∃ T' h', Stand p l e R s m args below meth c T' (locs ++ [⟨a, j.toNatClampNeg⟩]) cells slots ∧ T'.heap = h' ∧ Wr h h' a j.toNatClampNeg (.long x) ∧ Arv Z h' a k .long n (vs.set i (.long x)) dv ∧ ∀ target, Steps p.tables e below (T'.setTop { g with pc := g.pc + 1, stack := rest }) target → Steps p.tables e below (T.setTop g) target := by
  obtain ⟨cl, Ar, q, S, N, H, G⟩ := A
  obtain ⟨T', h', X', e', W, st⟩ := stJ X hx hZ eT Ar (inb_of S hj) hg hs hd
  exact ⟨T', h', X', e', W, Arv.set Ar q S N H G rfl W i hi hl, st⟩
theorem own_stB (X : Stand p l e R s m args below meth c T locs cells slots) (hx : p.tables.exec = Jvm.exec) (hZ : Z.Warmed39 s.vm) (eT : T.heap = h) (A : Arv Z h a k .byte n vs dv) {j x : Int32} {i : Nat} (hj : ¬ j < 0 ∧ j < n) (hi : j.toNatClampNeg = i) (hl : i < vs.length) {g : JFrame} (hg : g.method = m) {rest : List Value} (hs : g.stack = .int x :: .int j :: .ref a :: rest) (hd : decode c.code g.pc = .ok (.bastore, 1)) :
    ∃ T' h', Stand p l e R s m args below meth c T' (locs ++ [⟨a, j.toNatClampNeg⟩]) cells slots ∧ T'.heap = h' ∧ Wr h h' a j.toNatClampNeg (.int x.toInt8.toInt32) ∧ Arv Z h' a k .byte n (vs.set i (.int x.toInt8.toInt32)) dv ∧ ∀ target, Steps p.tables e below (T'.setTop { g with pc := g.pc + 1, stack := rest }) target → Steps p.tables e below (T.setTop g) target := by
  obtain ⟨cl, Ar, q, S, N, H, G⟩ := A
  obtain ⟨T', h', X', e', W, st⟩ := stB X hx hZ eT Ar (inb_of S hj) hg hs hd
  exact ⟨T', h', X', e', W, Arv.set Ar q S N H G (fits_nar_byte x) W i hi hl, st⟩
theorem own_stC (X : Stand p l e R s m args below meth c T locs cells slots) (hx : p.tables.exec = Jvm.exec) (hZ : Z.Warmed39 s.vm) (eT : T.heap = h) (A : Arv Z h a k .char n vs dv) {j x : Int32} {i : Nat} (hj : ¬ j < 0 ∧ j < n) (hi : j.toNatClampNeg = i) (hl : i < vs.length) {g : JFrame} (hg : g.method = m) {rest : List Value} (hs : g.stack = .int x :: .int j :: .ref a :: rest) (hd : decode c.code g.pc = .ok (.castore, 1)) :
    ∃ T' h', Stand p l e R s m args below meth c T' (locs ++ [⟨a, j.toNatClampNeg⟩]) cells slots ∧ T'.heap = h' ∧ Wr h h' a j.toNatClampNeg (.int x.toUInt32.toUInt16.toUInt32.toInt32) ∧ Arv Z h' a k .char n (vs.set i (.int x.toUInt32.toUInt16.toUInt32.toInt32)) dv ∧ ∀ target, Steps p.tables e below (T'.setTop { g with pc := g.pc + 1, stack := rest }) target → Steps p.tables e below (T.setTop g) target := by
  obtain ⟨cl, Ar, q, S, N, H, G⟩ := A
  obtain ⟨T', h', X', e', W, st⟩ := stC X hx hZ eT Ar (inb_of S hj) hg hs hd
  exact ⟨T', h', X', e', W, Arv.set Ar q S N H G (fits_nar_char x) W i hi hl, st⟩
theorem own_eqI {t : Term} {q : Int32} (hq : (Jvm.Cond.eq t (.int q)).value args s none s [] = some true) : t.eval args s none [] s = some (.int q) := by
  obtain ⟨x, y, ha, hb, k1, k2⟩ := cmp_v (Or.inl hq)
  rw [Term.int_eval] at hb
  cases hb
  obtain ⟨z, rfl⟩ := k2
  simp [Cond.value, ha, Term.eval] at hq
  rw [ha, hq]
theorem own_eqR {t u : Term} {b : Addr} (hq : (Jvm.Cond.eq t u).value args s none s [] = some true) (hu : u.eval args s none [] s = some (.ref b)) : t.eval args s none [] s = some (.ref b) := by
  obtain ⟨x, y, ha, hb, k1, k2⟩ := cmp_v (Or.inl hq)
  cases hu.symm.trans hb
  have q := gotT (eq_R ha hb k2.2 rfl) hq
  rw [ha, q]
theorem own_lenA {t : Term} {cl : Cell} {q : Int32} (ht : t.eval args s none [] s = some (.ref a)) (A : Arr s s.heap a cl ty) (hq : (Term.length t).eval args s none [] s = some (.int q)) : cl.slots.size < 2 ^ 31 ∧ cl.slots.size.toInt32 = q := by
  have ha := Arr.fin (U := s) (Vm.Alike.refl _) A
  by_cases hl : cl.slots.size < 2 ^ 31
  · rw [len_f ht ha hl] at hq
    exact ⟨hl, Value.int.inj (Option.some.inj hq)⟩
  · simp [Term.eval, ht, ha, hl] at hq
theorem own_ldR (X : Stand p l e R s m args below meth c T locs cells slots) (hx : p.tables.exec = Jvm.exec) (hZ : Z.Warmed39 s.vm) (eT : T.heap = h) (A : Arv Z h a k ty n vs dv) (hr : ty.isReference = true) {j : Int32} {v : Value} (hj : ¬ j < 0 ∧ j < n) (hv : vs.getD j.toNatClampNeg dv = v) {g : JFrame} (hg : g.method = m) {rest : List Value} (hs : g.stack = .int j :: .ref a :: rest) (hd : decode c.code g.pc = .ok (.aaload, 1)) :
    ∀ target, Steps p.tables e below (T.setTop { g with pc := g.pc + 1, stack := v :: rest }) target → Steps p.tables e below (T.setTop g) target := by
  obtain ⟨cl, Ar, -, S, N, H, -⟩ := A
  intro t k
  exact X.aaload hx (by rw [eT]; exact Ar.1) (State.isArrayOf_alike hZ.alike Ar.2.1) hr Ar.2.2 (inb_of S hj) (H.at (inb_of S hj) hv) hg hs hd t k
theorem own_nf {y y' : MethodName} (hc : y'.cls = y.cls) (w : (Jvm.Cond.instanceMethod y).before args s = true) (hn : NotFace s y) : NotFace s y' := fun r0 h0 => by
  obtain ⟨mk, methM, hnamed, -⟩ := Cond.instanceMethod_spec w
  obtain ⟨kr, h1, h2⟩ := hn mk hnamed
  have q1 := findClass_of_methodNamed hnamed
  have q2 := findClass_of_methodNamed h0
  rw [hc] at q2
  have q3 : mk.cls = r0.cls := Option.some.inj (q1.symm.trans q2)
  exact ⟨kr, q3 ▸ h1, h2⟩
theorem own_selp {y : MethodName} (w : (Jvm.Cond.instanceMethod y).before args s = true) (hn : NotFace s y) (hp : s.PrivateAt y) (hy : y.cls ≠ "java/lang/invoke/MethodHandle" ∧ y.cls ≠ "java/lang/invoke/VarHandle") : (Jvm.Cond.selects y.cls y y).before args s = true := by
  obtain ⟨mk, methM, hnamed, -⟩ := Cond.instanceMethod_spec w
  obtain ⟨kr, h1, h2⟩ := hn mk hnamed
  exact selects_self_of_private (findClass_of_methodNamed hnamed) h1 h2 hp w hy
theorem own_same {y : MethodName} (w : (Jvm.Cond.instanceMethod y).before args s = true) (hn : NotFace s y) (hy : y.cls ≠ "java/lang/invoke/MethodHandle" ∧ y.cls ≠ "java/lang/invoke/VarHandle") : (Jvm.Cond.sameMethod y.cls y.cls y.name y.desc).before args s = true := by
  obtain ⟨mk, methM, hnamed, -⟩ := Cond.instanceMethod_spec w
  obtain ⟨kr, h1, h2⟩ := hn mk hnamed
  have q1 := findClass_of_methodNamed hnamed
  have q2 := State.methodFound?_of_named hnamed hy
  have q3 : s.methodNamed? ⟨y.cls, y.name, y.desc⟩ = some mk := hnamed
  simp [Cond.before, Cond.holds, Cond.value, q1, q2, q3, h1, h2]
theorem own_stR (X : Stand p l e R s m args below meth c T locs cells slots) (hx : p.tables.exec = Jvm.exec) (hZ : Z.Warmed39 s.vm) (eT : T.heap = h) (A : Arv Z h a k ty n vs dv) (hr : ty.isReference = true) {j : Int32} {v : Value} {i : Nat} (F : Sto Z h a v) (hf : fits ty v = true) (hj : ¬ j < 0 ∧ j < n) (hi : j.toNatClampNeg = i) (hl : i < vs.length) {g : JFrame} (hg : g.method = m) {rest : List Value} (hs : g.stack = v :: .int j :: .ref a :: rest) (hd : decode c.code g.pc = .ok (.aastore, 1)) :
    ∃ T' h', Stand p l e R s m args below meth c T' (locs ++ [⟨a, j.toNatClampNeg⟩]) cells slots ∧ T'.heap = h' ∧ Wr h h' a j.toNatClampNeg v ∧ Arv Z h' a k ty n (vs.set i v) dv ∧ ∀ target, Steps p.tables e below (T'.setTop { g with pc := g.pc + 1, stack := rest }) target → Steps p.tables e below (T.setTop g) target := by
  obtain ⟨cl, Ar, q, S, N, H, G⟩ := A
  obtain ⟨T', h', X', e', W, st⟩ := stR X hx hZ eT Ar (inb_of S hj) hr F hg hs hd
  exact ⟨T', h', X', e', W, Arv.set Ar q S N H G hf W i hi hl, st⟩
theorem own_stoA {y : Addr} {C : String} {t0 : FieldType} (A : Arv Z h a k t0 n vs dv) (O : OvrA Z k ty C) (I : Ins Z h y C true) : Sto Z h a (.ref y) := by
  obtain ⟨cl, Ar, q, -⟩ := A
  exact Sto.ofVA Ar q O I
theorem own_stoV {y : Addr} {C : String} {t0 : FieldType} (A : Arv Z h a k t0 n vs dv) (O : Ovr Z k C) (I : Ins Z h y C true) : Sto Z h a (.ref y) := by
  obtain ⟨cl, Ar, q, -⟩ := A
  exact Sto.ofV Ar q O I
theorem own_getD_cp (vs vd : List Value) (dv dd : Value) (sp dp nn i : Nat) : ((vd ++ List.replicate (dp + nn) dd).take dp ++ ((List.range nn).map fun i => vs.getD (sp + i) dv) ++ (vd ++ List.replicate (dp + nn) dd).drop (dp + nn)).getD i dd = if dp ≤ i ∧ i < dp + nn then vs.getD (sp + (i - dp)) dv else vd.getD i dd := by
  have hlen : dp ≤ (vd ++ List.replicate (dp + nn) dd).length := by simp; omega
  have hpad := pad_rep vd dd (dp + nn) i
  by_cases h1 : i < dp
  · rw [if_neg (by omega), ← hpad]
    have e1 : ((vd ++ List.replicate (dp + nn) dd).take dp).length = dp := by rw [List.length_take]; omega
    rw [List.getD_eq_getElem?_getD, List.append_assoc, List.getElem?_append_left (by rw [e1]; exact h1), List.getElem?_take, if_pos h1, List.getD_eq_getElem?_getD]
  · by_cases h2 : i < dp + nn
    · rw [if_pos ⟨by omega, h2⟩]
      have e1 : ((vd ++ List.replicate (dp + nn) dd).take dp).length = dp := by rw [List.length_take]; omega
      rw [List.getD_eq_getElem?_getD, List.append_assoc, List.getElem?_append_right (by rw [e1]; omega), e1, List.getElem?_append_left (by simp; omega)]
      simp [show i - dp < nn by omega]
    · rw [if_neg (by omega), ← hpad]
      have e1 : ((vd ++ List.replicate (dp + nn) dd).take dp).length = dp := by rw [List.length_take]; omega
      rw [List.getD_eq_getElem?_getD, List.getElem?_append_right (by rw [List.length_append, e1]; simp; omega), List.getElem?_drop, List.getD_eq_getElem?_getD]
      congr 2
      rw [List.length_append, e1]; simp; omega
theorem own_cp {b : Addr} {a0 : Array Value} (X : Stand p l e R s m args below meth c T locs cells slots) (hx : p.tables.exec = Jvm.exec) (hZ : Z.Warmed39 s.vm) {own : String} {index : Nat} (hown : s.vm.findClass own = some m.cls)
    (w1 : (Cond.methodLink own index Jvm.Stand.acN).before a0 Z = true) (w2 : (Cond.native Jvm.Stand.acN).before a0 Z = true) (w3 : (Cond.static Jvm.Stand.acN).before a0 Z = true) (w4 : (Cond.initialized "java/lang/System").before a0 Z = true) (eT : T.heap = h)
    {k' : ClassId} {z z' sp dp nn : Int32} {vd : List Value} {dd : Value} (A : Arv Z h a k ty z vs dv) (B : Arv Z h b k' ty z' vd dd) (hty : refKind ty = false)
    (h1 : 0 ≤ sp.toInt) (h2 : 0 ≤ dp.toInt) (h3 : 0 ≤ nn.toInt) (h4 : sp.toInt + nn.toInt ≤ z.toInt) (h5 : dp.toInt + nn.toInt ≤ z'.toInt) {n0 : Nat} (N : Fr n0 locs) (ge : n0 ≤ b)
    {g : JFrame} (hg : g.method = m) (hsize : g.locals.size = c.maxLocals) {rest : List Value} (hs : g.stack = .int nn :: .int dp :: .ref b :: .int sp :: .ref a :: rest) (hd : decode c.code g.pc = .ok (.invokestatic index, 3))
    (hf : 1 ≤ R.frames) {W : Nat} (hW : 2 * g.monitorRoom + (rest.map fun v => v.category).sum ≤ W) (hlo : W + 18 ≤ R.locals) :
    ∃ T' h' L vd', Stand p l e R s m args below meth c T' L cells slots ∧ T'.heap = h' ∧ Fr n0 L ∧ Keep h h' [b] ∧ Arv Z h' b k' ty z' vd' dd ∧ (∀ i : Nat, vd'.getD i dd = if dp.toNatClampNeg ≤ i ∧ i < dp.toNatClampNeg + nn.toNatClampNeg then vs.getD (sp.toNatClampNeg + (i - dp.toNatClampNeg)) dv else vd.getD i dd) ∧
      ∀ target, Steps p.tables e below (T'.setTop { g with pc := g.pc + 3, stack := rest }) target → Steps p.tables e below (T.setTop g) target := by
  have e0 : (0 : Int32).toInt = 0 := by decide
  have lt : ∀ {x : Int32}, 0 ≤ x.toInt → ¬ x < 0 := fun q => by rw [Int32.lt_iff_toInt_lt]; omega
  have nz : ¬ z < 0 := lt (by omega)
  have nz' : ¬ z' < 0 := lt (by omega)
  have c1 := nat_of (lt h1); have c2 := nat_of (lt h2); have c3 := nat_of (lt h3); have c4 := nat_of nz; have c5 := nat_of nz'
  obtain ⟨T', h', L, X', e', N', K', V', st⟩ := cpA X hx hZ hown w1 w2 w3 w4 eT A (B.pad (pad_rep vd dd (dp.toNatClampNeg + nn.toNatClampNeg))) (us := _) (Or.inl ⟨rfl, hty⟩) (lt h1) (lt h2) (lt h3) (by omega) (by omega) rfl (by simp) N ge hg hsize hs hd hf hW (by exact hlo)
  exact ⟨T', h', L, _, X', e', N', K', V', fun i => own_getD_cp vs vd dv dd _ _ _ i, st⟩
end Own
end Jvm.RoadKit

namespace Jvm.Pilot.@@N@@
open Jvm Jvm.ClassFile Sem Op Lib Jvm.Free Jvm.Stand Jvm.LawKit Jvm.RoadKit Bundle Jvm.Pilot.@@N@@.Jvm.D
theorem pd_0 : parseMethodDescriptor "(I)V" = some ⟨[.int], none⟩ := by decide +kernel
theorem pd_1 : parseMethodDescriptor "()V" = some ⟨[], none⟩ := by decide +kernel
theorem pd_2 : parseMethodDescriptor "([BII)V" = some ⟨[(.array .byte), .int, .int], none⟩ := by decide +kernel
theorem pd_3 : parseMethodDescriptor "(II)I" = some ⟨[.int, .int], some .int⟩ := by decide +kernel
theorem pd_4 : parseMethodDescriptor "(II)[B" = some ⟨[.int, .int], some (.array .byte)⟩ := by decide +kernel
theorem pd_5 : parseMethodDescriptor "(Ljava/lang/Object;ILjava/lang/Object;II)V" = some ⟨[(.object "java/lang/Object"), .int, (.object "java/lang/Object"), .int, .int], none⟩ := by decide +kernel
theorem pd_6 : parseMethodDescriptor "(I)I" = some ⟨[.int], some .int⟩ := by decide +kernel
theorem pd_7 : parseMethodDescriptor "([BI)[B" = some ⟨[(.array .byte), .int], some (.array .byte)⟩ := by decide +kernel

theorem own_ofNeg {x : Int32} (h : 0 ≤ x.toInt) : ¬ x < 0 := by
  rw [Int32.lt_iff_toInt_lt]
  have : (0 : Int32).toInt = 0 := by decide
  omega
theorem own_le {x : Int32} {k : Nat} (h : 0 ≤ x.toInt) (q : x.toInt ≤ (k : Int)) : x.toNatClampNeg ≤ k := by
  have := nat_of (own_ofNeg h)
  omega
theorem own_in {j n : Int32} (h : 0 ≤ j.toInt) (q : j.toInt < n.toInt) : ¬ j < 0 ∧ j < n := ⟨own_ofNeg h, by rw [Int32.lt_iff_toInt_lt]; exact q⟩
theorem own_sub {x y : Int32} (h : 0 ≤ x.toInt) (q : 0 ≤ y.toInt) : (x - y).toInt = x.toInt - y.toInt := by
  have a := c_isub x y
  have b := rng32 (x - y)
  have d := rng32 x
  have e := rng32 y
  omega
theorem own_add {x y : Int32} (h : 0 ≤ x.toInt ∧ x.toInt ≤ 1000000000) (q : 0 ≤ y.toInt ∧ y.toInt ≤ 1000000000) : (x + y).toInt = x.toInt + y.toInt := by
  have a := c_iadd x y
  have b := rng32 (x + y)
  omega
theorem own_off {S : Int64} (h : 0 ≤ S.toInt ∧ S.toInt ≤ 3069) : ((S &&& (65535 : Int64)).toInt32).toInt = S.toInt := by
  have a := c_maskL S 65535 16 (by decide) (by decide)
  have b := c_l2i (S &&& (65535 : Int64))
  have d := rng32 ((S &&& (65535 : Int64)).toInt32)
  omega
theorem own_chunk {S : Int64} (h : 0 ≤ S.toInt ∧ S.toInt ≤ 3069) : (((S.toUInt64 >>> ((16 : Int32) &&& 0x3f).toInt64.toUInt64).toInt64).toInt32) = (0 : Int32) := by
  apply Int32.toInt_inj.mp
  have a := c_lushr S 16 16 (by decide) (by decide)
  have b := c_l2i ((S.toUInt64 >>> ((16 : Int32) &&& 0x3f).toInt64.toUInt64).toInt64)
  have d := rng32 (((S.toUInt64 >>> ((16 : Int32) &&& 0x3f).toInt64.toUInt64).toInt64).toInt32)
  show _ = (0 : Int)
  omega
theorem own_cnt (S f l : Int32) : True := trivial
theorem own_bounds (a : Int32) : (0 ≤ (((a.toUInt32 >>> ((10 : Int32) &&& 31).toUInt32).toInt32) &&& (1023 : Int32)).toInt ∧ (((a.toUInt32 >>> ((10 : Int32) &&& 31).toUInt32).toInt32) &&& (1023 : Int32)).toInt ≤ 1023) ∧ 0 ≤ (a &&& (1023 : Int32)).toInt ∧ (a &&& (1023 : Int32)).toInt ≤ 1023 := by
  have h1 := c_mask a 1023 10 (by decide) (by decide)
  have h2 := c_mask ((a.toUInt32 >>> ((10 : Int32) &&& 31).toUInt32).toInt32) 1023 10 (by decide) (by decide)
  omega
theorem own_diff (S : Int64) (f l : Int32) : (((S + ((f + l) - f).toInt64) - S).toInt32) = l := by
  have e1 : (f + l) - f = l := by rw [Int32.add_comm]; exact Int32.add_sub_cancel l f
  have e2 : (S + l.toInt64) - S = l.toInt64 := by rw [Int64.add_comm]; exact Int64.add_sub_cancel _ _
  rw [e1, e2]; simp
theorem own_grow {S : Int64} {f l : Int32} {B : Int} (hB : 0 ≤ B ∧ B ≤ 100000) (h : 0 ≤ S.toInt ∧ S.toInt ≤ B) (hf : 0 ≤ f.toInt ∧ f.toInt ≤ 1023) (hl : 0 ≤ l.toInt ∧ l.toInt ≤ 1023) : 0 ≤ (S + ((f + l) - f).toInt64).toInt ∧ (S + ((f + l) - f).toInt64).toInt ≤ B + 1023 := by
  have e1 : (f + l) - f = l := by rw [Int32.add_comm]; exact Int32.add_sub_cancel l f
  rw [e1]
  have a := c_ladd S l.toInt64
  rw [c_i2l] at a
  have b := rng64 (S + l.toInt64)
  omega
theorem own_ext {x2 x3 : Int32} (h : 0 ≤ x2.toInt ∧ x2.toInt ≤ x3.toInt) (q : ¬ x2 < x3) (S : Int64) : S = S + (x3 - x2).toInt64 := by
  have e : x2 = x3 := by apply Int32.toInt_inj.mp; rw [Int32.lt_iff_toInt_lt] at q; omega
  subst e
  simp

theorem d1_0 : decode prog_23_method_1_code 0 = .ok (.aload_n 0, 1) := by decide +kernel
theorem d1_1 : decode prog_23_method_1_code 1 = .ok (.invokespecial 3, 3) := by decide +kernel
theorem d1_4 : decode prog_23_method_1_code 4 = .ok (.aload_n 0, 1) := by decide +kernel
theorem d1_5 : decode prog_23_method_1_code 5 = .ok (.iconst 1, 1) := by decide +kernel
theorem d1_6 : decode prog_23_method_1_code 6 = .ok (.anewarray 9, 3) := by decide +kernel
theorem d1_9 : decode prog_23_method_1_code 9 = .ok (.dup, 1) := by decide +kernel
theorem d1_10 : decode prog_23_method_1_code 10 = .ok (.iconst 0, 1) := by decide +kernel
theorem d1_11 : decode prog_23_method_1_code 11 = .ok (.sipush 256, 3) := by decide +kernel
theorem d1_14 : decode prog_23_method_1_code 14 = .ok (.newarray .byte, 2) := by decide +kernel
theorem d1_16 : decode prog_23_method_1_code 16 = .ok (.aastore, 1) := by decide +kernel
theorem d1_17 : decode prog_23_method_1_code 17 = .ok (.putfield 11, 3) := by decide +kernel
theorem d1_20 : decode prog_23_method_1_code 20 = .ok (.aload_n 0, 1) := by decide +kernel
theorem d1_21 : decode prog_23_method_1_code 21 = .ok (.bipush 16, 2) := by decide +kernel
theorem d1_23 : decode prog_23_method_1_code 23 = .ok (.newarray .long, 2) := by decide +kernel
theorem d1_25 : decode prog_23_method_1_code 25 = .ok (.putfield 15, 3) := by decide +kernel
theorem d1_28 : decode prog_23_method_1_code 28 = .ok (.aload_n 0, 1) := by decide +kernel
theorem d1_29 : decode prog_23_method_1_code 29 = .ok (.iload_n 1, 1) := by decide +kernel
theorem d1_30 : decode prog_23_method_1_code 30 = .ok (.putfield 19, 3) := by decide +kernel
theorem d1_33 : decode prog_23_method_1_code 33 = .ok (.return_, 1) := by decide +kernel
theorem pn_0 : plainName "com/example/link_importance/linkimportance/graph/NameList" = true := by first | (simp [plainName, overriddenIn]; done) | decide +kernel
theorem ef_1_RI (m : MethodId) (x0 : Addr) (x1 : Int32) : entryFrame m #[(.ref x0), (.int x1)] 2 = mkF m 0 #[.val (.ref x0), .val (.int x1)] [] := by first | (simp [entryFrame, mkF, argsToLocals, Value.category]; done) | rfl
def Q_rm1 (Z : State) (x0 : Addr) (x1 : Int32) (h0 : Heap) (n0 : Nat) (v : Option Value) (h : Heap) (L : List Loc) : Prop := ∃ ch : Addr, ∃ kc : ClassId, ∃ by_ : Addr, ∃ kb : ClassId, ∃ stt : Addr, ∃ ks : ClassId, v = none ∧ Fr n0 L ∧ Keep h0 h [x0] ∧ h0.size ≤ ch ∧ h0.size ≤ by_ ∧ h0.size ≤ stt ∧ ch ≠ by_ ∧ ch ≠ stt ∧ by_ ≠ stt ∧ OvrA Z kc .byte "[B" ∧ Fld Z h x0 "com/example/link_importance/linkimportance/graph/NameList" "chunks" "[[B" (.ref ch) ∧ Fld Z h x0 "com/example/link_importance/linkimportance/graph/NameList" "starts" "[J" (.ref stt) ∧ Fld Z h x0 "com/example/link_importance/linkimportance/graph/NameList" "maxNames" "I" (.int x1) ∧ Fld Z h x0 "com/example/link_importance/linkimportance/graph/NameList" "size" "I" (.int (0 : Int32)) ∧ Arv Z h ch kc (.array .byte) (1 : Int32) [(.ref by_)] .null ∧ Arv Z h by_ kb .byte (256 : Int32) [] (.int (0 : Int32)) ∧ Arv Z h stt ks .long (16 : Int32) [(.long (0 : Int64)), (.long (0 : Int64)), (.long (0 : Int64)), (.long (0 : Int64)), (.long (0 : Int64)), (.long (0 : Int64)), (.long (0 : Int64)), (.long (0 : Int64)), (.long (0 : Int64)), (.long (0 : Int64)), (.long (0 : Int64)), (.long (0 : Int64)), (.long (0 : Int64)), (.long (0 : Int64)), (.long (0 : Int64)), (.long (0 : Int64))] (.long (0 : Int64))
set_option maxRecDepth 65536 in
set_option maxHeartbeats 40000000 in
theorem rm1 (l : Launch) (Z : State) (a0 : Array Value) (hw : ∀ d ∈ tables_1, d.before a0 Z = true) (ws : List Jvm.Cond) (x0 : Addr) (x1 : Int32) (h0 : Heap) (n0 : Nat) (Z0 : n0 ≤ h0.size) (p_0 : Fld Z h0 x0 "com/example/link_importance/linkimportance/graph/NameList" "chunks" "[[B" .null) (p_1 : Fld Z h0 x0 "com/example/link_importance/linkimportance/graph/NameList" "starts" "[J" .null) (p_2 : Fld Z h0 x0 "com/example/link_importance/linkimportance/graph/NameList" "maxNames" "I" (.int (0 : Int32))) (p_3 : Fld Z h0 x0 "com/example/link_importance/linkimportance/graph/NameList" "size" "I" (.int (0 : Int32))) (p_4 : Exa Z h0 x0 "com/example/link_importance/linkimportance/graph/NameList") (p_5 : n0 ≤ x0) :
    MetFree l (⟨"com/example/link_importance/linkimportance/graph/NameList", "<init>", "(I)V"⟩ : MethodName) (head1 (Jvm.Cond.code (⟨"com/example/link_importance/linkimportance/graph/NameList", "<init>", "(I)V"⟩ : MethodName) prog_23_method_1_code 2 none :: ws) ({ frames := 1, cells := 3, slots := 273, locals := 12 } : Room)) (fun a U => a = #[(.ref x0), (.int x1)] ∧ Z.Warmed39 U.vm ∧ U.heap = h0) (fun _ _ _ _ _ => True) (fun _ U o U' => ∃ v L, o = .returned v ∧ Q_rm1 Z x0 x1 h0 n0 v U'.heap L ∧ FrameEnd U o U' L ({ frames := 1, cells := 3, slots := 273, locals := 12 } : Room).cells ({ frames := 1, cells := 3, slots := 273, locals := 12 } : Room).slots) := by
  refine MetFree.of_bodySF (plainFor_of_name pn_0) hisR ?_
  intro p e s m args below meth c s₁ Bd hml0 hP hK
  obtain ⟨rfl, hZ, hh⟩ := hP
  have hx := Bd.exec
  have hby := Bd.bytes
  have hml : c.maxLocals = 2 := hml0
  have hown : s.vm.findClass "com/example/link_importance/linkimportance/graph/NameList" = some m.cls := findClass_of_methodNamed Bd.named
  have hnm := (name_of_methodNamed Bd.named Bd.method).1
  have X0 : Stand p l e ({ frames := 1, cells := 3, slots := 273, locals := 12 } : Room) s m #[(.ref x0), (.int x1)] below meth c s₁ [] 0 0 := Stand.of_body Bd
  have e0 : s₁.heap = h0 := by rw [← hh, Bd.state]; rfl
  have N0 := Fr.nil n0
  show own_Ends p e below s ({ frames := 1, cells := 3, slots := 273, locals := 12 } : Room).cells ({ frames := 1, cells := 3, slots := 273, locals := 12 } : Room).slots (Q_rm1 Z x0 x1 h0 n0) (s₁.setTop (entryFrame m #[(.ref x0), (.int x1)] 2))
  rw [ef_1_RI]
  refine own_step (st' := s₁.setTop (mkF m 1 #[.val (.ref x0), .val (.int x1)] [(.ref x0)])) (fun t k => XS.aloadN X0.here hx rfl (hb hby d1_0) rfl rfl k) ?_
  obtain ⟨T1, X1, e1, st1⟩ := initO X0 hx hZ hown (hw _ (List.mem_of_getElem? (i := 7) rfl)) (hw _ (List.mem_of_getElem? (i := 8) rfl)) (hw _ (List.mem_of_getElem? (i := 9) rfl)) e0 (g := (mkF m 1 #[.val (.ref x0), .val (.int x1)] [(.ref x0)])) rfl (by rw [hml]; rfl) rfl (hb hby d1_1) (by decide) (W := 0) (by show 2 * 0 + _ ≤ _; exact Nat.le_of_eq rfl) (by decide)
  refine own_step (st' := T1.setTop (mkF m 4 #[.val (.ref x0), .val (.int x1)] [])) st1 ?_
  refine own_step (st' := T1.setTop (mkF m 5 #[.val (.ref x0), .val (.int x1)] [(.ref x0)])) (fun t k => XS.aloadN X1.here hx rfl (hb hby d1_4) rfl rfl k) ?_
  refine own_step (st' := T1.setTop (mkF m 6 #[.val (.ref x0), .val (.int x1)] [(.int (1 : Int32)), (.ref x0)])) (fun t k => XS.iconst X1.here hx rfl (hb hby d1_5) k) ?_
  obtain ⟨T2, h2, k2, X2, e2, E2, A2, Ex2, O2, st2⟩ := newRA X1 hx hZ (C := "[B") (ty := .byte) hown (by decide +kernel) (hw _ (List.mem_of_getElem? (i := 10) rfl)) (hw _ (List.mem_of_getElem? (i := 11) rfl)) e1 (g := (mkF m 6 #[.val (.ref x0), .val (.int x1)] [(.int (1 : Int32)), (.ref x0)])) rfl (hb hby d1_6) rfl (by decide) (cap := 1) (by decide) (by decide) (by decide) (by decide) (ad := "[[B") (by decide +kernel)
  obtain ⟨b2, g2⟩ : ∃ z, z = h0.size := ⟨_, rfl⟩
  rw [← g2] at A2 Ex2 st2
  have ne3 : x0 ≠ b2 := Nat.ne_of_lt (Nat.lt_of_lt_of_le p_0.lt (Nat.le_of_eq g2.symm))
  have g_b2 : n0 ≤ b2 := Nat.le_trans Z0 (Nat.le_of_eq g2.symm)
  have sz_b2 : h0.size ≤ b2 := Nat.le_trans (Keep.refl h0 [x0]).1 (Nat.le_of_eq g2.symm)
  have f4 := p_0.ext E2
  have f5 := p_1.ext E2
  have f6 := p_2.ext E2
  have f7 := p_3.ext E2
  have f8 := p_4.ext E2
  have K9 : Keep h0 h2 [x0] := (Keep.refl h0 [x0]).ext E2
  have Z10 : n0 ≤ h2.size := Nat.le_trans Z0 E2.1
  have V2 : Arv Z h2 b2 k2 (.array .byte) (1 : Int32) [.null] .null := (Arv.new A2 (by decide)).pad (pad_rep [] .null 1)
  refine own_step (st' := T2.setTop (mkF m 9 #[.val (.ref x0), .val (.int x1)] [(.ref b2), (.ref x0)])) st2 ?_
  refine own_step (st' := T2.setTop (mkF m 10 #[.val (.ref x0), .val (.int x1)] [(.ref b2), (.ref b2), (.ref x0)])) (fun t k => XS.dup X2.here hx rfl (hb hby d1_9) rfl rfl k) ?_
  refine own_step (st' := T2.setTop (mkF m 11 #[.val (.ref x0), .val (.int x1)] [(.int (0 : Int32)), (.ref b2), (.ref b2), (.ref x0)])) (fun t k => XS.iconst X2.here hx rfl (hb hby d1_10) k) ?_
  refine own_step (st' := T2.setTop (mkF m 14 #[.val (.ref x0), .val (.int x1)] [(.int (256 : Int32)), (.int (0 : Int32)), (.ref b2), (.ref b2), (.ref x0)])) (fun t k => XS.sipush X2.here hx rfl (hb hby d1_11) k) ?_
  obtain ⟨T11, h11, k11, X11, e11, E11, A11, Ex11, st11⟩ := newPE X2 hx hZ (hw _ (List.mem_of_getElem? (i := 0) rfl)) e2 (g := (mkF m 14 #[.val (.ref x0), .val (.int x1)] [(.int (256 : Int32)), (.int (0 : Int32)), (.ref b2), (.ref b2), (.ref x0)])) rfl (hb hby d1_14) rfl (by decide) (cap := 256) (by decide) (by decide) (by decide) (by decide) (ad := "[B") (by decide +kernel)
  obtain ⟨b11, g11⟩ : ∃ z, z = h2.size := ⟨_, rfl⟩
  rw [← g11] at A11 Ex11 st11
  have ne12 : x0 ≠ b11 := Nat.ne_of_lt (Nat.lt_of_lt_of_le f4.lt (Nat.le_of_eq g11.symm))
  have ne13 : b2 ≠ b11 := Nat.ne_of_lt (Nat.lt_of_lt_of_le V2.lt (Nat.le_of_eq g11.symm))
  have g_b11 : n0 ≤ b11 := Nat.le_trans Z10 (Nat.le_of_eq g11.symm)
  have sz_b11 : h0.size ≤ b11 := Nat.le_trans K9.1 (Nat.le_of_eq g11.symm)
  have f14 := f4.ext E11
  have f15 := f5.ext E11
  have f16 := f6.ext E11
  have f17 := f7.ext E11
  have f18 := f8.ext E11
  have f19 := V2.ext E11
  have f20 := Ex2.ext E11
  have K21 : Keep h0 h11 [x0] := K9.ext E11
  have Z22 : n0 ≤ h11.size := Nat.le_trans Z10 E11.1
  have V11 : Arv Z h11 b11 k11 .byte (256 : Int32) [] (.int (0 : Int32)) := Arv.new A11 (by decide)
  refine own_step (st' := T11.setTop (mkF m 16 #[.val (.ref x0), .val (.int x1)] [(.ref b11), (.int (0 : Int32)), (.ref b2), (.ref b2), (.ref x0)])) st11 ?_
  obtain ⟨T23, h23, X23, e23, W23, V23, st23⟩ := own_stR X11 hx hZ e11 f19 rfl (j := (0 : Int32)) (i := 0) (own_stoA f19 O2 (Ins.self Ex11)) rfl ⟨by decide, by decide⟩ rfl (Nat.le_of_ble_eq_true rfl) (g := (mkF m 16 #[.val (.ref x0), .val (.int x1)] [(.ref b11), (.int (0 : Int32)), (.ref b2), (.ref b2), (.ref x0)])) rfl rfl (hb hby d1_16)
  have V23 : Arv Z h23 b2 k2 (.array .byte) (1 : Int32) [(.ref b11)] .null := V23
  have f24 := f14.other W23 (Or.inl ne3)
  have f25 := f15.other W23 (Or.inl ne3)
  have f26 := f16.other W23 (Or.inl ne3)
  have f27 := f17.other W23 (Or.inl ne3)
  have f28 := f18.wr W23
  have f29 := f20.wr W23
  have f30 := V11.other W23 (Ne.symm ne13)
  have f31 := Ex11.wr W23
  have K32 : Keep h0 h23 [x0] := K21.wr W23 (Or.inr sz_b2)
  have Z33 : n0 ≤ h23.size := Nat.le_trans Z22 (Keep.of_wr W23).1
  have N34 := Fr.snoc X23 N0 g_b2
  refine own_step (st' := T23.setTop (mkF m 17 #[.val (.ref x0), .val (.int x1)] [(.ref b2), (.ref x0)])) st23 ?_
  obtain ⟨T35, h35, X35, e35, W35, st35⟩ := putF X23 hx hZ hown (host := "") (Or.inl (hw _ (List.mem_of_getElem? (i := 13) rfl))) Via.refl e23 f24 f28 (Or.inl (hw _ (List.mem_of_getElem? (i := 14) rfl))) (hw _ (List.mem_of_getElem? (i := 2) rfl)) (ty := (.array (.array .byte))) (by decide) rfl rfl (g := (mkF m 17 #[.val (.ref x0), .val (.int x1)] [(.ref b2), (.ref x0)])) rfl rfl (hb hby d1_17)
  have F35 := f24.same W35
  have f36 := f25.other W35 (Or.inr (slot_ne (Or.inl (hw _ (List.mem_of_getElem? (i := 17) rfl))) (Or.inl (hw _ (List.mem_of_getElem? (i := 14) rfl))) (by decide) (t := (.array .long)) (t' := (.array (.array .byte))) (by decide) (by decide)))
  have f37 := f26.other W35 (Or.inr (slot_ne (Or.inr (hw _ (List.mem_of_getElem? (i := 19) rfl))) (Or.inl (hw _ (List.mem_of_getElem? (i := 14) rfl))) (by decide) (t := .int) (t' := (.array (.array .byte))) (by decide) (by decide)))
  have f38 := f27.other W35 (Or.inr (slot_ne (Or.inl (hw _ (List.mem_of_getElem? (i := 26) rfl))) (Or.inl (hw _ (List.mem_of_getElem? (i := 14) rfl))) (by decide) (t := .int) (t' := (.array (.array .byte))) (by decide) (by decide)))
  have f39 := f28.wr W35
  have f40 := f29.wr W35
  have f41 := f30.other W35 (Ne.symm ne12)
  have f42 := f31.wr W35
  have f43 := V23.other W35 (Ne.symm ne3)
  have K44 : Keep h0 h35 [x0] := K32.wr W35 (Or.inl (List.mem_of_getElem? (i := 0) rfl))
  have Z45 : n0 ≤ h35.size := Nat.le_trans Z33 (Keep.of_wr W35).1
  have N46 := Fr.snoc X35 N34 p_5
  refine own_step (st' := T35.setTop (mkF m 20 #[.val (.ref x0), .val (.int x1)] [])) st35 ?_
  refine own_step (st' := T35.setTop (mkF m 21 #[.val (.ref x0), .val (.int x1)] [(.ref x0)])) (fun t k => XS.aloadN X35.here hx rfl (hb hby d1_20) rfl rfl k) ?_
  refine own_step (st' := T35.setTop (mkF m 23 #[.val (.ref x0), .val (.int x1)] [(.int (16 : Int32)), (.ref x0)])) (fun t k => XS.bipush X35.here hx rfl (hb hby d1_21) k) ?_
  obtain ⟨T47, h47, k47, X47, e47, E47, A47, Ex47, st47⟩ := newPE X35 hx hZ (hw _ (List.mem_of_getElem? (i := 15) rfl)) e35 (g := (mkF m 23 #[.val (.ref x0), .val (.int x1)] [(.int (16 : Int32)), (.ref x0)])) rfl (hb hby d1_23) rfl (by decide) (cap := 16) (by decide) (by decide) (by decide) (by decide) (ad := "[J") (by decide +kernel)
  obtain ⟨b47, g47⟩ : ∃ z, z = h35.size := ⟨_, rfl⟩
  rw [← g47] at A47 Ex47 st47
  have ne48 : x0 ≠ b47 := Nat.ne_of_lt (Nat.lt_of_lt_of_le f36.lt (Nat.le_of_eq g47.symm))
  have ne49 : b2 ≠ b47 := Nat.ne_of_lt (Nat.lt_of_lt_of_le f40.lt (Nat.le_of_eq g47.symm))
  have ne50 : b11 ≠ b47 := Nat.ne_of_lt (Nat.lt_of_lt_of_le f41.lt (Nat.le_of_eq g47.symm))
  have g_b47 : n0 ≤ b47 := Nat.le_trans Z45 (Nat.le_of_eq g47.symm)
  have sz_b47 : h0.size ≤ b47 := Nat.le_trans K44.1 (Nat.le_of_eq g47.symm)
  have f51 := f36.ext E47
  have f52 := f37.ext E47
  have f53 := f38.ext E47
  have f54 := f39.ext E47
  have f55 := f40.ext E47
  have f56 := f41.ext E47
  have f57 := f42.ext E47
  have f58 := f43.ext E47
  have f59 := F35.ext E47
  have K60 : Keep h0 h47 [x0] := K44.ext E47
  have Z61 : n0 ≤ h47.size := Nat.le_trans Z45 E47.1
  have V47 : Arv Z h47 b47 k47 .long (16 : Int32) [(.long (0 : Int64)), (.long (0 : Int64)), (.long (0 : Int64)), (.long (0 : Int64)), (.long (0 : Int64)), (.long (0 : Int64)), (.long (0 : Int64)), (.long (0 : Int64)), (.long (0 : Int64)), (.long (0 : Int64)), (.long (0 : Int64)), (.long (0 : Int64)), (.long (0 : Int64)), (.long (0 : Int64)), (.long (0 : Int64)), (.long (0 : Int64))] (.long (0 : Int64)) := (Arv.new A47 (by decide)).pad (pad_rep [] (.long (0 : Int64)) 16)
  refine own_step (st' := T47.setTop (mkF m 25 #[.val (.ref x0), .val (.int x1)] [(.ref b47), (.ref x0)])) st47 ?_
  obtain ⟨T62, h62, X62, e62, W62, st62⟩ := putF X47 hx hZ hown (host := "") (Or.inl (hw _ (List.mem_of_getElem? (i := 16) rfl))) Via.refl e47 f51 f54 (Or.inl (hw _ (List.mem_of_getElem? (i := 17) rfl))) (hw _ (List.mem_of_getElem? (i := 2) rfl)) (ty := (.array .long)) (by decide) rfl rfl (g := (mkF m 25 #[.val (.ref x0), .val (.int x1)] [(.ref b47), (.ref x0)])) rfl rfl (hb hby d1_25)
  have F62 := f51.same W62
  have f63 := f52.other W62 (Or.inr (slot_ne (Or.inr (hw _ (List.mem_of_getElem? (i := 19) rfl))) (Or.inl (hw _ (List.mem_of_getElem? (i := 17) rfl))) (by decide) (t := .int) (t' := (.array .long)) (by decide) (by decide)))
  have f64 := f53.other W62 (Or.inr (slot_ne (Or.inl (hw _ (List.mem_of_getElem? (i := 26) rfl))) (Or.inl (hw _ (List.mem_of_getElem? (i := 17) rfl))) (by decide) (t := .int) (t' := (.array .long)) (by decide) (by decide)))
  have f65 := f54.wr W62
  have f66 := f55.wr W62
  have f67 := f56.other W62 (Ne.symm ne12)
  have f68 := f57.wr W62
  have f69 := f58.other W62 (Ne.symm ne3)
  have f70 := f59.other W62 (Or.inr (slot_ne (Or.inl (hw _ (List.mem_of_getElem? (i := 14) rfl))) (Or.inl (hw _ (List.mem_of_getElem? (i := 17) rfl))) (by decide) (t := (.array (.array .byte))) (t' := (.array .long)) (by decide) (by decide)))
  have f71 := V47.other W62 (Ne.symm ne48)
  have f72 := Ex47.wr W62
  have K73 : Keep h0 h62 [x0] := K60.wr W62 (Or.inl (List.mem_of_getElem? (i := 0) rfl))
  have Z74 : n0 ≤ h62.size := Nat.le_trans Z61 (Keep.of_wr W62).1
  have N75 := Fr.snoc X62 N46 p_5
  refine own_step (st' := T62.setTop (mkF m 28 #[.val (.ref x0), .val (.int x1)] [])) st62 ?_
  refine own_step (st' := T62.setTop (mkF m 29 #[.val (.ref x0), .val (.int x1)] [(.ref x0)])) (fun t k => XS.aloadN X62.here hx rfl (hb hby d1_28) rfl rfl k) ?_
  refine own_step (st' := T62.setTop (mkF m 30 #[.val (.ref x0), .val (.int x1)] [(.int x1), (.ref x0)])) (fun t k => XS.iloadN X62.here hx rfl (hb hby d1_29) rfl k) ?_
  obtain ⟨T76, h76, X76, e76, W76, st76⟩ := putF X62 hx hZ hown (host := "") (Or.inl (hw _ (List.mem_of_getElem? (i := 18) rfl))) Via.refl e62 f63 f65 (Or.inr ⟨(hw _ (List.mem_of_getElem? (i := 19) rfl)), rfl, hnm⟩) (hw _ (List.mem_of_getElem? (i := 2) rfl)) (ty := .int) (by decide) rfl rfl (g := (mkF m 30 #[.val (.ref x0), .val (.int x1)] [(.int x1), (.ref x0)])) rfl rfl (hb hby d1_30)
  have F76 := f63.same W76
  have f77 := f64.other W76 (Or.inr (slot_ne (Or.inl (hw _ (List.mem_of_getElem? (i := 26) rfl))) (Or.inr (hw _ (List.mem_of_getElem? (i := 19) rfl))) (by decide) (t := .int) (t' := .int) (by decide) (by decide)))
  have f78 := f65.wr W76
  have f79 := f66.wr W76
  have f80 := f67.other W76 (Ne.symm ne12)
  have f81 := f68.wr W76
  have f82 := f69.other W76 (Ne.symm ne3)
  have f83 := f70.other W76 (Or.inr (slot_ne (Or.inl (hw _ (List.mem_of_getElem? (i := 14) rfl))) (Or.inr (hw _ (List.mem_of_getElem? (i := 19) rfl))) (by decide) (t := (.array (.array .byte))) (t' := .int) (by decide) (by decide)))
  have f84 := f71.other W76 (Ne.symm ne48)
  have f85 := f72.wr W76
  have f86 := F62.other W76 (Or.inr (slot_ne (Or.inl (hw _ (List.mem_of_getElem? (i := 17) rfl))) (Or.inr (hw _ (List.mem_of_getElem? (i := 19) rfl))) (by decide) (t := (.array .long)) (t' := .int) (by decide) (by decide)))
  have K87 : Keep h0 h76 [x0] := K73.wr W76 (Or.inl (List.mem_of_getElem? (i := 0) rfl))
  have Z88 : n0 ≤ h76.size := Nat.le_trans Z74 (Keep.of_wr W76).1
  have N89 := Fr.snoc X76 N75 p_5
  refine own_step (st' := T76.setTop (mkF m 33 #[.val (.ref x0), .val (.int x1)] [])) st76 ?_
  refine own_ret X76 Bd.notSynchronized (none) (fun _ => rfl) (fun fs hr => X76.returnOut hx Bd.returns (hb hby d1_33) hr) ?_ (by decide) (by decide)
  rw [e76]
  exact ⟨b2, k2, b11, k11, b47, k47, rfl, N89, K87, sz_b2, sz_b11, sz_b47, ne13, ne49, ne50, O2, f83, f86, F76, f77, f82, f80, f84⟩
theorem d4_0 : decode jdk_29_method_69_code 0 = .ok (.iload_n 0, 1) := by decide +kernel
theorem d4_1 : decode jdk_29_method_69_code 1 = .ok (.iload_n 1, 1) := by decide +kernel
theorem d4_2 : decode jdk_29_method_69_code 2 = .ok (.if_icmp .gt 7, 3) := by decide +kernel
theorem d4_5 : decode jdk_29_method_69_code 5 = .ok (.iload_n 0, 1) := by decide +kernel
theorem d4_6 : decode jdk_29_method_69_code 6 = .ok (.goto 4, 3) := by decide +kernel
theorem d4_9 : decode jdk_29_method_69_code 9 = .ok (.iload_n 1, 1) := by decide +kernel
theorem d4_10 : decode jdk_29_method_69_code 10 = .ok (.ireturn, 1) := by decide +kernel
theorem ef_4_II (m : MethodId) (x0 : Int32) (x1 : Int32) : entryFrame m #[(.int x0), (.int x1)] 2 = mkF m 0 #[.val (.int x0), .val (.int x1)] [] := by first | (simp [entryFrame, mkF, argsToLocals, Value.category]; done) | rfl
def Q_rm4 (Z : State) (x0 : Int32) (x1 : Int32) (h0 : Heap) (n0 : Nat) (v : Option Value) (h : Heap) (L : List Loc) : Prop := v = some (.int (if x1 < x0 then x1 else x0)) ∧ Fr n0 L ∧ h = h0
set_option maxRecDepth 65536 in
set_option maxHeartbeats 40000000 in
theorem rm4 (l : Launch) (Z : State) (a0 : Array Value) (hw : ∀ d ∈ tables_1, d.before a0 Z = true) (ws : List Jvm.Cond) (x0 : Int32) (x1 : Int32) (h0 : Heap) (n0 : Nat) (Z0 : n0 ≤ h0.size) :
    MetFree l (⟨"java/lang/Math", "min", "(II)I"⟩ : MethodName) (head1 (Jvm.Cond.code (⟨"java/lang/Math", "min", "(II)I"⟩ : MethodName) jdk_29_method_69_code 2 (some .int) :: ws) ({ frames := 0, cells := 0, slots := 0, locals := 0 } : Room)) (fun a U => a = #[(.int x0), (.int x1)] ∧ Z.Warmed39 U.vm ∧ U.heap = h0) (fun _ _ _ _ _ => True) (fun _ U o U' => ∃ v L, o = .returned v ∧ Q_rm4 Z x0 x1 h0 n0 v U'.heap L ∧ FrameEnd U o U' L ({ frames := 0, cells := 0, slots := 0, locals := 0 } : Room).cells ({ frames := 0, cells := 0, slots := 0, locals := 0 } : Room).slots) := by
  refine MetFree.of_bodySF (Jvm.Free.JP.mathPlain rfl (by decide +kernel)) hisR ?_
  intro p e s m args below meth c s₁ Bd hml0 hP hK
  obtain ⟨rfl, hZ, hh⟩ := hP
  have hx := Bd.exec
  have hby := Bd.bytes
  have hml : c.maxLocals = 2 := hml0
  have hown : s.vm.findClass "java/lang/Math" = some m.cls := findClass_of_methodNamed Bd.named
  have hnm := (name_of_methodNamed Bd.named Bd.method).1
  have X0 : Stand p l e ({ frames := 0, cells := 0, slots := 0, locals := 0 } : Room) s m #[(.int x0), (.int x1)] below meth c s₁ [] 0 0 := Stand.of_body Bd
  have e0 : s₁.heap = h0 := by rw [← hh, Bd.state]; rfl
  have N0 := Fr.nil n0
  show own_Ends p e below s ({ frames := 0, cells := 0, slots := 0, locals := 0 } : Room).cells ({ frames := 0, cells := 0, slots := 0, locals := 0 } : Room).slots (Q_rm4 Z x0 x1 h0 n0) (s₁.setTop (entryFrame m #[(.int x0), (.int x1)] 2))
  rw [ef_4_II]
  refine own_step (st' := s₁.setTop (mkF m 1 #[.val (.int x0), .val (.int x1)] [(.int x0)])) (fun t k => XS.iloadN X0.here hx rfl (hb hby d4_0) rfl k) ?_
  refine own_step (st' := s₁.setTop (mkF m 2 #[.val (.int x0), .val (.int x1)] [(.int x1), (.int x0)])) (fun t k => XS.iloadN X0.here hx rfl (hb hby d4_1) rfl k) ?_
  by_cases hc1 : x1 < x0
  · refine own_step (st' := s₁.setTop (mkF m 9 #[.val (.int x0), .val (.int x1)] [])) (fun t k => XS.icmpYes X0.here hx rfl (pc0 := 2) (pc' := 9) rfl (hb hby d4_2) rfl (tlt hc1).2.2.1 (by decide) (by decide) k) ?_
    refine own_step (st' := s₁.setTop (mkF m 10 #[.val (.int x0), .val (.int x1)] [(.int x1)])) (fun t k => XS.iloadN X0.here hx rfl (hb hby d4_9) rfl k) ?_
    refine own_ret X0 Bd.notSynchronized (some (.int x1)) (fun h => by rw [Bd.returns] at h; cases h) (fun fs hr => own_retI X0 hx Bd.returns (hb hby d4_10) hr) ?_ (by decide) (by decide)
    rw [e0]
    exact ⟨(by first | rfl | (simp only [if_pos hc1]; done) | (simp only [if_pos hc1]; rfl)), N0, rfl⟩
  · refine own_step (st' := s₁.setTop (mkF m 5 #[.val (.int x0), .val (.int x1)] [])) (fun t k => XS.icmpNo X0.here hx rfl (hb hby d4_2) rfl (flt hc1).2.2.1 k) ?_
    refine own_step (st' := s₁.setTop (mkF m 6 #[.val (.int x0), .val (.int x1)] [(.int x0)])) (fun t k => XS.iloadN X0.here hx rfl (hb hby d4_5) rfl k) ?_
    refine own_step (st' := s₁.setTop (mkF m 10 #[.val (.int x0), .val (.int x1)] [(.int x0)])) (fun t k => XS.goto X0.here hx rfl (pc0 := 6) (pc' := 10) rfl (hb hby d4_6) (by decide) (by decide) k) ?_
    refine own_ret X0 Bd.notSynchronized (some (.int x0)) (fun h => by rw [Bd.returns] at h; cases h) (fun fs hr => own_retI X0 hx Bd.returns (hb hby d4_10) hr) ?_ (by decide) (by decide)
    rw [e0]
    exact ⟨(by first | rfl | (simp only [if_neg hc1]; done) | (simp only [if_neg hc1]; rfl)), N0, rfl⟩
theorem d7_0 : decode jdk_29_method_65_code 0 = .ok (.iload_n 0, 1) := by decide +kernel
theorem d7_1 : decode jdk_29_method_65_code 1 = .ok (.iload_n 1, 1) := by decide +kernel
theorem d7_2 : decode jdk_29_method_65_code 2 = .ok (.if_icmp .lt 7, 3) := by decide +kernel
theorem d7_5 : decode jdk_29_method_65_code 5 = .ok (.iload_n 0, 1) := by decide +kernel
theorem d7_6 : decode jdk_29_method_65_code 6 = .ok (.goto 4, 3) := by decide +kernel
theorem d7_9 : decode jdk_29_method_65_code 9 = .ok (.iload_n 1, 1) := by decide +kernel
theorem d7_10 : decode jdk_29_method_65_code 10 = .ok (.ireturn, 1) := by decide +kernel
theorem ef_7_II (m : MethodId) (x0 : Int32) (x1 : Int32) : entryFrame m #[(.int x0), (.int x1)] 2 = mkF m 0 #[.val (.int x0), .val (.int x1)] [] := by first | (simp [entryFrame, mkF, argsToLocals, Value.category]; done) | rfl
def Q_rm7 (Z : State) (x0 : Int32) (x1 : Int32) (h0 : Heap) (n0 : Nat) (v : Option Value) (h : Heap) (L : List Loc) : Prop := v = some (.int (if x0 < x1 then x1 else x0)) ∧ Fr n0 L ∧ h = h0
set_option maxRecDepth 65536 in
set_option maxHeartbeats 40000000 in
theorem rm7 (l : Launch) (Z : State) (a0 : Array Value) (hw : ∀ d ∈ tables_1, d.before a0 Z = true) (ws : List Jvm.Cond) (x0 : Int32) (x1 : Int32) (h0 : Heap) (n0 : Nat) (Z0 : n0 ≤ h0.size) :
    MetFree l (⟨"java/lang/Math", "max", "(II)I"⟩ : MethodName) (head1 (Jvm.Cond.code (⟨"java/lang/Math", "max", "(II)I"⟩ : MethodName) jdk_29_method_65_code 2 (some .int) :: ws) ({ frames := 0, cells := 0, slots := 0, locals := 0 } : Room)) (fun a U => a = #[(.int x0), (.int x1)] ∧ Z.Warmed39 U.vm ∧ U.heap = h0) (fun _ _ _ _ _ => True) (fun _ U o U' => ∃ v L, o = .returned v ∧ Q_rm7 Z x0 x1 h0 n0 v U'.heap L ∧ FrameEnd U o U' L ({ frames := 0, cells := 0, slots := 0, locals := 0 } : Room).cells ({ frames := 0, cells := 0, slots := 0, locals := 0 } : Room).slots) := by
  refine MetFree.of_bodySF (Jvm.Free.JP.mathPlain rfl (by decide +kernel)) hisR ?_
  intro p e s m args below meth c s₁ Bd hml0 hP hK
  obtain ⟨rfl, hZ, hh⟩ := hP
  have hx := Bd.exec
  have hby := Bd.bytes
  have hml : c.maxLocals = 2 := hml0
  have hown : s.vm.findClass "java/lang/Math" = some m.cls := findClass_of_methodNamed Bd.named
  have hnm := (name_of_methodNamed Bd.named Bd.method).1
  have X0 : Stand p l e ({ frames := 0, cells := 0, slots := 0, locals := 0 } : Room) s m #[(.int x0), (.int x1)] below meth c s₁ [] 0 0 := Stand.of_body Bd
  have e0 : s₁.heap = h0 := by rw [← hh, Bd.state]; rfl
  have N0 := Fr.nil n0
  show own_Ends p e below s ({ frames := 0, cells := 0, slots := 0, locals := 0 } : Room).cells ({ frames := 0, cells := 0, slots := 0, locals := 0 } : Room).slots (Q_rm7 Z x0 x1 h0 n0) (s₁.setTop (entryFrame m #[(.int x0), (.int x1)] 2))
  rw [ef_7_II]
  refine own_step (st' := s₁.setTop (mkF m 1 #[.val (.int x0), .val (.int x1)] [(.int x0)])) (fun t k => XS.iloadN X0.here hx rfl (hb hby d7_0) rfl k) ?_
  refine own_step (st' := s₁.setTop (mkF m 2 #[.val (.int x0), .val (.int x1)] [(.int x1), (.int x0)])) (fun t k => XS.iloadN X0.here hx rfl (hb hby d7_1) rfl k) ?_
  by_cases hc1 : x0 < x1
  · refine own_step (st' := s₁.setTop (mkF m 9 #[.val (.int x0), .val (.int x1)] [])) (fun t k => XS.icmpYes X0.here hx rfl (pc0 := 2) (pc' := 9) rfl (hb hby d7_2) rfl (tlt hc1).1 (by decide) (by decide) k) ?_
    refine own_step (st' := s₁.setTop (mkF m 10 #[.val (.int x0), .val (.int x1)] [(.int x1)])) (fun t k => XS.iloadN X0.here hx rfl (hb hby d7_9) rfl k) ?_
    refine own_ret X0 Bd.notSynchronized (some (.int x1)) (fun h => by rw [Bd.returns] at h; cases h) (fun fs hr => own_retI X0 hx Bd.returns (hb hby d7_10) hr) ?_ (by decide) (by decide)
    rw [e0]
    exact ⟨(by first | rfl | (simp only [if_pos hc1]; done) | (simp only [if_pos hc1]; rfl)), N0, rfl⟩
  · refine own_step (st' := s₁.setTop (mkF m 5 #[.val (.int x0), .val (.int x1)] [])) (fun t k => XS.icmpNo X0.here hx rfl (hb hby d7_2) rfl (flt hc1).1 k) ?_
    refine own_step (st' := s₁.setTop (mkF m 6 #[.val (.int x0), .val (.int x1)] [(.int x0)])) (fun t k => XS.iloadN X0.here hx rfl (hb hby d7_5) rfl k) ?_
    refine own_step (st' := s₁.setTop (mkF m 10 #[.val (.int x0), .val (.int x1)] [(.int x0)])) (fun t k => XS.goto X0.here hx rfl (pc0 := 6) (pc' := 10) rfl (hb hby d7_6) (by decide) (by decide) k) ?_
    refine own_ret X0 Bd.notSynchronized (some (.int x0)) (fun h => by rw [Bd.returns] at h; cases h) (fun fs hr => own_retI X0 hx Bd.returns (hb hby d7_10) hr) ?_ (by decide) (by decide)
    rw [e0]
    exact ⟨(by first | rfl | (simp only [if_neg hc1]; done) | (simp only [if_neg hc1]; rfl)), N0, rfl⟩
theorem d8_0 : decode jdk_65_method_121_code 0 = .ok (.iload_n 1, 1) := by decide +kernel
theorem d8_1 : decode jdk_65_method_121_code 1 = .ok (.aload_n 0, 1) := by decide +kernel
theorem d8_2 : decode jdk_65_method_121_code 2 = .ok (.arraylength, 1) := by decide +kernel
theorem d8_3 : decode jdk_65_method_121_code 3 = .ok (.if_icmp .ne 11, 3) := by decide +kernel
theorem d8_14 : decode jdk_65_method_121_code 14 = .ok (.iload_n 1, 1) := by decide +kernel
theorem d8_15 : decode jdk_65_method_121_code 15 = .ok (.newarray .byte, 2) := by decide +kernel
theorem d8_17 : decode jdk_65_method_121_code 17 = .ok (.astore_n 2, 1) := by decide +kernel
theorem d8_18 : decode jdk_65_method_121_code 18 = .ok (.aload_n 0, 1) := by decide +kernel
theorem d8_19 : decode jdk_65_method_121_code 19 = .ok (.iconst 0, 1) := by decide +kernel
theorem d8_20 : decode jdk_65_method_121_code 20 = .ok (.aload_n 2, 1) := by decide +kernel
theorem d8_21 : decode jdk_65_method_121_code 21 = .ok (.iconst 0, 1) := by decide +kernel
theorem d8_22 : decode jdk_65_method_121_code 22 = .ok (.aload_n 0, 1) := by decide +kernel
theorem d8_23 : decode jdk_65_method_121_code 23 = .ok (.arraylength, 1) := by decide +kernel
theorem d8_24 : decode jdk_65_method_121_code 24 = .ok (.iload_n 1, 1) := by decide +kernel
theorem d8_25 : decode jdk_65_method_121_code 25 = .ok (.invokestatic 304, 3) := by decide +kernel
theorem d8_28 : decode jdk_65_method_121_code 28 = .ok (.invokestatic 150, 3) := by decide +kernel
theorem d8_31 : decode jdk_65_method_121_code 31 = .ok (.aload_n 2, 1) := by decide +kernel
theorem d8_32 : decode jdk_65_method_121_code 32 = .ok (.areturn, 1) := by decide +kernel
theorem pn_4 : plainName "java/util/Arrays" = true := by first | (simp [plainName, overriddenIn]; done) | decide +kernel
theorem ef_8_RI (m : MethodId) (x0 : Addr) (x1 : Int32) : entryFrame m #[(.ref x0), (.int x1)] 3 = mkF m 0 #[.val (.ref x0), .val (.int x1), .unset] [] := by first | (simp [entryFrame, mkF, argsToLocals, Value.category]; done) | rfl
def Q_rmC1 (Z : State) (x0 : Addr) (x1 : Int32) (k : ClassId) (n : Int32) (vs : List Value) (dv : Value) (h0 : Heap) (n0 : Nat) (v : Option Value) (h : Heap) (L : List Loc) : Prop := ∃ b : Addr, ∃ kb : ClassId, ∃ vb : List Value, v = some (.ref b) ∧ Fr n0 L ∧ Keep h0 h [] ∧ h0.size ≤ b ∧ Exa Z h b "[B" ∧ Arv Z h b kb .byte x1 vb (.int (0 : Int32))
set_option maxRecDepth 65536 in
set_option maxHeartbeats 40000000 in
theorem rmC1 (l : Launch) (Z : State) (a0 : Array Value) (hw : ∀ d ∈ tables_1, d.before a0 Z = true) (ws : List Jvm.Cond) (x0 : Addr) (x1 : Int32) (k : ClassId) (n : Int32) (vs : List Value) (dv : Value) (h0 : Heap) (n0 : Nat) (Z0 : n0 ≤ h0.size) (p_0 : Arv Z h0 x0 k .byte n vs dv) (p_1 : 0 ≤ n.toInt) (p_2 : n.toInt < x1.toInt) (p_3 : x1.toInt ≤ 2046) :
    MetFree l (⟨"java/util/Arrays", "copyOf", "([BI)[B"⟩ : MethodName) (head1 (Jvm.Cond.code (⟨"java/util/Arrays", "copyOf", "([BI)[B"⟩ : MethodName) jdk_65_method_121_code 3 (some (.array .byte)) :: ws) ({ frames := 1, cells := 1, slots := 2046, locals := 18 } : Room)) (fun a U => a = #[(.ref x0), (.int x1)] ∧ Z.Warmed39 U.vm ∧ U.heap = h0) (fun _ _ _ _ _ => True) (fun _ U o U' => ∃ v L, o = .returned v ∧ Q_rmC1 Z x0 x1 k n vs dv h0 n0 v U'.heap L ∧ FrameEnd U o U' L ({ frames := 1, cells := 1, slots := 2046, locals := 18 } : Room).cells ({ frames := 1, cells := 1, slots := 2046, locals := 18 } : Room).slots) := by
  refine MetFree.of_bodySF (plainFor_of_name pn_4) hisR ?_
  intro p e s m args below meth c s₁ Bd hml0 hP hK
  obtain ⟨rfl, hZ, hh⟩ := hP
  have hx := Bd.exec
  have hby := Bd.bytes
  have hml : c.maxLocals = 3 := hml0
  have hown : s.vm.findClass "java/util/Arrays" = some m.cls := findClass_of_methodNamed Bd.named
  have hnm := (name_of_methodNamed Bd.named Bd.method).1
  have X0 : Stand p l e ({ frames := 1, cells := 1, slots := 2046, locals := 18 } : Room) s m #[(.ref x0), (.int x1)] below meth c s₁ [] 0 0 := Stand.of_body Bd
  have e0 : s₁.heap = h0 := by rw [← hh, Bd.state]; rfl
  have N0 := Fr.nil n0
  show own_Ends p e below s ({ frames := 1, cells := 1, slots := 2046, locals := 18 } : Room).cells ({ frames := 1, cells := 1, slots := 2046, locals := 18 } : Room).slots (Q_rmC1 Z x0 x1 k n vs dv h0 n0) (s₁.setTop (entryFrame m #[(.ref x0), (.int x1)] 3))
  rw [ef_8_RI]
  refine own_step (st' := s₁.setTop (mkF m 1 #[.val (.ref x0), .val (.int x1), .unset] [(.int x1)])) (fun t k => XS.iloadN X0.here hx rfl (hb hby d8_0) rfl k) ?_
  refine own_step (st' := s₁.setTop (mkF m 2 #[.val (.ref x0), .val (.int x1), .unset] [(.ref x0), (.int x1)])) (fun t k => XS.aloadN X0.here hx rfl (hb hby d8_1) rfl rfl k) ?_
  refine own_step (st' := s₁.setTop (mkF m 3 #[.val (.ref x0), .val (.int x1), .unset] [(.int n), (.int x1)])) (fun t k => own_len X0 hx hZ e0 p_0 (g := (mkF m 2 #[.val (.ref x0), .val (.int x1), .unset] [(.ref x0), (.int x1)])) rfl rfl (hb hby d8_2) t k) ?_
  refine own_step (st' := s₁.setTop (mkF m 14 #[.val (.ref x0), .val (.int x1), .unset] [])) (fun t k => XS.icmpYes X0.here hx rfl (pc0 := 3) (pc' := 14) rfl (hb hby d8_3) rfl (feq (fun q => by rw [q] at p_2; omega)).2 (by decide) (by decide) k) ?_
  refine own_step (st' := s₁.setTop (mkF m 15 #[.val (.ref x0), .val (.int x1), .unset] [(.int x1)])) (fun t k => XS.iloadN X0.here hx rfl (hb hby d8_14) rfl k) ?_
  obtain ⟨T1, h1, k1, X1, e1, E1, A1, Ex1, st1⟩ := newPE X0 hx hZ (hw _ (List.mem_of_getElem? (i := 0) rfl)) e0 (g := (mkF m 15 #[.val (.ref x0), .val (.int x1), .unset] [(.int x1)])) rfl (hb hby d8_15) rfl (own_ofNeg (by omega)) (cap := 2046) (own_le (by omega) (by omega)) (by decide) (by decide) (by decide) (ad := "[B") (by decide +kernel)
  obtain ⟨b1, g1⟩ : ∃ z, z = h0.size := ⟨_, rfl⟩
  rw [← g1] at A1 Ex1 st1
  have ne2 : x0 ≠ b1 := Nat.ne_of_lt (Nat.lt_of_lt_of_le p_0.lt (Nat.le_of_eq g1.symm))
  have g_b1 : n0 ≤ b1 := Nat.le_trans Z0 (Nat.le_of_eq g1.symm)
  have sz_b1 : h0.size ≤ b1 := Nat.le_trans (Keep.refl h0 []).1 (Nat.le_of_eq g1.symm)
  have f3 := p_0.ext E1
  have K4 : Keep h0 h1 [] := (Keep.refl h0 []).ext E1
  have Z5 : n0 ≤ h1.size := Nat.le_trans Z0 E1.1
  have V1 : Arv Z h1 b1 k1 .byte x1 [] (.int (0 : Int32)) := Arv.new A1 (own_ofNeg (by omega))
  refine own_step (st' := T1.setTop (mkF m 17 #[.val (.ref x0), .val (.int x1), .unset] [(.ref b1)])) st1 ?_
  refine own_step (st' := T1.setTop (mkF m 18 #[.val (.ref x0), .val (.int x1), .val (.ref b1)] [])) (fun t k => XS.astoreN X1.here hx rfl (hb hby d8_17) rfl rfl (l' := #[.val (.ref x0), .val (.int x1), .val (.ref b1)]) rfl k) ?_
  refine own_step (st' := T1.setTop (mkF m 19 #[.val (.ref x0), .val (.int x1), .val (.ref b1)] [(.ref x0)])) (fun t k => XS.aloadN X1.here hx rfl (hb hby d8_18) rfl rfl k) ?_
  refine own_step (st' := T1.setTop (mkF m 20 #[.val (.ref x0), .val (.int x1), .val (.ref b1)] [(.int (0 : Int32)), (.ref x0)])) (fun t k => XS.iconst X1.here hx rfl (hb hby d8_19) k) ?_
  refine own_step (st' := T1.setTop (mkF m 21 #[.val (.ref x0), .val (.int x1), .val (.ref b1)] [(.ref b1), (.int (0 : Int32)), (.ref x0)])) (fun t k => XS.aloadN X1.here hx rfl (hb hby d8_20) rfl rfl k) ?_
  refine own_step (st' := T1.setTop (mkF m 22 #[.val (.ref x0), .val (.int x1), .val (.ref b1)] [(.int (0 : Int32)), (.ref b1), (.int (0 : Int32)), (.ref x0)])) (fun t k => XS.iconst X1.here hx rfl (hb hby d8_21) k) ?_
  refine own_step (st' := T1.setTop (mkF m 23 #[.val (.ref x0), .val (.int x1), .val (.ref b1)] [(.ref x0), (.int (0 : Int32)), (.ref b1), (.int (0 : Int32)), (.ref x0)])) (fun t k => XS.aloadN X1.here hx rfl (hb hby d8_22) rfl rfl k) ?_
  refine own_step (st' := T1.setTop (mkF m 24 #[.val (.ref x0), .val (.int x1), .val (.ref b1)] [(.int n), (.int (0 : Int32)), (.ref b1), (.int (0 : Int32)), (.ref x0)])) (fun t k => own_len X1 hx hZ e1 f3 (g := (mkF m 23 #[.val (.ref x0), .val (.int x1), .val (.ref b1)] [(.ref x0), (.int (0 : Int32)), (.ref b1), (.int (0 : Int32)), (.ref x0)])) rfl rfl (hb hby d8_23) t k) ?_
  refine own_step (st' := T1.setTop (mkF m 25 #[.val (.ref x0), .val (.int x1), .val (.ref b1)] [(.int x1), (.int n), (.int (0 : Int32)), (.ref b1), (.int (0 : Int32)), (.ref x0)])) (fun t k => XS.iloadN X1.here hx rfl (hb hby d8_24) rfl k) ?_
  obtain ⟨_, _, ⟨T6, L6, k6, n6⟩, -, X6, ⟨Lc6, hQ6, l6, y6, z6⟩, st6⟩ := Jvm.LawKit.callS X1 hx (y := (⟨"java/lang/Math", "min", "(II)I"⟩ : MethodName)) hown (mvT hZ (hw _ (List.mem_of_getElem? (i := 53) rfl))) (mvT hZ (hw _ (List.mem_of_getElem? (i := 30) rfl))) (mvT hZ (hw _ (List.mem_of_getElem? (i := 31) rfl))) (mvT hZ (hw _ (List.mem_of_getElem? (i := 32) rfl))) (by decide) (backOf (W := 4) (rm4 l Z a0 hw [] n x1 h1 n0 Z5) hZ (hw _ (List.mem_of_getElem? (i := 32) rfl)) (hw _ (List.mem_of_getElem? (i := 31) rfl)) (by decide) (by decide)) (g := (mkF m 25 #[.val (.ref x0), .val (.int x1), .val (.ref b1)] [(.int x1), (.int n), (.int (0 : Int32)), (.ref b1), (.int (0 : Int32)), (.ref x0)])) rfl (by rw [hml]; rfl) (argsL := [(.int n), (.int x1)]) (rest := [(.int (0 : Int32)), (.ref b1), (.int (0 : Int32)), (.ref x0)]) (lenOf pd_3 rfl) rfl (by show 2 * 0 + _ ≤ _; exact Nat.le_of_eq rfl) (hb hby d8_25) (fun _ _ => ⟨rfl, e1, (by decide : 1 + 0 ≤ _), (by decide : 2046 + 0 ≤ _)⟩)
  dsimp only [Pt.U, Pt.locs, Pt.cells, Pt.slots] at X6 l6 y6 z6 st6 hQ6
  subst l6 y6 z6
  obtain ⟨rfl, N6q, e6⟩ := hQ6
  have N6 := Fr.app N0 N6q
  refine own_step (st' := T6.setTop (mkF m 28 #[.val (.ref x0), .val (.int x1), .val (.ref b1)] [(.int (if x1 < n then x1 else n)), (.int (0 : Int32)), (.ref b1), (.int (0 : Int32)), (.ref x0)])) st6 ?_
  have hmn : (if x1 < n then x1 else n) = n := if_neg (by rw [Int32.lt_iff_toInt_lt]; omega)
  obtain ⟨T7, h7, L7, vd7, X7, e7, N7, K7, V7, cp7, st7⟩ := own_cp X6 hx hZ hown (hw _ (List.mem_of_getElem? (i := 54) rfl)) (hw _ (List.mem_of_getElem? (i := 40) rfl)) (hw _ (List.mem_of_getElem? (i := 38) rfl)) (hw _ (List.mem_of_getElem? (i := 39) rfl)) e6 f3 V1 rfl (by decide) (by decide) (by rw [hmn]; omega) (by rw [hmn]; show (0 : Int) + _ ≤ _; omega) (by rw [hmn]; show (0 : Int) + _ ≤ _; omega) N6 g_b1 (g := (mkF m 28 #[.val (.ref x0), .val (.int x1), .val (.ref b1)] [(.int (if x1 < n then x1 else n)), (.int (0 : Int32)), (.ref b1), (.int (0 : Int32)), (.ref x0)])) rfl (by rw [hml]; rfl) rfl (hb hby d8_28) (by decide) (W := 0) (by show 2 * 0 + _ ≤ _; exact Nat.le_of_eq rfl) (by decide)
  have f8 := f3.keep K7 (ninS ne2 nin0)
  have f9 := Ex1.keep K7
  have K10 : Keep h0 h7 [] := K4.trans K7 (allS (Or.inr sz_b1) all0)
  have Z11 : n0 ≤ h7.size := Nat.le_trans Z5 K7.1
  refine own_step (st' := T7.setTop (mkF m 31 #[.val (.ref x0), .val (.int x1), .val (.ref b1)] [])) st7 ?_
  refine own_step (st' := T7.setTop (mkF m 32 #[.val (.ref x0), .val (.int x1), .val (.ref b1)] [(.ref b1)])) (fun t k => XS.aloadN X7.here hx rfl (hb hby d8_31) rfl rfl k) ?_
  refine own_ret X7 Bd.notSynchronized (some (.ref b1)) (fun h => by rw [Bd.returns] at h; cases h) (fun fs hr => retOut X7 hx Bd.returns rfl (Or.inr (Or.inr (Or.inr (Or.inr ⟨rfl, rfl, rfl⟩)))) (hb hby d8_32) hr) ?_ (by decide) (by decide)
  rw [e7]
  exact ⟨b1, k1, vd7, rfl, N7, K10, sz_b1, f9, V7⟩
theorem d5_0 : decode prog_23_method_12_code 0 = .ok (.iload_n 1, 1) := by decide +kernel
theorem d5_1 : decode prog_23_method_12_code 1 = .ok (.aload_n 0, 1) := by decide +kernel
theorem d5_2 : decode prog_23_method_12_code 2 = .ok (.getfield 11, 3) := by decide +kernel
theorem d5_5 : decode prog_23_method_12_code 5 = .ok (.arraylength, 1) := by decide +kernel
theorem d5_6 : decode prog_23_method_12_code 6 = .ok (.if_icmp .ne 20, 3) := by decide +kernel
theorem d5_26 : decode prog_23_method_12_code 26 = .ok (.aload_n 0, 1) := by decide +kernel
theorem d5_27 : decode prog_23_method_12_code 27 = .ok (.getfield 11, 3) := by decide +kernel
theorem d5_30 : decode prog_23_method_12_code 30 = .ok (.iload_n 1, 1) := by decide +kernel
theorem d5_31 : decode prog_23_method_12_code 31 = .ok (.aaload, 1) := by decide +kernel
theorem d5_32 : decode prog_23_method_12_code 32 = .ok (.astore_n 3, 1) := by decide +kernel
theorem d5_33 : decode prog_23_method_12_code 33 = .ok (.aload_n 3, 1) := by decide +kernel
theorem d5_34 : decode prog_23_method_12_code 34 = .ok (.ifnonnull 18, 3) := by decide +kernel
theorem d5_52 : decode prog_23_method_12_code 52 = .ok (.aload_n 3, 1) := by decide +kernel
theorem d5_53 : decode prog_23_method_12_code 53 = .ok (.arraylength, 1) := by decide +kernel
theorem d5_54 : decode prog_23_method_12_code 54 = .ok (.iload_n 2, 1) := by decide +kernel
theorem d5_55 : decode prog_23_method_12_code 55 = .ok (.if_icmp .ge 28, 3) := by decide +kernel
theorem d5_58 : decode prog_23_method_12_code 58 = .ok (.aload_n 3, 1) := by decide +kernel
theorem d5_59 : decode prog_23_method_12_code 59 = .ok (.ldc 89, 2) := by decide +kernel
theorem d5_61 : decode prog_23_method_12_code 61 = .ok (.iload_n 2, 1) := by decide +kernel
theorem d5_62 : decode prog_23_method_12_code 62 = .ok (.iconst 2, 1) := by decide +kernel
theorem d5_63 : decode prog_23_method_12_code 63 = .ok (.aload_n 3, 1) := by decide +kernel
theorem d5_64 : decode prog_23_method_12_code 64 = .ok (.arraylength, 1) := by decide +kernel
theorem d5_65 : decode prog_23_method_12_code 65 = .ok (.imul, 1) := by decide +kernel
theorem d5_66 : decode prog_23_method_12_code 66 = .ok (.invokestatic 109, 3) := by decide +kernel
theorem d5_69 : decode prog_23_method_12_code 69 = .ok (.invokestatic 90, 3) := by decide +kernel
theorem d5_72 : decode prog_23_method_12_code 72 = .ok (.invokestatic 112, 3) := by decide +kernel
theorem d5_75 : decode prog_23_method_12_code 75 = .ok (.astore_n 3, 1) := by decide +kernel
theorem d5_76 : decode prog_23_method_12_code 76 = .ok (.aload_n 0, 1) := by decide +kernel
theorem d5_77 : decode prog_23_method_12_code 77 = .ok (.getfield 11, 3) := by decide +kernel
theorem d5_80 : decode prog_23_method_12_code 80 = .ok (.iload_n 1, 1) := by decide +kernel
theorem d5_81 : decode prog_23_method_12_code 81 = .ok (.aload_n 3, 1) := by decide +kernel
theorem d5_82 : decode prog_23_method_12_code 82 = .ok (.aastore, 1) := by decide +kernel
theorem d5_83 : decode prog_23_method_12_code 83 = .ok (.aload_n 3, 1) := by decide +kernel
theorem d5_84 : decode prog_23_method_12_code 84 = .ok (.areturn, 1) := by decide +kernel
theorem ef_5_RII (m : MethodId) (x0 : Addr) (x1 : Int32) (x2 : Int32) : entryFrame m #[(.ref x0), (.int x1), (.int x2)] 4 = mkF m 0 #[.val (.ref x0), .val (.int x1), .val (.int x2), .unset] [] := by first | (simp [entryFrame, mkF, argsToLocals, Value.category]; done) | rfl
def Q_rmR1 (Z : State) (x0 : Addr) (x1 : Int32) (x2 : Int32) (ch : Addr) (kc : ClassId) (by_ : Addr) (kb : ClassId) (nb : Int32) (vb : List Value) (db : Value) (h0 : Heap) (n0 : Nat) (v : Option Value) (h : Heap) (L : List Loc) : Prop := ∃ bz : Addr, ∃ kz : ClassId, ∃ nz : Int32, ∃ vz : List Value, ∃ dz : Value, v = some (.ref bz) ∧ Fr n0 L ∧ Keep h0 h [ch] ∧ (bz = by_ ∨ h0.size ≤ bz) ∧ x2.toInt ≤ nz.toInt ∧ n0 ≤ bz ∧ Fld Z h x0 "com/example/link_importance/linkimportance/graph/NameList" "chunks" "[[B" (.ref ch) ∧ Arv Z h ch kc (.array .byte) (1 : Int32) [(.ref bz)] .null ∧ Arv Z h bz kz .byte nz vz dz
set_option maxRecDepth 65536 in
set_option maxHeartbeats 40000000 in
theorem rmR1 (l : Launch) (Z : State) (a0 : Array Value) (hw : ∀ d ∈ tables_1, d.before a0 Z = true) (ws : List Jvm.Cond) (x0 : Addr) (x1 : Int32) (x2 : Int32) (ch : Addr) (kc : ClassId) (by_ : Addr) (kb : ClassId) (nb : Int32) (vb : List Value) (db : Value) (h0 : Heap) (n0 : Nat) (Z0 : n0 ≤ h0.size) (p_0 : x1 = (0 : Int32)) (p_1 : Fld Z h0 x0 "com/example/link_importance/linkimportance/graph/NameList" "chunks" "[[B" (.ref ch)) (p_2 : Arv Z h0 ch kc (.array .byte) (1 : Int32) [(.ref by_)] .null) (p_3 : Arv Z h0 by_ kb .byte nb vb db) (p_4 : OvrA Z kc .byte "[B") (p_5 : 0 ≤ nb.toInt) (p_6 : 0 ≤ x2.toInt ∧ x2.toInt ≤ 1023) (p_7 : n0 ≤ ch) (p_8 : n0 ≤ by_) (p_9 : by_ ≠ ch) (p_10 : x0 ≠ ch) :
    MetFree l (⟨"com/example/link_importance/linkimportance/graph/NameList", "room", "(II)[B"⟩ : MethodName) (head1 (Jvm.Cond.code (⟨"com/example/link_importance/linkimportance/graph/NameList", "room", "(II)[B"⟩ : MethodName) prog_23_method_12_code 4 (some (.array .byte)) :: ws) ({ frames := 2, cells := 1, slots := 2046, locals := 32 } : Room)) (fun a U => a = #[(.ref x0), (.int x1), (.int x2)] ∧ Z.Warmed39 U.vm ∧ U.heap = h0) (fun _ _ _ _ _ => True) (fun _ U o U' => ∃ v L, o = .returned v ∧ Q_rmR1 Z x0 x1 x2 ch kc by_ kb nb vb db h0 n0 v U'.heap L ∧ FrameEnd U o U' L ({ frames := 2, cells := 1, slots := 2046, locals := 32 } : Room).cells ({ frames := 2, cells := 1, slots := 2046, locals := 32 } : Room).slots) := by
  refine MetFree.of_bodySF (plainFor_of_name pn_0) hisR ?_
  intro p e s m args below meth c s₁ Bd hml0 hP hK
  obtain ⟨rfl, hZ, hh⟩ := hP
  have hx := Bd.exec
  have hby := Bd.bytes
  have hml : c.maxLocals = 4 := hml0
  have hown : s.vm.findClass "com/example/link_importance/linkimportance/graph/NameList" = some m.cls := findClass_of_methodNamed Bd.named
  have hnm := (name_of_methodNamed Bd.named Bd.method).1
  have X0 : Stand p l e ({ frames := 2, cells := 1, slots := 2046, locals := 32 } : Room) s m #[(.ref x0), (.int x1), (.int x2)] below meth c s₁ [] 0 0 := Stand.of_body Bd
  have e0 : s₁.heap = h0 := by rw [← hh, Bd.state]; rfl
  have N0 := Fr.nil n0
  show own_Ends p e below s ({ frames := 2, cells := 1, slots := 2046, locals := 32 } : Room).cells ({ frames := 2, cells := 1, slots := 2046, locals := 32 } : Room).slots (Q_rmR1 Z x0 x1 x2 ch kc by_ kb nb vb db h0 n0) (s₁.setTop (entryFrame m #[(.ref x0), (.int x1), (.int x2)] 4))
  rw [ef_5_RII]
  subst p_0
  refine own_step (st' := s₁.setTop (mkF m 1 #[.val (.ref x0), .val (.int (0 : Int32)), .val (.int x2), .unset] [(.int (0 : Int32))])) (fun t k => XS.iloadN X0.here hx rfl (hb hby d5_0) rfl k) ?_
  refine own_step (st' := s₁.setTop (mkF m 2 #[.val (.ref x0), .val (.int (0 : Int32)), .val (.int x2), .unset] [(.ref x0), (.int (0 : Int32))])) (fun t k => XS.aloadN X0.here hx rfl (hb hby d5_1) rfl rfl k) ?_
  obtain ⟨T1, X1, e1, st1⟩ := getF X0 hx hZ hown (host := "") (Or.inl (hw _ (List.mem_of_getElem? (i := 13) rfl))) Via.refl e0 p_1 (g := (mkF m 2 #[.val (.ref x0), .val (.int (0 : Int32)), .val (.int x2), .unset] [(.ref x0), (.int (0 : Int32))])) rfl rfl (hb hby d5_2)
  refine own_step (st' := T1.setTop (mkF m 5 #[.val (.ref x0), .val (.int (0 : Int32)), .val (.int x2), .unset] [(.ref ch), (.int (0 : Int32))])) st1 ?_
  refine own_step (st' := T1.setTop (mkF m 6 #[.val (.ref x0), .val (.int (0 : Int32)), .val (.int x2), .unset] [(.int (1 : Int32)), (.int (0 : Int32))])) (fun t k => own_len X1 hx hZ e1 p_2 (g := (mkF m 5 #[.val (.ref x0), .val (.int (0 : Int32)), .val (.int x2), .unset] [(.ref ch), (.int (0 : Int32))])) rfl rfl (hb hby d5_5) t k) ?_
  refine own_step (st' := T1.setTop (mkF m 26 #[.val (.ref x0), .val (.int (0 : Int32)), .val (.int x2), .unset] [])) (fun t k => XS.icmpYes X1.here hx rfl (pc0 := 6) (pc' := 26) rfl (hb hby d5_6) rfl (feq (by decide)).2 (by decide) (by decide) k) ?_
  refine own_step (st' := T1.setTop (mkF m 27 #[.val (.ref x0), .val (.int (0 : Int32)), .val (.int x2), .unset] [(.ref x0)])) (fun t k => XS.aloadN X1.here hx rfl (hb hby d5_26) rfl rfl k) ?_
  obtain ⟨T2, X2, e2, st2⟩ := getF X1 hx hZ hown (host := "") (Or.inl (hw _ (List.mem_of_getElem? (i := 13) rfl))) Via.refl e1 p_1 (g := (mkF m 27 #[.val (.ref x0), .val (.int (0 : Int32)), .val (.int x2), .unset] [(.ref x0)])) rfl rfl (hb hby d5_27)
  refine own_step (st' := T2.setTop (mkF m 30 #[.val (.ref x0), .val (.int (0 : Int32)), .val (.int x2), .unset] [(.ref ch)])) st2 ?_
  refine own_step (st' := T2.setTop (mkF m 31 #[.val (.ref x0), .val (.int (0 : Int32)), .val (.int x2), .unset] [(.int (0 : Int32)), (.ref ch)])) (fun t k => XS.iloadN X2.here hx rfl (hb hby d5_30) rfl k) ?_
  refine own_step (st' := T2.setTop (mkF m 32 #[.val (.ref x0), .val (.int (0 : Int32)), .val (.int x2), .unset] [(.ref by_)])) (fun t k => own_ldR X2 hx hZ e2 p_2 rfl (j := (0 : Int32)) (v := (.ref by_)) ⟨by decide, by decide⟩ rfl (g := (mkF m 31 #[.val (.ref x0), .val (.int (0 : Int32)), .val (.int x2), .unset] [(.int (0 : Int32)), (.ref ch)])) rfl rfl (hb hby d5_31) t k) ?_
  refine own_step (st' := T2.setTop (mkF m 33 #[.val (.ref x0), .val (.int (0 : Int32)), .val (.int x2), .val (.ref by_)] [])) (fun t k => XS.astoreN X2.here hx rfl (hb hby d5_32) rfl rfl (l' := #[.val (.ref x0), .val (.int (0 : Int32)), .val (.int x2), .val (.ref by_)]) rfl k) ?_
  refine own_step (st' := T2.setTop (mkF m 34 #[.val (.ref x0), .val (.int (0 : Int32)), .val (.int x2), .val (.ref by_)] [(.ref by_)])) (fun t k => XS.aloadN X2.here hx rfl (hb hby d5_33) rfl rfl k) ?_
  refine own_step (st' := T2.setTop (mkF m 52 #[.val (.ref x0), .val (.int (0 : Int32)), .val (.int x2), .val (.ref by_)] [])) (fun t k => XS.ifnonnullYes X2.here hx rfl (pc0 := 34) (pc' := 52) rfl (hb hby d5_34) rfl (by decide) (by decide) k) ?_
  refine own_step (st' := T2.setTop (mkF m 53 #[.val (.ref x0), .val (.int (0 : Int32)), .val (.int x2), .val (.ref by_)] [(.ref by_)])) (fun t k => XS.aloadN X2.here hx rfl (hb hby d5_52) rfl rfl k) ?_
  refine own_step (st' := T2.setTop (mkF m 54 #[.val (.ref x0), .val (.int (0 : Int32)), .val (.int x2), .val (.ref by_)] [(.int nb)])) (fun t k => own_len X2 hx hZ e2 p_3 (g := (mkF m 53 #[.val (.ref x0), .val (.int (0 : Int32)), .val (.int x2), .val (.ref by_)] [(.ref by_)])) rfl rfl (hb hby d5_53) t k) ?_
  refine own_step (st' := T2.setTop (mkF m 55 #[.val (.ref x0), .val (.int (0 : Int32)), .val (.int x2), .val (.ref by_)] [(.int x2), (.int nb)])) (fun t k => XS.iloadN X2.here hx rfl (hb hby d5_54) rfl k) ?_
  by_cases hc3 : nb < x2
  · refine own_step (st' := T2.setTop (mkF m 58 #[.val (.ref x0), .val (.int (0 : Int32)), .val (.int x2), .val (.ref by_)] [])) (fun t k => XS.icmpNo X2.here hx rfl (hb hby d5_55) rfl (tlt hc3).2.1 k) ?_
    refine own_step (st' := T2.setTop (mkF m 59 #[.val (.ref x0), .val (.int (0 : Int32)), .val (.int x2), .val (.ref by_)] [(.ref by_)])) (fun t k => XS.aloadN X2.here hx rfl (hb hby d5_58) rfl rfl k) ?_
    refine own_step (st' := T2.setTop (mkF m 61 #[.val (.ref x0), .val (.int (0 : Int32)), .val (.int x2), .val (.ref by_)] [(.int (65536 : Int32)), (.ref by_)])) (fun t k => X2.ldcInt hx hown (mvT hZ (hw _ (List.mem_of_getElem? (i := 28) rfl))) (g := (mkF m 59 #[.val (.ref x0), .val (.int (0 : Int32)), .val (.int x2), .val (.ref by_)] [(.ref by_)])) rfl (hb hby d5_59) t k) ?_
    refine own_step (st' := T2.setTop (mkF m 62 #[.val (.ref x0), .val (.int (0 : Int32)), .val (.int x2), .val (.ref by_)] [(.int x2), (.int (65536 : Int32)), (.ref by_)])) (fun t k => XS.iloadN X2.here hx rfl (hb hby d5_61) rfl k) ?_
    refine own_step (st' := T2.setTop (mkF m 63 #[.val (.ref x0), .val (.int (0 : Int32)), .val (.int x2), .val (.ref by_)] [(.int (2 : Int32)), (.int x2), (.int (65536 : Int32)), (.ref by_)])) (fun t k => XS.iconst X2.here hx rfl (hb hby d5_62) k) ?_
    refine own_step (st' := T2.setTop (mkF m 64 #[.val (.ref x0), .val (.int (0 : Int32)), .val (.int x2), .val (.ref by_)] [(.ref by_), (.int (2 : Int32)), (.int x2), (.int (65536 : Int32)), (.ref by_)])) (fun t k => XS.aloadN X2.here hx rfl (hb hby d5_63) rfl rfl k) ?_
    refine own_step (st' := T2.setTop (mkF m 65 #[.val (.ref x0), .val (.int (0 : Int32)), .val (.int x2), .val (.ref by_)] [(.int nb), (.int (2 : Int32)), (.int x2), (.int (65536 : Int32)), (.ref by_)])) (fun t k => own_len X2 hx hZ e2 p_3 (g := (mkF m 64 #[.val (.ref x0), .val (.int (0 : Int32)), .val (.int x2), .val (.ref by_)] [(.ref by_), (.int (2 : Int32)), (.int x2), (.int (65536 : Int32)), (.ref by_)])) rfl rfl (hb hby d5_64) t k) ?_
    refine own_step (st' := T2.setTop (mkF m 66 #[.val (.ref x0), .val (.int (0 : Int32)), .val (.int x2), .val (.ref by_)] [(.int ((2 : Int32) * nb)), (.int x2), (.int (65536 : Int32)), (.ref by_)])) (fun t k => XS.imul X2.here hx rfl (hb hby d5_65) rfl k) ?_
    obtain ⟨_, _, ⟨T4, L4, k4, n4⟩, -, X4, ⟨Lc4, hQ4, l4, y4, z4⟩, st4⟩ := Jvm.LawKit.callS X2 hx (y := (⟨"java/lang/Math", "max", "(II)I"⟩ : MethodName)) hown (mvT hZ (hw _ (List.mem_of_getElem? (i := 46) rfl))) (mvT hZ (hw _ (List.mem_of_getElem? (i := 47) rfl))) (mvT hZ (hw _ (List.mem_of_getElem? (i := 31) rfl))) (mvT hZ (hw _ (List.mem_of_getElem? (i := 48) rfl))) (by decide) (backOf (W := 2) (rm7 l Z a0 hw [] x2 ((2 : Int32) * nb) h0 n0 Z0) hZ (hw _ (List.mem_of_getElem? (i := 48) rfl)) (hw _ (List.mem_of_getElem? (i := 31) rfl)) (by decide) (by decide)) (g := (mkF m 66 #[.val (.ref x0), .val (.int (0 : Int32)), .val (.int x2), .val (.ref by_)] [(.int ((2 : Int32) * nb)), (.int x2), (.int (65536 : Int32)), (.ref by_)])) rfl (by rw [hml]; rfl) (argsL := [(.int x2), (.int ((2 : Int32) * nb))]) (rest := [(.int (65536 : Int32)), (.ref by_)]) (lenOf pd_3 rfl) rfl (by show 2 * 0 + _ ≤ _; exact Nat.le_of_eq rfl) (hb hby d5_66) (fun _ _ => ⟨rfl, e2, (by decide : 0 + 0 ≤ _), (by decide : 0 + 0 ≤ _)⟩)
    dsimp only [Pt.U, Pt.locs, Pt.cells, Pt.slots] at X4 l4 y4 z4 st4 hQ4
    subst l4 y4 z4
    obtain ⟨rfl, N4q, e4⟩ := hQ4
    have N4 := Fr.app N0 N4q
    refine own_step (st' := T4.setTop (mkF m 69 #[.val (.ref x0), .val (.int (0 : Int32)), .val (.int x2), .val (.ref by_)] [(.int (if x2 < ((2 : Int32) * nb) then ((2 : Int32) * nb) else x2)), (.int (65536 : Int32)), (.ref by_)])) st4 ?_
    obtain ⟨_, _, ⟨T5, L5, k5, n5⟩, -, X5, ⟨Lc5, hQ5, l5, y5, z5⟩, st5⟩ := Jvm.LawKit.callS X4 hx (y := (⟨"java/lang/Math", "min", "(II)I"⟩ : MethodName)) hown (mvT hZ (hw _ (List.mem_of_getElem? (i := 29) rfl))) (mvT hZ (hw _ (List.mem_of_getElem? (i := 30) rfl))) (mvT hZ (hw _ (List.mem_of_getElem? (i := 31) rfl))) (mvT hZ (hw _ (List.mem_of_getElem? (i := 32) rfl))) (by decide) (backOf (W := 1) (rm4 l Z a0 hw [] (65536 : Int32) (if x2 < ((2 : Int32) * nb) then ((2 : Int32) * nb) else x2) h0 n0 Z0) hZ (hw _ (List.mem_of_getElem? (i := 32) rfl)) (hw _ (List.mem_of_getElem? (i := 31) rfl)) (by decide) (by decide)) (g := (mkF m 69 #[.val (.ref x0), .val (.int (0 : Int32)), .val (.int x2), .val (.ref by_)] [(.int (if x2 < ((2 : Int32) * nb) then ((2 : Int32) * nb) else x2)), (.int (65536 : Int32)), (.ref by_)])) rfl (by rw [hml]; rfl) (argsL := [(.int (65536 : Int32)), (.int (if x2 < ((2 : Int32) * nb) then ((2 : Int32) * nb) else x2))]) (rest := [(.ref by_)]) (lenOf pd_3 rfl) rfl (by show 2 * 0 + _ ≤ _; exact Nat.le_of_eq rfl) (hb hby d5_69) (fun _ _ => ⟨rfl, e4, (by decide : 0 + 0 ≤ _), (by decide : 0 + 0 ≤ _)⟩)
    dsimp only [Pt.U, Pt.locs, Pt.cells, Pt.slots] at X5 l5 y5 z5 st5 hQ5
    subst l5 y5 z5
    obtain ⟨rfl, N5q, e5⟩ := hQ5
    have N5 := Fr.app N4 N5q
    refine own_step (st' := T5.setTop (mkF m 72 #[.val (.ref x0), .val (.int (0 : Int32)), .val (.int x2), .val (.ref by_)] [(.int (if (if x2 < ((2 : Int32) * nb) then ((2 : Int32) * nb) else x2) < (65536 : Int32) then (if x2 < ((2 : Int32) * nb) then ((2 : Int32) * nb) else x2) else (65536 : Int32))), (.ref by_)])) st5 ?_
    obtain ⟨mm, hmm0⟩ : ∃ q : Int32, q = (if (if x2 < ((2 : Int32) * nb) then ((2 : Int32) * nb) else x2) < (65536 : Int32) then (if x2 < ((2 : Int32) * nb) then ((2 : Int32) * nb) else x2) else (65536 : Int32)) := ⟨_, rfl⟩
    rw [← hmm0]
    have hmm : nb.toInt < mm.toInt ∧ x2.toInt ≤ mm.toInt ∧ mm.toInt ≤ 2046 := by
      have hlt : nb.toInt < x2.toInt := by have := hc3; rw [Int32.lt_iff_toInt_lt] at this; exact this
      have d2 : ((2 : Int32) * nb).toInt = 2 * nb.toInt := by
        have q1 := c_imul 2 nb
        have q2 := rng32 ((2 : Int32) * nb)
        have q3 : (2 : Int32).toInt = 2 := by decide
        rw [q3] at q1
        omega
      have d3 : (65536 : Int32).toInt = 65536 := by decide
      rw [hmm0]
      split <;> split <;> rename_i u v <;> rw [Int32.lt_iff_toInt_lt] at u v <;> omega
    obtain ⟨_, _, ⟨T6, L6, k6, n6⟩, -, X6, ⟨Lc6, hQ6, l6, y6, z6⟩, st6⟩ := Jvm.LawKit.callS X5 hx (y := (⟨"java/util/Arrays", "copyOf", "([BI)[B"⟩ : MethodName)) hown (mvT hZ (hw _ (List.mem_of_getElem? (i := 49) rfl))) (mvT hZ (hw _ (List.mem_of_getElem? (i := 50) rfl))) (mvT hZ (hw _ (List.mem_of_getElem? (i := 51) rfl))) (mvT hZ (hw _ (List.mem_of_getElem? (i := 52) rfl))) (by decide) (backOf (W := 0) (rmC1 l Z a0 hw [] by_ mm kb nb vb db h0 n0 Z0 p_3 p_5 hmm.1 hmm.2.2) hZ (hw _ (List.mem_of_getElem? (i := 52) rfl)) (hw _ (List.mem_of_getElem? (i := 51) rfl)) (by decide) (by decide)) (g := (mkF m 72 #[.val (.ref x0), .val (.int (0 : Int32)), .val (.int x2), .val (.ref by_)] [(.int mm), (.ref by_)])) rfl (by rw [hml]; rfl) (argsL := [(.ref by_), (.int mm)]) (rest := []) (lenOf pd_7 rfl) rfl (by show 2 * 0 + _ ≤ _; exact Nat.le_of_eq rfl) (hb hby d5_72) (fun _ _ => ⟨rfl, e5, (by decide : 0 + 1 ≤ _), (by decide : 0 + 2046 ≤ _)⟩)
    dsimp only [Pt.U, Pt.locs, Pt.cells, Pt.slots] at X6 l6 y6 z6 st6 hQ6
    subst l6 y6 z6
    obtain ⟨b_6, kb_6, vb_6, rfl, N6q, K6, pq6_0, pq6_1, pq6_2⟩ := hQ6
    have N6 := Fr.app N5 N6q
    obtain ⟨h6, e6⟩ : ∃ z, T6.heap = z := ⟨_, rfl⟩
    rw [e6] at K6 pq6_1 pq6_2
    have ne7 : x0 ≠ b_6 := Nat.ne_of_lt (Nat.lt_of_lt_of_le p_1.lt pq6_0)
    have ne8 : ch ≠ b_6 := Nat.ne_of_lt (Nat.lt_of_lt_of_le p_2.lt pq6_0)
    have ne9 : by_ ≠ b_6 := Nat.ne_of_lt (Nat.lt_of_lt_of_le p_3.lt pq6_0)
    have g_b_6 : n0 ≤ b_6 := Nat.le_trans Z0 pq6_0
    have sz_b_6 : h0.size ≤ b_6 := Nat.le_trans (Keep.refl h0 [ch]).1 pq6_0
    have f10 := p_1.keep K6 nin0
    have f11 := p_2.keep K6 nin0
    have f12 := p_3.keep K6 nin0
    have K13 : Keep h0 h6 [ch] := (Keep.refl h0 [ch]).trans K6 all0
    have Z14 : n0 ≤ h6.size := Nat.le_trans Z0 K6.1
    refine own_step (st' := T6.setTop (mkF m 75 #[.val (.ref x0), .val (.int (0 : Int32)), .val (.int x2), .val (.ref by_)] [(.ref b_6)])) st6 ?_
    refine own_step (st' := T6.setTop (mkF m 76 #[.val (.ref x0), .val (.int (0 : Int32)), .val (.int x2), .val (.ref b_6)] [])) (fun t k => XS.astoreN X6.here hx rfl (hb hby d5_75) rfl rfl (l' := #[.val (.ref x0), .val (.int (0 : Int32)), .val (.int x2), .val (.ref b_6)]) rfl k) ?_
    refine own_step (st' := T6.setTop (mkF m 77 #[.val (.ref x0), .val (.int (0 : Int32)), .val (.int x2), .val (.ref b_6)] [(.ref x0)])) (fun t k => XS.aloadN X6.here hx rfl (hb hby d5_76) rfl rfl k) ?_
    obtain ⟨T15, X15, e15, st15⟩ := getF X6 hx hZ hown (host := "") (Or.inl (hw _ (List.mem_of_getElem? (i := 13) rfl))) Via.refl e6 f10 (g := (mkF m 77 #[.val (.ref x0), .val (.int (0 : Int32)), .val (.int x2), .val (.ref b_6)] [(.ref x0)])) rfl rfl (hb hby d5_77)
    refine own_step (st' := T15.setTop (mkF m 80 #[.val (.ref x0), .val (.int (0 : Int32)), .val (.int x2), .val (.ref b_6)] [(.ref ch)])) st15 ?_
    refine own_step (st' := T15.setTop (mkF m 81 #[.val (.ref x0), .val (.int (0 : Int32)), .val (.int x2), .val (.ref b_6)] [(.int (0 : Int32)), (.ref ch)])) (fun t k => XS.iloadN X15.here hx rfl (hb hby d5_80) rfl k) ?_
    refine own_step (st' := T15.setTop (mkF m 82 #[.val (.ref x0), .val (.int (0 : Int32)), .val (.int x2), .val (.ref b_6)] [(.ref b_6), (.int (0 : Int32)), (.ref ch)])) (fun t k => XS.aloadN X15.here hx rfl (hb hby d5_81) rfl rfl k) ?_
    obtain ⟨T16, h16, X16, e16, W16, V16, st16⟩ := own_stR X15 hx hZ e15 f11 rfl (j := (0 : Int32)) (i := 0) (own_stoA f11 p_4 (Ins.self pq6_1)) rfl ⟨by decide, by decide⟩ rfl (Nat.le_of_ble_eq_true rfl) (g := (mkF m 82 #[.val (.ref x0), .val (.int (0 : Int32)), .val (.int x2), .val (.ref b_6)] [(.ref b_6), (.int (0 : Int32)), (.ref ch)])) rfl rfl (hb hby d5_82)
    have V16 : Arv Z h16 ch kc (.array .byte) (1 : Int32) [(.ref b_6)] .null := V16
    have f17 := f10.other W16 (Or.inl p_10)
    have f18 := f12.other W16 p_9
    have f19 := pq6_1.wr W16
    have f20 := pq6_2.other W16 (Ne.symm ne8)
    have K21 : Keep h0 h16 [ch] := K13.wr W16 (Or.inl (List.mem_of_getElem? (i := 0) rfl))
    have Z22 : n0 ≤ h16.size := Nat.le_trans Z14 (Keep.of_wr W16).1
    have N23 := Fr.snoc X16 N6 p_7
    refine own_step (st' := T16.setTop (mkF m 83 #[.val (.ref x0), .val (.int (0 : Int32)), .val (.int x2), .val (.ref b_6)] [])) st16 ?_
    refine own_step (st' := T16.setTop (mkF m 84 #[.val (.ref x0), .val (.int (0 : Int32)), .val (.int x2), .val (.ref b_6)] [(.ref b_6)])) (fun t k => XS.aloadN X16.here hx rfl (hb hby d5_83) rfl rfl k) ?_
    refine own_ret X16 Bd.notSynchronized (some (.ref b_6)) (fun h => by rw [Bd.returns] at h; cases h) (fun fs hr => retOut X16 hx Bd.returns rfl (Or.inr (Or.inr (Or.inr (Or.inr ⟨rfl, rfl, rfl⟩)))) (hb hby d5_84) hr) ?_ (by decide) (by decide)
    rw [e16]
    exact ⟨b_6, kb_6, mm, vb_6, (.int (0 : Int32)), rfl, N23, K21, (Or.inr sz_b_6), hmm.2.1, g_b_6, f17, V16, f20⟩
  · refine own_step (st' := T2.setTop (mkF m 83 #[.val (.ref x0), .val (.int (0 : Int32)), .val (.int x2), .val (.ref by_)] [])) (fun t k => XS.icmpYes X2.here hx rfl (pc0 := 55) (pc' := 83) rfl (hb hby d5_55) rfl (flt hc3).2.1 (by decide) (by decide) k) ?_
    refine own_step (st' := T2.setTop (mkF m 84 #[.val (.ref x0), .val (.int (0 : Int32)), .val (.int x2), .val (.ref by_)] [(.ref by_)])) (fun t k => XS.aloadN X2.here hx rfl (hb hby d5_83) rfl rfl k) ?_
    refine own_ret X2 Bd.notSynchronized (some (.ref by_)) (fun h => by rw [Bd.returns] at h; cases h) (fun fs hr => retOut X2 hx Bd.returns rfl (Or.inr (Or.inr (Or.inr (Or.inr ⟨rfl, rfl, rfl⟩)))) (hb hby d5_84) hr) ?_ (by decide) (by decide)
    rw [e2]
    exact ⟨by_, kb, nb, vb, db, rfl, N0, (Keep.refl h0 [ch]), (Or.inl rfl), (by rw [Int32.lt_iff_toInt_lt] at hc3; omega), p_8, p_1, p_2, p_3⟩
theorem d3_0 : decode prog_23_method_9_code 0 = .ok (.aload_n 0, 1) := by decide +kernel
theorem d3_1 : decode prog_23_method_9_code 1 = .ok (.getfield 31, 3) := by decide +kernel
theorem d3_4 : decode prog_23_method_9_code 4 = .ok (.aload_n 0, 1) := by decide +kernel
theorem d3_5 : decode prog_23_method_9_code 5 = .ok (.getfield 19, 3) := by decide +kernel
theorem d3_8 : decode prog_23_method_9_code 8 = .ok (.if_icmp .ne 20, 3) := by decide +kernel
theorem d3_28 : decode prog_23_method_9_code 28 = .ok (.aload_n 0, 1) := by decide +kernel
theorem d3_29 : decode prog_23_method_9_code 29 = .ok (.getfield 31, 3) := by decide +kernel
theorem d3_32 : decode prog_23_method_9_code 32 = .ok (.iconst 1, 1) := by decide +kernel
theorem d3_33 : decode prog_23_method_9_code 33 = .ok (.iadd, 1) := by decide +kernel
theorem d3_34 : decode prog_23_method_9_code 34 = .ok (.aload_n 0, 1) := by decide +kernel
theorem d3_35 : decode prog_23_method_9_code 35 = .ok (.getfield 15, 3) := by decide +kernel
theorem d3_38 : decode prog_23_method_9_code 38 = .ok (.arraylength, 1) := by decide +kernel
theorem d3_39 : decode prog_23_method_9_code 39 = .ok (.if_icmp .ne 35, 3) := by decide +kernel
theorem d3_74 : decode prog_23_method_9_code 74 = .ok (.aload_n 0, 1) := by decide +kernel
theorem d3_75 : decode prog_23_method_9_code 75 = .ok (.getfield 15, 3) := by decide +kernel
theorem d3_78 : decode prog_23_method_9_code 78 = .ok (.aload_n 0, 1) := by decide +kernel
theorem d3_79 : decode prog_23_method_9_code 79 = .ok (.getfield 31, 3) := by decide +kernel
theorem d3_82 : decode prog_23_method_9_code 82 = .ok (.laload, 1) := by decide +kernel
theorem d3_83 : decode prog_23_method_9_code 83 = .ok (.lstore 4, 2) := by decide +kernel
theorem d3_85 : decode prog_23_method_9_code 85 = .ok (.iload_n 2, 1) := by decide +kernel
theorem d3_86 : decode prog_23_method_9_code 86 = .ok (.istore 6, 2) := by decide +kernel
theorem d3_88 : decode prog_23_method_9_code 88 = .ok (.iload 6, 2) := by decide +kernel
theorem d3_90 : decode prog_23_method_9_code 90 = .ok (.iload_n 3, 1) := by decide +kernel
theorem d3_91 : decode prog_23_method_9_code 91 = .ok (.if_icmp .ge 73, 3) := by decide +kernel
theorem d3_94 : decode prog_23_method_9_code 94 = .ok (.lload 4, 2) := by decide +kernel
theorem d3_96 : decode prog_23_method_9_code 96 = .ok (.ldc2_w 87, 3) := by decide +kernel
theorem d3_99 : decode prog_23_method_9_code 99 = .ok (.land, 1) := by decide +kernel
theorem d3_100 : decode prog_23_method_9_code 100 = .ok (.l2i, 1) := by decide +kernel
theorem d3_101 : decode prog_23_method_9_code 101 = .ok (.istore 7, 2) := by decide +kernel
theorem d3_103 : decode prog_23_method_9_code 103 = .ok (.iload_n 3, 1) := by decide +kernel
theorem d3_104 : decode prog_23_method_9_code 104 = .ok (.iload 6, 2) := by decide +kernel
theorem d3_106 : decode prog_23_method_9_code 106 = .ok (.isub, 1) := by decide +kernel
theorem d3_107 : decode prog_23_method_9_code 107 = .ok (.ldc 89, 2) := by decide +kernel
theorem d3_109 : decode prog_23_method_9_code 109 = .ok (.iload 7, 2) := by decide +kernel
theorem d3_111 : decode prog_23_method_9_code 111 = .ok (.isub, 1) := by decide +kernel
theorem d3_112 : decode prog_23_method_9_code 112 = .ok (.invokestatic 90, 3) := by decide +kernel
theorem d3_115 : decode prog_23_method_9_code 115 = .ok (.istore 8, 2) := by decide +kernel
theorem d3_117 : decode prog_23_method_9_code 117 = .ok (.aload_n 0, 1) := by decide +kernel
theorem d3_118 : decode prog_23_method_9_code 118 = .ok (.lload 4, 2) := by decide +kernel
theorem d3_120 : decode prog_23_method_9_code 120 = .ok (.bipush 16, 2) := by decide +kernel
theorem d3_122 : decode prog_23_method_9_code 122 = .ok (.lushr, 1) := by decide +kernel
theorem d3_123 : decode prog_23_method_9_code 123 = .ok (.l2i, 1) := by decide +kernel
theorem d3_124 : decode prog_23_method_9_code 124 = .ok (.iload 7, 2) := by decide +kernel
theorem d3_126 : decode prog_23_method_9_code 126 = .ok (.iload 8, 2) := by decide +kernel
theorem d3_128 : decode prog_23_method_9_code 128 = .ok (.iadd, 1) := by decide +kernel
theorem d3_129 : decode prog_23_method_9_code 129 = .ok (.invokevirtual 93, 3) := by decide +kernel
theorem d3_132 : decode prog_23_method_9_code 132 = .ok (.astore 9, 2) := by decide +kernel
theorem d3_134 : decode prog_23_method_9_code 134 = .ok (.aload_n 1, 1) := by decide +kernel
theorem d3_135 : decode prog_23_method_9_code 135 = .ok (.iload 6, 2) := by decide +kernel
theorem d3_137 : decode prog_23_method_9_code 137 = .ok (.aload 9, 2) := by decide +kernel
theorem d3_139 : decode prog_23_method_9_code 139 = .ok (.iload 7, 2) := by decide +kernel
theorem d3_141 : decode prog_23_method_9_code 141 = .ok (.iload 8, 2) := by decide +kernel
theorem d3_143 : decode prog_23_method_9_code 143 = .ok (.invokestatic 97, 3) := by decide +kernel
theorem d3_146 : decode prog_23_method_9_code 146 = .ok (.iload 6, 2) := by decide +kernel
theorem d3_148 : decode prog_23_method_9_code 148 = .ok (.iload 8, 2) := by decide +kernel
theorem d3_150 : decode prog_23_method_9_code 150 = .ok (.iadd, 1) := by decide +kernel
theorem d3_151 : decode prog_23_method_9_code 151 = .ok (.istore 6, 2) := by decide +kernel
theorem d3_153 : decode prog_23_method_9_code 153 = .ok (.lload 4, 2) := by decide +kernel
theorem d3_155 : decode prog_23_method_9_code 155 = .ok (.iload 8, 2) := by decide +kernel
theorem d3_157 : decode prog_23_method_9_code 157 = .ok (.i2l, 1) := by decide +kernel
theorem d3_158 : decode prog_23_method_9_code 158 = .ok (.ladd, 1) := by decide +kernel
theorem d3_159 : decode prog_23_method_9_code 159 = .ok (.lstore 4, 2) := by decide +kernel
theorem d3_161 : decode prog_23_method_9_code 161 = .ok (.goto (-73), 3) := by decide +kernel
theorem d3_164 : decode prog_23_method_9_code 164 = .ok (.aload_n 0, 1) := by decide +kernel
theorem d3_165 : decode prog_23_method_9_code 165 = .ok (.getfield 15, 3) := by decide +kernel
theorem d3_168 : decode prog_23_method_9_code 168 = .ok (.aload_n 0, 1) := by decide +kernel
theorem d3_169 : decode prog_23_method_9_code 169 = .ok (.getfield 31, 3) := by decide +kernel
theorem d3_172 : decode prog_23_method_9_code 172 = .ok (.iconst 1, 1) := by decide +kernel
theorem d3_173 : decode prog_23_method_9_code 173 = .ok (.iadd, 1) := by decide +kernel
theorem d3_174 : decode prog_23_method_9_code 174 = .ok (.lload 4, 2) := by decide +kernel
theorem d3_176 : decode prog_23_method_9_code 176 = .ok (.lastore, 1) := by decide +kernel
theorem d3_177 : decode prog_23_method_9_code 177 = .ok (.aload_n 0, 1) := by decide +kernel
theorem d3_178 : decode prog_23_method_9_code 178 = .ok (.dup, 1) := by decide +kernel
theorem d3_179 : decode prog_23_method_9_code 179 = .ok (.getfield 31, 3) := by decide +kernel
theorem d3_182 : decode prog_23_method_9_code 182 = .ok (.iconst 1, 1) := by decide +kernel
theorem d3_183 : decode prog_23_method_9_code 183 = .ok (.iadd, 1) := by decide +kernel
theorem d3_184 : decode prog_23_method_9_code 184 = .ok (.putfield 31, 3) := by decide +kernel
theorem d3_187 : decode prog_23_method_9_code 187 = .ok (.return_, 1) := by decide +kernel
theorem ef_3_RRII (m : MethodId) (x0 : Addr) (x1 : Addr) (x2 : Int32) (x3 : Int32) : entryFrame m #[(.ref x0), (.ref x1), (.int x2), (.int x3)] 10 = mkF m 0 #[.val (.ref x0), .val (.ref x1), .val (.int x2), .val (.int x3), .unset, .unset, .unset, .unset, .unset, .unset] [] := by first | (simp [entryFrame, mkF, argsToLocals, Value.category]; done) | rfl
def Q_rmA1 (Z : State) (x0 : Addr) (x1 : Addr) (x2 : Int32) (x3 : Int32) (n : Int32) (mx : Int32) (ch : Addr) (kc : ClassId) (by_ : Addr) (kb : ClassId) (nb : Int32) (vb : List Value) (db : Value) (stt : Addr) (ks : ClassId) (vss : List Value) (S : Int64) (kq : ClassId) (vq : List Value) (dq : Value) (h0 : Heap) (n0 : Nat) (v : Option Value) (h : Heap) (L : List Loc) : Prop := ∃ bz : Addr, ∃ kz : ClassId, ∃ nz : Int32, ∃ vz : List Value, ∃ dz : Value, v = none ∧ Fr n0 L ∧ Keep h0 h [x0, ch, by_, stt] ∧ n0 ≤ bz ∧ bz ≠ x0 ∧ bz ≠ x1 ∧ bz ≠ ch ∧ bz ≠ stt ∧ 0 ≤ nz.toInt ∧ Fld Z h x0 "com/example/link_importance/linkimportance/graph/NameList" "size" "I" (.int (n + (1 : Int32))) ∧ Fld Z h x0 "com/example/link_importance/linkimportance/graph/NameList" "maxNames" "I" (.int mx) ∧ Fld Z h x0 "com/example/link_importance/linkimportance/graph/NameList" "chunks" "[[B" (.ref ch) ∧ Fld Z h x0 "com/example/link_importance/linkimportance/graph/NameList" "starts" "[J" (.ref stt) ∧ Arv Z h ch kc (.array .byte) (1 : Int32) [(.ref bz)] .null ∧ Arv Z h bz kz .byte nz vz dz ∧ Arv Z h stt ks .long (16 : Int32) (vss.set (n + (1 : Int32)).toNatClampNeg (.long (S + (x3 - x2).toInt64))) (.long (0 : Int64))
set_option maxRecDepth 65536 in
set_option maxHeartbeats 40000000 in
theorem rmA1 (l : Launch) (Z : State) (a0 : Array Value) (hw : ∀ d ∈ tables_1, d.before a0 Z = true) (ws : List Jvm.Cond) (x0 : Addr) (x1 : Addr) (x2 : Int32) (x3 : Int32) (n : Int32) (mx : Int32) (ch : Addr) (kc : ClassId) (by_ : Addr) (kb : ClassId) (nb : Int32) (vb : List Value) (db : Value) (stt : Addr) (ks : ClassId) (vss : List Value) (S : Int64) (kq : ClassId) (vq : List Value) (dq : Value) (h0 : Heap) (n0 : Nat) (Z0 : n0 ≤ h0.size) (p_0 : Fld Z h0 x0 "com/example/link_importance/linkimportance/graph/NameList" "size" "I" (.int n)) (p_1 : Fld Z h0 x0 "com/example/link_importance/linkimportance/graph/NameList" "maxNames" "I" (.int mx)) (p_2 : Fld Z h0 x0 "com/example/link_importance/linkimportance/graph/NameList" "chunks" "[[B" (.ref ch)) (p_3 : Fld Z h0 x0 "com/example/link_importance/linkimportance/graph/NameList" "starts" "[J" (.ref stt)) (p_4 : Exa Z h0 x0 "com/example/link_importance/linkimportance/graph/NameList") (p_5 : n0 ≤ x0) (p_6 : n0 ≤ ch) (p_7 : n0 ≤ by_) (p_8 : n0 ≤ stt) (p_9 : Arv Z h0 ch kc (.array .byte) (1 : Int32) [(.ref by_)] .null) (p_10 : Arv Z h0 by_ kb .byte nb vb db) (p_11 : Arv Z h0 stt ks .long (16 : Int32) vss (.long (0 : Int64))) (p_12 : Arv Z h0 x1 kq .byte (2048 : Int32) vq dq) (p_13 : x0 ≠ x1) (p_14 : x0 ≠ ch) (p_15 : x0 ≠ by_) (p_16 : x0 ≠ stt) (p_17 : x1 ≠ ch) (p_18 : x1 ≠ by_) (p_19 : x1 ≠ stt) (p_20 : ch ≠ by_) (p_21 : ch ≠ stt) (p_22 : by_ ≠ stt) (p_23 : ¬ n = mx) (p_24 : 0 ≤ n.toInt ∧ n.toInt < 3) (p_25 : vss.getD n.toNatClampNeg (.long (0 : Int64)) = .long S) (p_26 : vss.length = 16) (p_27 : 0 ≤ S.toInt ∧ S.toInt ≤ 0) (p_28 : 0 ≤ x2.toInt ∧ x2.toInt ≤ x3.toInt ∧ x3.toInt ≤ x2.toInt + 1023 ∧ x3.toInt ≤ 2046) (p_29 : OvrA Z kc .byte "[B") (p_30 : 0 ≤ nb.toInt) :
    MetFree l (⟨"com/example/link_importance/linkimportance/graph/NameList", "append", "([BII)V"⟩ : MethodName) (head1 (Jvm.Cond.code (⟨"com/example/link_importance/linkimportance/graph/NameList", "append", "([BII)V"⟩ : MethodName) prog_23_method_9_code 10 none :: ws) ({ frames := 3, cells := 1, slots := 2046, locals := 47 } : Room)) (fun a U => a = #[(.ref x0), (.ref x1), (.int x2), (.int x3)] ∧ Z.Warmed39 U.vm ∧ U.heap = h0) (fun _ _ _ _ _ => True) (fun _ U o U' => ∃ v L, o = .returned v ∧ Q_rmA1 Z x0 x1 x2 x3 n mx ch kc by_ kb nb vb db stt ks vss S kq vq dq h0 n0 v U'.heap L ∧ FrameEnd U o U' L ({ frames := 3, cells := 1, slots := 2046, locals := 47 } : Room).cells ({ frames := 3, cells := 1, slots := 2046, locals := 47 } : Room).slots) := by
  refine MetFree.of_bodySF (plainFor_of_name pn_0) hisR ?_
  intro p e s m args below meth c s₁ Bd hml0 hP hK
  obtain ⟨rfl, hZ, hh⟩ := hP
  have hx := Bd.exec
  have hby := Bd.bytes
  have hml : c.maxLocals = 10 := hml0
  have hown : s.vm.findClass "com/example/link_importance/linkimportance/graph/NameList" = some m.cls := findClass_of_methodNamed Bd.named
  have hnm := (name_of_methodNamed Bd.named Bd.method).1
  have X0 : Stand p l e ({ frames := 3, cells := 1, slots := 2046, locals := 47 } : Room) s m #[(.ref x0), (.ref x1), (.int x2), (.int x3)] below meth c s₁ [] 0 0 := Stand.of_body Bd
  have e0 : s₁.heap = h0 := by rw [← hh, Bd.state]; rfl
  have N0 := Fr.nil n0
  show own_Ends p e below s ({ frames := 3, cells := 1, slots := 2046, locals := 47 } : Room).cells ({ frames := 3, cells := 1, slots := 2046, locals := 47 } : Room).slots (Q_rmA1 Z x0 x1 x2 x3 n mx ch kc by_ kb nb vb db stt ks vss S kq vq dq h0 n0) (s₁.setTop (entryFrame m #[(.ref x0), (.ref x1), (.int x2), (.int x3)] 10))
  rw [ef_3_RRII]
  have hn1 : (n + (1 : Int32)).toInt = n.toInt + 1 := by have := own_add (x := n) (y := 1) ⟨by omega, by omega⟩ (by decide); rw [this]; rfl
  have hS : 0 ≤ S.toInt ∧ S.toInt ≤ 3069 := ⟨p_27.1, by have := p_27.2; omega⟩
  have hof := own_off hS
  have hct := own_sub (x := x3) (y := x2) (by omega) (by omega)
  have h16 : (16 : Int32).toInt = 16 := by decide
  have h2048 : (2048 : Int32).toInt = 2048 := by decide
  refine own_step (st' := s₁.setTop (mkF m 1 #[.val (.ref x0), .val (.ref x1), .val (.int x2), .val (.int x3), .unset, .unset, .unset, .unset, .unset, .unset] [(.ref x0)])) (fun t k => XS.aloadN X0.here hx rfl (hb hby d3_0) rfl rfl k) ?_
  obtain ⟨T1, X1, e1, st1⟩ := getF X0 hx hZ hown (host := "") (Or.inl (hw _ (List.mem_of_getElem? (i := 25) rfl))) Via.refl e0 p_0 (g := (mkF m 1 #[.val (.ref x0), .val (.ref x1), .val (.int x2), .val (.int x3), .unset, .unset, .unset, .unset, .unset, .unset] [(.ref x0)])) rfl rfl (hb hby d3_1)
  refine own_step (st' := T1.setTop (mkF m 4 #[.val (.ref x0), .val (.ref x1), .val (.int x2), .val (.int x3), .unset, .unset, .unset, .unset, .unset, .unset] [(.int n)])) st1 ?_
  refine own_step (st' := T1.setTop (mkF m 5 #[.val (.ref x0), .val (.ref x1), .val (.int x2), .val (.int x3), .unset, .unset, .unset, .unset, .unset, .unset] [(.ref x0), (.int n)])) (fun t k => XS.aloadN X1.here hx rfl (hb hby d3_4) rfl rfl k) ?_
  obtain ⟨T2, X2, e2, st2⟩ := getF X1 hx hZ hown (host := "") (Or.inl (hw _ (List.mem_of_getElem? (i := 18) rfl))) Via.refl e1 p_1 (g := (mkF m 5 #[.val (.ref x0), .val (.ref x1), .val (.int x2), .val (.int x3), .unset, .unset, .unset, .unset, .unset, .unset] [(.ref x0), (.int n)])) rfl rfl (hb hby d3_5)
  refine own_step (st' := T2.setTop (mkF m 8 #[.val (.ref x0), .val (.ref x1), .val (.int x2), .val (.int x3), .unset, .unset, .unset, .unset, .unset, .unset] [(.int mx), (.int n)])) st2 ?_
  refine own_step (st' := T2.setTop (mkF m 28 #[.val (.ref x0), .val (.ref x1), .val (.int x2), .val (.int x3), .unset, .unset, .unset, .unset, .unset, .unset] [])) (fun t k => XS.icmpYes X2.here hx rfl (pc0 := 8) (pc' := 28) rfl (hb hby d3_8) rfl (feq p_23).2 (by decide) (by decide) k) ?_
  refine own_step (st' := T2.setTop (mkF m 29 #[.val (.ref x0), .val (.ref x1), .val (.int x2), .val (.int x3), .unset, .unset, .unset, .unset, .unset, .unset] [(.ref x0)])) (fun t k => XS.aloadN X2.here hx rfl (hb hby d3_28) rfl rfl k) ?_
  obtain ⟨T3, X3, e3, st3⟩ := getF X2 hx hZ hown (host := "") (Or.inl (hw _ (List.mem_of_getElem? (i := 25) rfl))) Via.refl e2 p_0 (g := (mkF m 29 #[.val (.ref x0), .val (.ref x1), .val (.int x2), .val (.int x3), .unset, .unset, .unset, .unset, .unset, .unset] [(.ref x0)])) rfl rfl (hb hby d3_29)
  refine own_step (st' := T3.setTop (mkF m 32 #[.val (.ref x0), .val (.ref x1), .val (.int x2), .val (.int x3), .unset, .unset, .unset, .unset, .unset, .unset] [(.int n)])) st3 ?_
  refine own_step (st' := T3.setTop (mkF m 33 #[.val (.ref x0), .val (.ref x1), .val (.int x2), .val (.int x3), .unset, .unset, .unset, .unset, .unset, .unset] [(.int (1 : Int32)), (.int n)])) (fun t k => XS.iconst X3.here hx rfl (hb hby d3_32) k) ?_
  refine own_step (st' := T3.setTop (mkF m 34 #[.val (.ref x0), .val (.ref x1), .val (.int x2), .val (.int x3), .unset, .unset, .unset, .unset, .unset, .unset] [(.int (n + (1 : Int32)))])) (fun t k => XS.iadd X3.here hx rfl (hb hby d3_33) rfl k) ?_
  refine own_step (st' := T3.setTop (mkF m 35 #[.val (.ref x0), .val (.ref x1), .val (.int x2), .val (.int x3), .unset, .unset, .unset, .unset, .unset, .unset] [(.ref x0), (.int (n + (1 : Int32)))])) (fun t k => XS.aloadN X3.here hx rfl (hb hby d3_34) rfl rfl k) ?_
  obtain ⟨T4, X4, e4, st4⟩ := getF X3 hx hZ hown (host := "") (Or.inl (hw _ (List.mem_of_getElem? (i := 16) rfl))) Via.refl e3 p_3 (g := (mkF m 35 #[.val (.ref x0), .val (.ref x1), .val (.int x2), .val (.int x3), .unset, .unset, .unset, .unset, .unset, .unset] [(.ref x0), (.int (n + (1 : Int32)))])) rfl rfl (hb hby d3_35)
  refine own_step (st' := T4.setTop (mkF m 38 #[.val (.ref x0), .val (.ref x1), .val (.int x2), .val (.int x3), .unset, .unset, .unset, .unset, .unset, .unset] [(.ref stt), (.int (n + (1 : Int32)))])) st4 ?_
  refine own_step (st' := T4.setTop (mkF m 39 #[.val (.ref x0), .val (.ref x1), .val (.int x2), .val (.int x3), .unset, .unset, .unset, .unset, .unset, .unset] [(.int (16 : Int32)), (.int (n + (1 : Int32)))])) (fun t k => own_len X4 hx hZ e4 p_11 (g := (mkF m 38 #[.val (.ref x0), .val (.ref x1), .val (.int x2), .val (.int x3), .unset, .unset, .unset, .unset, .unset, .unset] [(.ref stt), (.int (n + (1 : Int32)))])) rfl rfl (hb hby d3_38) t k) ?_
  refine own_step (st' := T4.setTop (mkF m 74 #[.val (.ref x0), .val (.ref x1), .val (.int x2), .val (.int x3), .unset, .unset, .unset, .unset, .unset, .unset] [])) (fun t k => XS.icmpYes X4.here hx rfl (pc0 := 39) (pc' := 74) rfl (hb hby d3_39) rfl (feq (fun q => by have := congrArg Int32.toInt q; rw [hn1, h16] at this; omega)).2 (by decide) (by decide) k) ?_
  refine own_step (st' := T4.setTop (mkF m 75 #[.val (.ref x0), .val (.ref x1), .val (.int x2), .val (.int x3), .unset, .unset, .unset, .unset, .unset, .unset] [(.ref x0)])) (fun t k => XS.aloadN X4.here hx rfl (hb hby d3_74) rfl rfl k) ?_
  obtain ⟨T5, X5, e5, st5⟩ := getF X4 hx hZ hown (host := "") (Or.inl (hw _ (List.mem_of_getElem? (i := 16) rfl))) Via.refl e4 p_3 (g := (mkF m 75 #[.val (.ref x0), .val (.ref x1), .val (.int x2), .val (.int x3), .unset, .unset, .unset, .unset, .unset, .unset] [(.ref x0)])) rfl rfl (hb hby d3_75)
  refine own_step (st' := T5.setTop (mkF m 78 #[.val (.ref x0), .val (.ref x1), .val (.int x2), .val (.int x3), .unset, .unset, .unset, .unset, .unset, .unset] [(.ref stt)])) st5 ?_
  refine own_step (st' := T5.setTop (mkF m 79 #[.val (.ref x0), .val (.ref x1), .val (.int x2), .val (.int x3), .unset, .unset, .unset, .unset, .unset, .unset] [(.ref x0), (.ref stt)])) (fun t k => XS.aloadN X5.here hx rfl (hb hby d3_78) rfl rfl k) ?_
  obtain ⟨T6, X6, e6, st6⟩ := getF X5 hx hZ hown (host := "") (Or.inl (hw _ (List.mem_of_getElem? (i := 25) rfl))) Via.refl e5 p_0 (g := (mkF m 79 #[.val (.ref x0), .val (.ref x1), .val (.int x2), .val (.int x3), .unset, .unset, .unset, .unset, .unset, .unset] [(.ref x0), (.ref stt)])) rfl rfl (hb hby d3_79)
  refine own_step (st' := T6.setTop (mkF m 82 #[.val (.ref x0), .val (.ref x1), .val (.int x2), .val (.int x3), .unset, .unset, .unset, .unset, .unset, .unset] [(.int n), (.ref stt)])) st6 ?_
  refine own_step (st' := T6.setTop (mkF m 83 #[.val (.ref x0), .val (.ref x1), .val (.int x2), .val (.int x3), .unset, .unset, .unset, .unset, .unset, .unset] [(.long S)])) (fun t k => own_ldJ X6 hx hZ e6 p_11 (j := n) (v := (.long S)) (own_in (by omega) (by rw [h16]; omega)) p_25 (g := (mkF m 82 #[.val (.ref x0), .val (.ref x1), .val (.int x2), .val (.int x3), .unset, .unset, .unset, .unset, .unset, .unset] [(.int n), (.ref stt)])) rfl rfl (hb hby d3_82) t k) ?_
  refine own_step (st' := T6.setTop (mkF m 85 #[.val (.ref x0), .val (.ref x1), .val (.int x2), .val (.int x3), .val (.long S), .second, .unset, .unset, .unset, .unset] [])) (fun t k => XS.lstore X6.here hx rfl (hb hby d3_83) rfl (l' := #[.val (.ref x0), .val (.ref x1), .val (.int x2), .val (.int x3), .val (.long S), .second, .unset, .unset, .unset, .unset]) rfl k) ?_
  refine own_step (st' := T6.setTop (mkF m 86 #[.val (.ref x0), .val (.ref x1), .val (.int x2), .val (.int x3), .val (.long S), .second, .unset, .unset, .unset, .unset] [(.int x2)])) (fun t k => XS.iloadN X6.here hx rfl (hb hby d3_85) rfl k) ?_
  refine own_step (st' := T6.setTop (mkF m 88 #[.val (.ref x0), .val (.ref x1), .val (.int x2), .val (.int x3), .val (.long S), .second, .val (.int x2), .unset, .unset, .unset] [])) (fun t k => XS.istore X6.here hx rfl (hb hby d3_86) rfl (l' := #[.val (.ref x0), .val (.ref x1), .val (.int x2), .val (.int x3), .val (.long S), .second, .val (.int x2), .unset, .unset, .unset]) rfl k) ?_
  refine own_step (st' := T6.setTop (mkF m 90 #[.val (.ref x0), .val (.ref x1), .val (.int x2), .val (.int x3), .val (.long S), .second, .val (.int x2), .unset, .unset, .unset] [(.int x2)])) (fun t k => XS.iload X6.here hx rfl (hb hby d3_88) rfl k) ?_
  refine own_step (st' := T6.setTop (mkF m 91 #[.val (.ref x0), .val (.ref x1), .val (.int x2), .val (.int x3), .val (.long S), .second, .val (.int x2), .unset, .unset, .unset] [(.int x3), (.int x2)])) (fun t k => XS.iloadN X6.here hx rfl (hb hby d3_90) rfl k) ?_
  by_cases hc7 : x2 < x3
  · refine own_step (st' := T6.setTop (mkF m 94 #[.val (.ref x0), .val (.ref x1), .val (.int x2), .val (.int x3), .val (.long S), .second, .val (.int x2), .unset, .unset, .unset] [])) (fun t k => XS.icmpNo X6.here hx rfl (hb hby d3_91) rfl (tlt hc7).2.1 k) ?_
    refine own_step (st' := T6.setTop (mkF m 96 #[.val (.ref x0), .val (.ref x1), .val (.int x2), .val (.int x3), .val (.long S), .second, .val (.int x2), .unset, .unset, .unset] [(.long S)])) (fun t k => XS.lload X6.here hx rfl (hb hby d3_94) rfl k) ?_
    refine own_step (st' := T6.setTop (mkF m 99 #[.val (.ref x0), .val (.ref x1), .val (.int x2), .val (.int x3), .val (.long S), .second, .val (.int x2), .unset, .unset, .unset] [(.long (65535 : Int64)), (.long S)])) (fun t k => X6.ldc2Long hx hown (mvT hZ (hw _ (List.mem_of_getElem? (i := 27) rfl))) (g := (mkF m 96 #[.val (.ref x0), .val (.ref x1), .val (.int x2), .val (.int x3), .val (.long S), .second, .val (.int x2), .unset, .unset, .unset] [(.long S)])) rfl (hb hby d3_96) t k) ?_
    refine own_step (st' := T6.setTop (mkF m 100 #[.val (.ref x0), .val (.ref x1), .val (.int x2), .val (.int x3), .val (.long S), .second, .val (.int x2), .unset, .unset, .unset] [(.long (S &&& (65535 : Int64)))])) (fun t k => XS.land X6.here hx rfl (hb hby d3_99) rfl k) ?_
    refine own_step (st' := T6.setTop (mkF m 101 #[.val (.ref x0), .val (.ref x1), .val (.int x2), .val (.int x3), .val (.long S), .second, .val (.int x2), .unset, .unset, .unset] [(.int ((S &&& (65535 : Int64)).toInt32))])) (fun t k => XS.l2i X6.here hx rfl (hb hby d3_100) rfl k) ?_
    refine own_step (st' := T6.setTop (mkF m 103 #[.val (.ref x0), .val (.ref x1), .val (.int x2), .val (.int x3), .val (.long S), .second, .val (.int x2), .val (.int ((S &&& (65535 : Int64)).toInt32)), .unset, .unset] [])) (fun t k => XS.istore X6.here hx rfl (hb hby d3_101) rfl (l' := #[.val (.ref x0), .val (.ref x1), .val (.int x2), .val (.int x3), .val (.long S), .second, .val (.int x2), .val (.int ((S &&& (65535 : Int64)).toInt32)), .unset, .unset]) rfl k) ?_
    refine own_step (st' := T6.setTop (mkF m 104 #[.val (.ref x0), .val (.ref x1), .val (.int x2), .val (.int x3), .val (.long S), .second, .val (.int x2), .val (.int ((S &&& (65535 : Int64)).toInt32)), .unset, .unset] [(.int x3)])) (fun t k => XS.iloadN X6.here hx rfl (hb hby d3_103) rfl k) ?_
    refine own_step (st' := T6.setTop (mkF m 106 #[.val (.ref x0), .val (.ref x1), .val (.int x2), .val (.int x3), .val (.long S), .second, .val (.int x2), .val (.int ((S &&& (65535 : Int64)).toInt32)), .unset, .unset] [(.int x2), (.int x3)])) (fun t k => XS.iload X6.here hx rfl (hb hby d3_104) rfl k) ?_
    refine own_step (st' := T6.setTop (mkF m 107 #[.val (.ref x0), .val (.ref x1), .val (.int x2), .val (.int x3), .val (.long S), .second, .val (.int x2), .val (.int ((S &&& (65535 : Int64)).toInt32)), .unset, .unset] [(.int (x3 - x2))])) (fun t k => XS.isub X6.here hx rfl (hb hby d3_106) rfl k) ?_
    refine own_step (st' := T6.setTop (mkF m 109 #[.val (.ref x0), .val (.ref x1), .val (.int x2), .val (.int x3), .val (.long S), .second, .val (.int x2), .val (.int ((S &&& (65535 : Int64)).toInt32)), .unset, .unset] [(.int (65536 : Int32)), (.int (x3 - x2))])) (fun t k => X6.ldcInt hx hown (mvT hZ (hw _ (List.mem_of_getElem? (i := 28) rfl))) (g := (mkF m 107 #[.val (.ref x0), .val (.ref x1), .val (.int x2), .val (.int x3), .val (.long S), .second, .val (.int x2), .val (.int ((S &&& (65535 : Int64)).toInt32)), .unset, .unset] [(.int (x3 - x2))])) rfl (hb hby d3_107) t k) ?_
    refine own_step (st' := T6.setTop (mkF m 111 #[.val (.ref x0), .val (.ref x1), .val (.int x2), .val (.int x3), .val (.long S), .second, .val (.int x2), .val (.int ((S &&& (65535 : Int64)).toInt32)), .unset, .unset] [(.int ((S &&& (65535 : Int64)).toInt32)), (.int (65536 : Int32)), (.int (x3 - x2))])) (fun t k => XS.iload X6.here hx rfl (hb hby d3_109) rfl k) ?_
    refine own_step (st' := T6.setTop (mkF m 112 #[.val (.ref x0), .val (.ref x1), .val (.int x2), .val (.int x3), .val (.long S), .second, .val (.int x2), .val (.int ((S &&& (65535 : Int64)).toInt32)), .unset, .unset] [(.int ((65536 : Int32) - ((S &&& (65535 : Int64)).toInt32))), (.int (x3 - x2))])) (fun t k => XS.isub X6.here hx rfl (hb hby d3_111) rfl k) ?_
    obtain ⟨_, _, ⟨T8, L8, k8, n8⟩, -, X8, ⟨Lc8, hQ8, l8, y8, z8⟩, st8⟩ := Jvm.LawKit.callS X6 hx (y := (⟨"java/lang/Math", "min", "(II)I"⟩ : MethodName)) hown (mvT hZ (hw _ (List.mem_of_getElem? (i := 29) rfl))) (mvT hZ (hw _ (List.mem_of_getElem? (i := 30) rfl))) (mvT hZ (hw _ (List.mem_of_getElem? (i := 31) rfl))) (mvT hZ (hw _ (List.mem_of_getElem? (i := 32) rfl))) (by decide) (backOf (W := 0) (rm4 l Z a0 hw [] (x3 - x2) ((65536 : Int32) - ((S &&& (65535 : Int64)).toInt32)) h0 n0 Z0) hZ (hw _ (List.mem_of_getElem? (i := 32) rfl)) (hw _ (List.mem_of_getElem? (i := 31) rfl)) (by decide) (by decide)) (g := (mkF m 112 #[.val (.ref x0), .val (.ref x1), .val (.int x2), .val (.int x3), .val (.long S), .second, .val (.int x2), .val (.int ((S &&& (65535 : Int64)).toInt32)), .unset, .unset] [(.int ((65536 : Int32) - ((S &&& (65535 : Int64)).toInt32))), (.int (x3 - x2))])) rfl (by rw [hml]; rfl) (argsL := [(.int (x3 - x2)), (.int ((65536 : Int32) - ((S &&& (65535 : Int64)).toInt32)))]) (rest := []) (lenOf pd_3 rfl) rfl (by show 2 * 0 + _ ≤ _; exact Nat.le_of_eq rfl) (hb hby d3_112) (fun _ _ => ⟨rfl, e6, (by decide : 0 + 0 ≤ _), (by decide : 0 + 0 ≤ _)⟩)
    dsimp only [Pt.U, Pt.locs, Pt.cells, Pt.slots] at X8 l8 y8 z8 st8 hQ8
    subst l8 y8 z8
    obtain ⟨rfl, N8q, e8⟩ := hQ8
    have N8 := Fr.app N0 N8q
    refine own_step (st' := T8.setTop (mkF m 115 #[.val (.ref x0), .val (.ref x1), .val (.int x2), .val (.int x3), .val (.long S), .second, .val (.int x2), .val (.int ((S &&& (65535 : Int64)).toInt32)), .unset, .unset] [(.int (if ((65536 : Int32) - ((S &&& (65535 : Int64)).toInt32)) < (x3 - x2) then ((65536 : Int32) - ((S &&& (65535 : Int64)).toInt32)) else (x3 - x2)))])) st8 ?_
    have hcc : (if ((65536 : Int32) - ((S &&& (65535 : Int64)).toInt32)) < (x3 - x2) then ((65536 : Int32) - ((S &&& (65535 : Int64)).toInt32)) else (x3 - x2)) = (x3 - x2) := if_neg (by rw [Int32.lt_iff_toInt_lt, own_sub (by decide) (by omega), show (65536 : Int32).toInt = 65536 by decide]; omega)
    rw [hcc]
    refine own_step (st' := T8.setTop (mkF m 117 #[.val (.ref x0), .val (.ref x1), .val (.int x2), .val (.int x3), .val (.long S), .second, .val (.int x2), .val (.int ((S &&& (65535 : Int64)).toInt32)), .val (.int (x3 - x2)), .unset] [])) (fun t k => XS.istore X8.here hx rfl (hb hby d3_115) rfl (l' := #[.val (.ref x0), .val (.ref x1), .val (.int x2), .val (.int x3), .val (.long S), .second, .val (.int x2), .val (.int ((S &&& (65535 : Int64)).toInt32)), .val (.int (x3 - x2)), .unset]) rfl k) ?_
    refine own_step (st' := T8.setTop (mkF m 118 #[.val (.ref x0), .val (.ref x1), .val (.int x2), .val (.int x3), .val (.long S), .second, .val (.int x2), .val (.int ((S &&& (65535 : Int64)).toInt32)), .val (.int (x3 - x2)), .unset] [(.ref x0)])) (fun t k => XS.aloadN X8.here hx rfl (hb hby d3_117) rfl rfl k) ?_
    refine own_step (st' := T8.setTop (mkF m 120 #[.val (.ref x0), .val (.ref x1), .val (.int x2), .val (.int x3), .val (.long S), .second, .val (.int x2), .val (.int ((S &&& (65535 : Int64)).toInt32)), .val (.int (x3 - x2)), .unset] [(.long S), (.ref x0)])) (fun t k => XS.lload X8.here hx rfl (hb hby d3_118) rfl k) ?_
    refine own_step (st' := T8.setTop (mkF m 122 #[.val (.ref x0), .val (.ref x1), .val (.int x2), .val (.int x3), .val (.long S), .second, .val (.int x2), .val (.int ((S &&& (65535 : Int64)).toInt32)), .val (.int (x3 - x2)), .unset] [(.int (16 : Int32)), (.long S), (.ref x0)])) (fun t k => XS.bipush X8.here hx rfl (hb hby d3_120) k) ?_
    refine own_step (st' := T8.setTop (mkF m 123 #[.val (.ref x0), .val (.ref x1), .val (.int x2), .val (.int x3), .val (.long S), .second, .val (.int x2), .val (.int ((S &&& (65535 : Int64)).toInt32)), .val (.int (x3 - x2)), .unset] [(.long ((S.toUInt64 >>> ((16 : Int32) &&& 0x3f).toInt64.toUInt64).toInt64)), (.ref x0)])) (fun t k => XS.lushr X8.here hx rfl (hb hby d3_122) rfl k) ?_
    refine own_step (st' := T8.setTop (mkF m 124 #[.val (.ref x0), .val (.ref x1), .val (.int x2), .val (.int x3), .val (.long S), .second, .val (.int x2), .val (.int ((S &&& (65535 : Int64)).toInt32)), .val (.int (x3 - x2)), .unset] [(.int (((S.toUInt64 >>> ((16 : Int32) &&& 0x3f).toInt64.toUInt64).toInt64).toInt32)), (.ref x0)])) (fun t k => XS.l2i X8.here hx rfl (hb hby d3_123) rfl k) ?_
    refine own_step (st' := T8.setTop (mkF m 126 #[.val (.ref x0), .val (.ref x1), .val (.int x2), .val (.int x3), .val (.long S), .second, .val (.int x2), .val (.int ((S &&& (65535 : Int64)).toInt32)), .val (.int (x3 - x2)), .unset] [(.int ((S &&& (65535 : Int64)).toInt32)), (.int (((S.toUInt64 >>> ((16 : Int32) &&& 0x3f).toInt64.toUInt64).toInt64).toInt32)), (.ref x0)])) (fun t k => XS.iload X8.here hx rfl (hb hby d3_124) rfl k) ?_
    refine own_step (st' := T8.setTop (mkF m 128 #[.val (.ref x0), .val (.ref x1), .val (.int x2), .val (.int x3), .val (.long S), .second, .val (.int x2), .val (.int ((S &&& (65535 : Int64)).toInt32)), .val (.int (x3 - x2)), .unset] [(.int (x3 - x2)), (.int ((S &&& (65535 : Int64)).toInt32)), (.int (((S.toUInt64 >>> ((16 : Int32) &&& 0x3f).toInt64.toUInt64).toInt64).toInt32)), (.ref x0)])) (fun t k => XS.iload X8.here hx rfl (hb hby d3_126) rfl k) ?_
    refine own_step (st' := T8.setTop (mkF m 129 #[.val (.ref x0), .val (.ref x1), .val (.int x2), .val (.int x3), .val (.long S), .second, .val (.int x2), .val (.int ((S &&& (65535 : Int64)).toInt32)), .val (.int (x3 - x2)), .unset] [(.int (((S &&& (65535 : Int64)).toInt32) + (x3 - x2))), (.int (((S.toUInt64 >>> ((16 : Int32) &&& 0x3f).toInt64.toUInt64).toInt64).toInt32)), (.ref x0)])) (fun t k => XS.iadd X8.here hx rfl (hb hby d3_128) rfl k) ?_
    obtain ⟨cq9, q9, q9'⟩ := p_4.cell
    obtain ⟨_, _, ⟨T9, L9, k9, n9⟩, -, X9, ⟨Lc9, hQ9, l9, y9, z9⟩, st9⟩ := X8.privateBack hx (y := (⟨"com/example/link_importance/linkimportance/graph/NameList", "room", "(II)[B"⟩ : MethodName)) hown (mvT hZ (hw _ (List.mem_of_getElem? (i := 33) rfl))) (mvT hZ (hw _ (List.mem_of_getElem? (i := 34) rfl))) (own_selp (y := (⟨"com/example/link_importance/linkimportance/graph/NameList", "room", "(II)[B"⟩ : MethodName)) (mvT hZ (hw _ (List.mem_of_getElem? (i := 34) rfl))) (own_nf (args := #[]) (y := (⟨"com/example/link_importance/linkimportance/graph/NameList", "append", "([BII)V"⟩ : MethodName)) rfl (mvT hZ (hw _ (List.mem_of_getElem? (i := 22) rfl))) (notFace_of_selects (args := #[]) (mvT hZ (hw _ (List.mem_of_getElem? (i := 23) rfl))))) (Cond.privateMethod_at (mvP hZ (hw _ (List.mem_of_getElem? (i := 35) rfl)) (args := #[]))) (by decide)) (Cond.privateMethod_at (mvP hZ (hw _ (List.mem_of_getElem? (i := 35) rfl)) (args := #[]))) (mvT hZ (hw _ (List.mem_of_getElem? (i := 36) rfl))) (by decide) (backOf (W := 0) (rmR1 l Z a0 hw [] x0 (((S.toUInt64 >>> ((16 : Int32) &&& 0x3f).toInt64.toUInt64).toInt64).toInt32) (((S &&& (65535 : Int64)).toInt32) + (x3 - x2)) ch kc by_ kb nb vb db h0 n0 Z0 (own_chunk hS) p_2 p_9 p_10 p_29 p_30 (by rw [own_add (x := (S &&& (65535 : Int64)).toInt32) (y := x3 - x2) ⟨by omega, by omega⟩ ⟨by omega, by omega⟩]; omega) p_6 p_7 (Ne.symm p_20) p_14) hZ (hw _ (List.mem_of_getElem? (i := 36) rfl)) (hw _ (List.mem_of_getElem? (i := 3) rfl)) (by decide) (by decide)) (g := (mkF m 129 #[.val (.ref x0), .val (.ref x1), .val (.int x2), .val (.int x3), .val (.long S), .second, .val (.int x2), .val (.int ((S &&& (65535 : Int64)).toInt32)), .val (.int (x3 - x2)), .unset] [(.int (((S &&& (65535 : Int64)).toInt32) + (x3 - x2))), (.int (((S.toUInt64 >>> ((16 : Int32) &&& 0x3f).toInt64.toUInt64).toInt64).toInt32)), (.ref x0)])) rfl (by rw [hml]; rfl) (Steps.refl _) (a := x0) (by rw [e8]; exact q9) q9' (argsL := [(.int (((S.toUInt64 >>> ((16 : Int32) &&& 0x3f).toInt64.toUInt64).toInt64).toInt32)), (.int (((S &&& (65535 : Int64)).toInt32) + (x3 - x2)))]) (rest := []) (lenOf pd_4 rfl) rfl (by show 2 * 0 + _ ≤ _; exact Nat.le_of_eq rfl) (hb hby d3_129) (fun _ _ => ⟨rfl, e8, (by decide : 0 + 1 ≤ _), (by decide : 0 + 2046 ≤ _)⟩)
    dsimp only [Pt.U, Pt.locs, Pt.cells, Pt.slots] at X9 l9 y9 z9 st9 hQ9
    subst l9 y9 z9
    obtain ⟨bz_9, kz_9, nz_9, vz_9, dz_9, rfl, N9q, K9, pq9_0, pq9_1, pq9_2, pq9_3, pq9_4, pq9_5⟩ := hQ9
    have N9 := Fr.app N8 N9q
    obtain ⟨h9, e9⟩ : ∃ z, T9.heap = z := ⟨_, rfl⟩
    rw [e9] at K9 pq9_3 pq9_4 pq9_5
    have f10 := p_0.keep K9 (ninS p_14 nin0)
    have f11 := p_1.keep K9 (ninS p_14 nin0)
    have f12 := p_2.keep K9 (ninS p_14 nin0)
    have f13 := p_3.keep K9 (ninS p_14 nin0)
    have f14 := p_4.keep K9
    have f15 := p_10.keep K9 (ninS (Ne.symm p_20) nin0)
    have f16 := p_11.keep K9 (ninS (Ne.symm p_21) nin0)
    have f17 := p_12.keep K9 (ninS p_17 nin0)
    have K18 : Keep h0 h9 [x0, ch, by_, stt] := (Keep.refl h0 [x0, ch, by_, stt]).trans K9 (allS (Or.inl (List.mem_of_getElem? (i := 1) rfl)) all0)
    have Z19 : n0 ≤ h9.size := Nat.le_trans Z0 K9.1
    refine own_step (st' := T9.setTop (mkF m 132 #[.val (.ref x0), .val (.ref x1), .val (.int x2), .val (.int x3), .val (.long S), .second, .val (.int x2), .val (.int ((S &&& (65535 : Int64)).toInt32)), .val (.int (x3 - x2)), .unset] [(.ref bz_9)])) (fun t k => st9.trans k) ?_
    have nz9_x0 : bz_9 ≠ x0 := by
      rcases pq9_0 with q | q
      · rw [q]; exact (Ne.symm p_15)
      · exact Nat.ne_of_gt (Nat.lt_of_lt_of_le p_4.lt q)
    have nz9_x1 : bz_9 ≠ x1 := by
      rcases pq9_0 with q | q
      · rw [q]; exact (Ne.symm p_18)
      · exact Nat.ne_of_gt (Nat.lt_of_lt_of_le p_12.lt q)
    have nz9_ch : bz_9 ≠ ch := by
      rcases pq9_0 with q | q
      · rw [q]; exact (Ne.symm p_20)
      · exact Nat.ne_of_gt (Nat.lt_of_lt_of_le p_9.lt q)
    have nz9_stt : bz_9 ≠ stt := by
      rcases pq9_0 with q | q
      · rw [q]; exact p_22
      · exact Nat.ne_of_gt (Nat.lt_of_lt_of_le p_11.lt q)
    have mb9 : bz_9 ∈ [x0, ch, by_, stt] ∨ h0.size ≤ bz_9 := pq9_0.elim (fun q => Or.inl (by rw [q]; simp)) Or.inr
    refine own_step (st' := T9.setTop (mkF m 134 #[.val (.ref x0), .val (.ref x1), .val (.int x2), .val (.int x3), .val (.long S), .second, .val (.int x2), .val (.int ((S &&& (65535 : Int64)).toInt32)), .val (.int (x3 - x2)), .val (.ref bz_9)] [])) (fun t k => XS.astore X9.here hx rfl (hb hby d3_132) rfl rfl (l' := #[.val (.ref x0), .val (.ref x1), .val (.int x2), .val (.int x3), .val (.long S), .second, .val (.int x2), .val (.int ((S &&& (65535 : Int64)).toInt32)), .val (.int (x3 - x2)), .val (.ref bz_9)]) rfl k) ?_
    refine own_step (st' := T9.setTop (mkF m 135 #[.val (.ref x0), .val (.ref x1), .val (.int x2), .val (.int x3), .val (.long S), .second, .val (.int x2), .val (.int ((S &&& (65535 : Int64)).toInt32)), .val (.int (x3 - x2)), .val (.ref bz_9)] [(.ref x1)])) (fun t k => XS.aloadN X9.here hx rfl (hb hby d3_134) rfl rfl k) ?_
    refine own_step (st' := T9.setTop (mkF m 137 #[.val (.ref x0), .val (.ref x1), .val (.int x2), .val (.int x3), .val (.long S), .second, .val (.int x2), .val (.int ((S &&& (65535 : Int64)).toInt32)), .val (.int (x3 - x2)), .val (.ref bz_9)] [(.int x2), (.ref x1)])) (fun t k => XS.iload X9.here hx rfl (hb hby d3_135) rfl k) ?_
    refine own_step (st' := T9.setTop (mkF m 139 #[.val (.ref x0), .val (.ref x1), .val (.int x2), .val (.int x3), .val (.long S), .second, .val (.int x2), .val (.int ((S &&& (65535 : Int64)).toInt32)), .val (.int (x3 - x2)), .val (.ref bz_9)] [(.ref bz_9), (.int x2), (.ref x1)])) (fun t k => XS.aload X9.here hx rfl (hb hby d3_137) rfl rfl k) ?_
    refine own_step (st' := T9.setTop (mkF m 141 #[.val (.ref x0), .val (.ref x1), .val (.int x2), .val (.int x3), .val (.long S), .second, .val (.int x2), .val (.int ((S &&& (65535 : Int64)).toInt32)), .val (.int (x3 - x2)), .val (.ref bz_9)] [(.int ((S &&& (65535 : Int64)).toInt32)), (.ref bz_9), (.int x2), (.ref x1)])) (fun t k => XS.iload X9.here hx rfl (hb hby d3_139) rfl k) ?_
    refine own_step (st' := T9.setTop (mkF m 143 #[.val (.ref x0), .val (.ref x1), .val (.int x2), .val (.int x3), .val (.long S), .second, .val (.int x2), .val (.int ((S &&& (65535 : Int64)).toInt32)), .val (.int (x3 - x2)), .val (.ref bz_9)] [(.int (x3 - x2)), (.int ((S &&& (65535 : Int64)).toInt32)), (.ref bz_9), (.int x2), (.ref x1)])) (fun t k => XS.iload X9.here hx rfl (hb hby d3_141) rfl k) ?_
    obtain ⟨T20, h20, L20, vd20, X20, e20, N20, K20, V20, cp20, st20⟩ := own_cp X9 hx hZ hown (hw _ (List.mem_of_getElem? (i := 37) rfl)) (hw _ (List.mem_of_getElem? (i := 40) rfl)) (hw _ (List.mem_of_getElem? (i := 38) rfl)) (hw _ (List.mem_of_getElem? (i := 39) rfl)) e9 f17 pq9_5 rfl (by omega) (by omega) (by omega) (by rw [h2048]; omega) (by have := pq9_1; rw [own_add (x := (S &&& (65535 : Int64)).toInt32) (y := x3 - x2) ⟨by omega, by omega⟩ ⟨by omega, by omega⟩] at this; omega) N9 pq9_2 (g := (mkF m 143 #[.val (.ref x0), .val (.ref x1), .val (.int x2), .val (.int x3), .val (.long S), .second, .val (.int x2), .val (.int ((S &&& (65535 : Int64)).toInt32)), .val (.int (x3 - x2)), .val (.ref bz_9)] [(.int (x3 - x2)), (.int ((S &&& (65535 : Int64)).toInt32)), (.ref bz_9), (.int x2), (.ref x1)])) rfl (by rw [hml]; rfl) rfl (hb hby d3_143) (by decide) (W := 0) (by show 2 * 0 + _ ≤ _; exact Nat.le_of_eq rfl) (by decide)
    have f21 := f10.keep K20 (ninS (Ne.symm nz9_x0) nin0)
    have f22 := f11.keep K20 (ninS (Ne.symm nz9_x0) nin0)
    have f23 := pq9_3.keep K20 (ninS (Ne.symm nz9_x0) nin0)
    have f24 := f13.keep K20 (ninS (Ne.symm nz9_x0) nin0)
    have f25 := f14.keep K20
    have f26 := f16.keep K20 (ninS (Ne.symm nz9_stt) nin0)
    have f27 := f17.keep K20 (ninS (Ne.symm nz9_x1) nin0)
    have f28 := pq9_4.keep K20 (ninS (Ne.symm nz9_ch) nin0)
    have K29 : Keep h0 h20 [x0, ch, by_, stt] := K18.trans K20 (allS mb9 all0)
    have Z30 : n0 ≤ h20.size := Nat.le_trans Z19 K20.1
    refine own_step (st' := T20.setTop (mkF m 146 #[.val (.ref x0), .val (.ref x1), .val (.int x2), .val (.int x3), .val (.long S), .second, .val (.int x2), .val (.int ((S &&& (65535 : Int64)).toInt32)), .val (.int (x3 - x2)), .val (.ref bz_9)] [])) st20 ?_
    refine own_step (st' := T20.setTop (mkF m 148 #[.val (.ref x0), .val (.ref x1), .val (.int x2), .val (.int x3), .val (.long S), .second, .val (.int x2), .val (.int ((S &&& (65535 : Int64)).toInt32)), .val (.int (x3 - x2)), .val (.ref bz_9)] [(.int x2)])) (fun t k => XS.iload X20.here hx rfl (hb hby d3_146) rfl k) ?_
    refine own_step (st' := T20.setTop (mkF m 150 #[.val (.ref x0), .val (.ref x1), .val (.int x2), .val (.int x3), .val (.long S), .second, .val (.int x2), .val (.int ((S &&& (65535 : Int64)).toInt32)), .val (.int (x3 - x2)), .val (.ref bz_9)] [(.int (x3 - x2)), (.int x2)])) (fun t k => XS.iload X20.here hx rfl (hb hby d3_148) rfl k) ?_
    refine own_step (st' := T20.setTop (mkF m 151 #[.val (.ref x0), .val (.ref x1), .val (.int x2), .val (.int x3), .val (.long S), .second, .val (.int x2), .val (.int ((S &&& (65535 : Int64)).toInt32)), .val (.int (x3 - x2)), .val (.ref bz_9)] [(.int (x2 + (x3 - x2)))])) (fun t k => XS.iadd X20.here hx rfl (hb hby d3_150) rfl k) ?_
    refine own_step (st' := T20.setTop (mkF m 153 #[.val (.ref x0), .val (.ref x1), .val (.int x2), .val (.int x3), .val (.long S), .second, .val (.int (x2 + (x3 - x2))), .val (.int ((S &&& (65535 : Int64)).toInt32)), .val (.int (x3 - x2)), .val (.ref bz_9)] [])) (fun t k => XS.istore X20.here hx rfl (hb hby d3_151) rfl (l' := #[.val (.ref x0), .val (.ref x1), .val (.int x2), .val (.int x3), .val (.long S), .second, .val (.int (x2 + (x3 - x2))), .val (.int ((S &&& (65535 : Int64)).toInt32)), .val (.int (x3 - x2)), .val (.ref bz_9)]) rfl k) ?_
    refine own_step (st' := T20.setTop (mkF m 155 #[.val (.ref x0), .val (.ref x1), .val (.int x2), .val (.int x3), .val (.long S), .second, .val (.int (x2 + (x3 - x2))), .val (.int ((S &&& (65535 : Int64)).toInt32)), .val (.int (x3 - x2)), .val (.ref bz_9)] [(.long S)])) (fun t k => XS.lload X20.here hx rfl (hb hby d3_153) rfl k) ?_
    refine own_step (st' := T20.setTop (mkF m 157 #[.val (.ref x0), .val (.ref x1), .val (.int x2), .val (.int x3), .val (.long S), .second, .val (.int (x2 + (x3 - x2))), .val (.int ((S &&& (65535 : Int64)).toInt32)), .val (.int (x3 - x2)), .val (.ref bz_9)] [(.int (x3 - x2)), (.long S)])) (fun t k => XS.iload X20.here hx rfl (hb hby d3_155) rfl k) ?_
    refine own_step (st' := T20.setTop (mkF m 158 #[.val (.ref x0), .val (.ref x1), .val (.int x2), .val (.int x3), .val (.long S), .second, .val (.int (x2 + (x3 - x2))), .val (.int ((S &&& (65535 : Int64)).toInt32)), .val (.int (x3 - x2)), .val (.ref bz_9)] [(.long ((x3 - x2).toInt64)), (.long S)])) (fun t k => XS.i2l X20.here hx rfl (hb hby d3_157) rfl k) ?_
    refine own_step (st' := T20.setTop (mkF m 159 #[.val (.ref x0), .val (.ref x1), .val (.int x2), .val (.int x3), .val (.long S), .second, .val (.int (x2 + (x3 - x2))), .val (.int ((S &&& (65535 : Int64)).toInt32)), .val (.int (x3 - x2)), .val (.ref bz_9)] [(.long (S + ((x3 - x2).toInt64)))])) (fun t k => XS.ladd X20.here hx rfl (hb hby d3_158) rfl k) ?_
    refine own_step (st' := T20.setTop (mkF m 161 #[.val (.ref x0), .val (.ref x1), .val (.int x2), .val (.int x3), .val (.long (S + ((x3 - x2).toInt64))), .second, .val (.int (x2 + (x3 - x2))), .val (.int ((S &&& (65535 : Int64)).toInt32)), .val (.int (x3 - x2)), .val (.ref bz_9)] [])) (fun t k => XS.lstore X20.here hx rfl (hb hby d3_159) rfl (l' := #[.val (.ref x0), .val (.ref x1), .val (.int x2), .val (.int x3), .val (.long (S + ((x3 - x2).toInt64))), .second, .val (.int (x2 + (x3 - x2))), .val (.int ((S &&& (65535 : Int64)).toInt32)), .val (.int (x3 - x2)), .val (.ref bz_9)]) rfl k) ?_
    refine own_step (st' := T20.setTop (mkF m 88 #[.val (.ref x0), .val (.ref x1), .val (.int x2), .val (.int x3), .val (.long (S + ((x3 - x2).toInt64))), .second, .val (.int (x2 + (x3 - x2))), .val (.int ((S &&& (65535 : Int64)).toInt32)), .val (.int (x3 - x2)), .val (.ref bz_9)] [])) (fun t k => XS.goto X20.here hx rfl (pc0 := 161) (pc' := 88) rfl (hb hby d3_161) (by decide) (by decide) k) ?_
    refine own_step (st' := T20.setTop (mkF m 90 #[.val (.ref x0), .val (.ref x1), .val (.int x2), .val (.int x3), .val (.long (S + ((x3 - x2).toInt64))), .second, .val (.int (x2 + (x3 - x2))), .val (.int ((S &&& (65535 : Int64)).toInt32)), .val (.int (x3 - x2)), .val (.ref bz_9)] [(.int (x2 + (x3 - x2)))])) (fun t k => XS.iload X20.here hx rfl (hb hby d3_88) rfl k) ?_
    refine own_step (st' := T20.setTop (mkF m 91 #[.val (.ref x0), .val (.ref x1), .val (.int x2), .val (.int x3), .val (.long (S + ((x3 - x2).toInt64))), .second, .val (.int (x2 + (x3 - x2))), .val (.int ((S &&& (65535 : Int64)).toInt32)), .val (.int (x3 - x2)), .val (.ref bz_9)] [(.int x3), (.int (x2 + (x3 - x2)))])) (fun t k => XS.iloadN X20.here hx rfl (hb hby d3_90) rfl k) ?_
    refine own_step (st' := T20.setTop (mkF m 164 #[.val (.ref x0), .val (.ref x1), .val (.int x2), .val (.int x3), .val (.long (S + ((x3 - x2).toInt64))), .second, .val (.int (x2 + (x3 - x2))), .val (.int ((S &&& (65535 : Int64)).toInt32)), .val (.int (x3 - x2)), .val (.ref bz_9)] [])) (fun t k => XS.icmpYes X20.here hx rfl (pc0 := 91) (pc' := 164) rfl (hb hby d3_91) rfl (flt (by rw [Int32.lt_iff_toInt_lt, own_add (x := x2) (y := x3 - x2) ⟨by omega, by omega⟩ ⟨by omega, by omega⟩]; omega)).2.1 (by decide) (by decide) k) ?_
    refine own_step (st' := T20.setTop (mkF m 165 #[.val (.ref x0), .val (.ref x1), .val (.int x2), .val (.int x3), .val (.long (S + ((x3 - x2).toInt64))), .second, .val (.int (x2 + (x3 - x2))), .val (.int ((S &&& (65535 : Int64)).toInt32)), .val (.int (x3 - x2)), .val (.ref bz_9)] [(.ref x0)])) (fun t k => XS.aloadN X20.here hx rfl (hb hby d3_164) rfl rfl k) ?_
    obtain ⟨T31, X31, e31, st31⟩ := getF X20 hx hZ hown (host := "") (Or.inl (hw _ (List.mem_of_getElem? (i := 16) rfl))) Via.refl e20 f24 (g := (mkF m 165 #[.val (.ref x0), .val (.ref x1), .val (.int x2), .val (.int x3), .val (.long (S + ((x3 - x2).toInt64))), .second, .val (.int (x2 + (x3 - x2))), .val (.int ((S &&& (65535 : Int64)).toInt32)), .val (.int (x3 - x2)), .val (.ref bz_9)] [(.ref x0)])) rfl rfl (hb hby d3_165)
    refine own_step (st' := T31.setTop (mkF m 168 #[.val (.ref x0), .val (.ref x1), .val (.int x2), .val (.int x3), .val (.long (S + ((x3 - x2).toInt64))), .second, .val (.int (x2 + (x3 - x2))), .val (.int ((S &&& (65535 : Int64)).toInt32)), .val (.int (x3 - x2)), .val (.ref bz_9)] [(.ref stt)])) st31 ?_
    refine own_step (st' := T31.setTop (mkF m 169 #[.val (.ref x0), .val (.ref x1), .val (.int x2), .val (.int x3), .val (.long (S + ((x3 - x2).toInt64))), .second, .val (.int (x2 + (x3 - x2))), .val (.int ((S &&& (65535 : Int64)).toInt32)), .val (.int (x3 - x2)), .val (.ref bz_9)] [(.ref x0), (.ref stt)])) (fun t k => XS.aloadN X31.here hx rfl (hb hby d3_168) rfl rfl k) ?_
    obtain ⟨T32, X32, e32, st32⟩ := getF X31 hx hZ hown (host := "") (Or.inl (hw _ (List.mem_of_getElem? (i := 25) rfl))) Via.refl e31 f21 (g := (mkF m 169 #[.val (.ref x0), .val (.ref x1), .val (.int x2), .val (.int x3), .val (.long (S + ((x3 - x2).toInt64))), .second, .val (.int (x2 + (x3 - x2))), .val (.int ((S &&& (65535 : Int64)).toInt32)), .val (.int (x3 - x2)), .val (.ref bz_9)] [(.ref x0), (.ref stt)])) rfl rfl (hb hby d3_169)
    refine own_step (st' := T32.setTop (mkF m 172 #[.val (.ref x0), .val (.ref x1), .val (.int x2), .val (.int x3), .val (.long (S + ((x3 - x2).toInt64))), .second, .val (.int (x2 + (x3 - x2))), .val (.int ((S &&& (65535 : Int64)).toInt32)), .val (.int (x3 - x2)), .val (.ref bz_9)] [(.int n), (.ref stt)])) st32 ?_
    refine own_step (st' := T32.setTop (mkF m 173 #[.val (.ref x0), .val (.ref x1), .val (.int x2), .val (.int x3), .val (.long (S + ((x3 - x2).toInt64))), .second, .val (.int (x2 + (x3 - x2))), .val (.int ((S &&& (65535 : Int64)).toInt32)), .val (.int (x3 - x2)), .val (.ref bz_9)] [(.int (1 : Int32)), (.int n), (.ref stt)])) (fun t k => XS.iconst X32.here hx rfl (hb hby d3_172) k) ?_
    refine own_step (st' := T32.setTop (mkF m 174 #[.val (.ref x0), .val (.ref x1), .val (.int x2), .val (.int x3), .val (.long (S + ((x3 - x2).toInt64))), .second, .val (.int (x2 + (x3 - x2))), .val (.int ((S &&& (65535 : Int64)).toInt32)), .val (.int (x3 - x2)), .val (.ref bz_9)] [(.int (n + (1 : Int32))), (.ref stt)])) (fun t k => XS.iadd X32.here hx rfl (hb hby d3_173) rfl k) ?_
    refine own_step (st' := T32.setTop (mkF m 176 #[.val (.ref x0), .val (.ref x1), .val (.int x2), .val (.int x3), .val (.long (S + ((x3 - x2).toInt64))), .second, .val (.int (x2 + (x3 - x2))), .val (.int ((S &&& (65535 : Int64)).toInt32)), .val (.int (x3 - x2)), .val (.ref bz_9)] [(.long (S + ((x3 - x2).toInt64))), (.int (n + (1 : Int32))), (.ref stt)])) (fun t k => XS.lload X32.here hx rfl (hb hby d3_174) rfl k) ?_
    obtain ⟨T33, h33, X33, e33, W33, V33, st33⟩ := own_stJ X32 hx hZ e32 f26 (j := (n + (1 : Int32))) (i := (n + (1 : Int32)).toNatClampNeg) (own_in (by omega) (by rw [h16]; omega)) rfl (by have := nat_of (own_ofNeg (x := n + 1) (by omega)); rw [p_26]; omega) (g := (mkF m 176 #[.val (.ref x0), .val (.ref x1), .val (.int x2), .val (.int x3), .val (.long (S + ((x3 - x2).toInt64))), .second, .val (.int (x2 + (x3 - x2))), .val (.int ((S &&& (65535 : Int64)).toInt32)), .val (.int (x3 - x2)), .val (.ref bz_9)] [(.long (S + ((x3 - x2).toInt64))), (.int (n + (1 : Int32))), (.ref stt)])) rfl rfl (hb hby d3_176)
    have V33 : Arv Z h33 stt ks .long (16 : Int32) (vss.set (n + (1 : Int32)).toNatClampNeg (.long (S + ((x3 - x2).toInt64)))) (.long (0 : Int64)) := V33
    have f34 := f21.other W33 (Or.inl p_16)
    have f35 := f22.other W33 (Or.inl p_16)
    have f36 := f23.other W33 (Or.inl p_16)
    have f37 := f24.other W33 (Or.inl p_16)
    have f38 := f25.wr W33
    have f39 := f27.other W33 p_19
    have f40 := f28.other W33 p_21
    have f41 := V20.other W33 nz9_stt
    have K42 : Keep h0 h33 [x0, ch, by_, stt] := K29.wr W33 (Or.inl (List.mem_of_getElem? (i := 3) rfl))
    have Z43 : n0 ≤ h33.size := Nat.le_trans Z30 (Keep.of_wr W33).1
    have N44 := Fr.snoc X33 N20 p_8
    refine own_step (st' := T33.setTop (mkF m 177 #[.val (.ref x0), .val (.ref x1), .val (.int x2), .val (.int x3), .val (.long (S + ((x3 - x2).toInt64))), .second, .val (.int (x2 + (x3 - x2))), .val (.int ((S &&& (65535 : Int64)).toInt32)), .val (.int (x3 - x2)), .val (.ref bz_9)] [])) st33 ?_
    refine own_step (st' := T33.setTop (mkF m 178 #[.val (.ref x0), .val (.ref x1), .val (.int x2), .val (.int x3), .val (.long (S + ((x3 - x2).toInt64))), .second, .val (.int (x2 + (x3 - x2))), .val (.int ((S &&& (65535 : Int64)).toInt32)), .val (.int (x3 - x2)), .val (.ref bz_9)] [(.ref x0)])) (fun t k => XS.aloadN X33.here hx rfl (hb hby d3_177) rfl rfl k) ?_
    refine own_step (st' := T33.setTop (mkF m 179 #[.val (.ref x0), .val (.ref x1), .val (.int x2), .val (.int x3), .val (.long (S + ((x3 - x2).toInt64))), .second, .val (.int (x2 + (x3 - x2))), .val (.int ((S &&& (65535 : Int64)).toInt32)), .val (.int (x3 - x2)), .val (.ref bz_9)] [(.ref x0), (.ref x0)])) (fun t k => XS.dup X33.here hx rfl (hb hby d3_178) rfl rfl k) ?_
    obtain ⟨T45, X45, e45, st45⟩ := getF X33 hx hZ hown (host := "") (Or.inl (hw _ (List.mem_of_getElem? (i := 25) rfl))) Via.refl e33 f34 (g := (mkF m 179 #[.val (.ref x0), .val (.ref x1), .val (.int x2), .val (.int x3), .val (.long (S + ((x3 - x2).toInt64))), .second, .val (.int (x2 + (x3 - x2))), .val (.int ((S &&& (65535 : Int64)).toInt32)), .val (.int (x3 - x2)), .val (.ref bz_9)] [(.ref x0), (.ref x0)])) rfl rfl (hb hby d3_179)
    refine own_step (st' := T45.setTop (mkF m 182 #[.val (.ref x0), .val (.ref x1), .val (.int x2), .val (.int x3), .val (.long (S + ((x3 - x2).toInt64))), .second, .val (.int (x2 + (x3 - x2))), .val (.int ((S &&& (65535 : Int64)).toInt32)), .val (.int (x3 - x2)), .val (.ref bz_9)] [(.int n), (.ref x0)])) st45 ?_
    refine own_step (st' := T45.setTop (mkF m 183 #[.val (.ref x0), .val (.ref x1), .val (.int x2), .val (.int x3), .val (.long (S + ((x3 - x2).toInt64))), .second, .val (.int (x2 + (x3 - x2))), .val (.int ((S &&& (65535 : Int64)).toInt32)), .val (.int (x3 - x2)), .val (.ref bz_9)] [(.int (1 : Int32)), (.int n), (.ref x0)])) (fun t k => XS.iconst X45.here hx rfl (hb hby d3_182) k) ?_
    refine own_step (st' := T45.setTop (mkF m 184 #[.val (.ref x0), .val (.ref x1), .val (.int x2), .val (.int x3), .val (.long (S + ((x3 - x2).toInt64))), .second, .val (.int (x2 + (x3 - x2))), .val (.int ((S &&& (65535 : Int64)).toInt32)), .val (.int (x3 - x2)), .val (.ref bz_9)] [(.int (n + (1 : Int32))), (.ref x0)])) (fun t k => XS.iadd X45.here hx rfl (hb hby d3_183) rfl k) ?_
    obtain ⟨T46, h46, X46, e46, W46, st46⟩ := putF X45 hx hZ hown (host := "") (Or.inl (hw _ (List.mem_of_getElem? (i := 25) rfl))) Via.refl e45 f34 f38 (Or.inl (hw _ (List.mem_of_getElem? (i := 26) rfl))) (hw _ (List.mem_of_getElem? (i := 2) rfl)) (ty := .int) (by decide) rfl rfl (g := (mkF m 184 #[.val (.ref x0), .val (.ref x1), .val (.int x2), .val (.int x3), .val (.long (S + ((x3 - x2).toInt64))), .second, .val (.int (x2 + (x3 - x2))), .val (.int ((S &&& (65535 : Int64)).toInt32)), .val (.int (x3 - x2)), .val (.ref bz_9)] [(.int (n + (1 : Int32))), (.ref x0)])) rfl rfl (hb hby d3_184)
    have F46 := f34.same W46
    have f47 := f35.other W46 (Or.inr (slot_ne (Or.inr (hw _ (List.mem_of_getElem? (i := 19) rfl))) (Or.inl (hw _ (List.mem_of_getElem? (i := 26) rfl))) (by decide) (t := .int) (t' := .int) (by decide) (by decide)))
    have f48 := f36.other W46 (Or.inr (slot_ne (Or.inl (hw _ (List.mem_of_getElem? (i := 14) rfl))) (Or.inl (hw _ (List.mem_of_getElem? (i := 26) rfl))) (by decide) (t := (.array (.array .byte))) (t' := .int) (by decide) (by decide)))
    have f49 := f37.other W46 (Or.inr (slot_ne (Or.inl (hw _ (List.mem_of_getElem? (i := 17) rfl))) (Or.inl (hw _ (List.mem_of_getElem? (i := 26) rfl))) (by decide) (t := (.array .long)) (t' := .int) (by decide) (by decide)))
    have f50 := f38.wr W46
    have f51 := f39.other W46 (Ne.symm p_13)
    have f52 := f40.other W46 (Ne.symm p_14)
    have f53 := f41.other W46 nz9_x0
    have f54 := V33.other W46 (Ne.symm p_16)
    have K55 : Keep h0 h46 [x0, ch, by_, stt] := K42.wr W46 (Or.inl (List.mem_of_getElem? (i := 0) rfl))
    have Z56 : n0 ≤ h46.size := Nat.le_trans Z43 (Keep.of_wr W46).1
    have N57 := Fr.snoc X46 N44 p_5
    refine own_step (st' := T46.setTop (mkF m 187 #[.val (.ref x0), .val (.ref x1), .val (.int x2), .val (.int x3), .val (.long (S + ((x3 - x2).toInt64))), .second, .val (.int (x2 + (x3 - x2))), .val (.int ((S &&& (65535 : Int64)).toInt32)), .val (.int (x3 - x2)), .val (.ref bz_9)] [])) st46 ?_
    refine own_ret X46 Bd.notSynchronized (none) (fun _ => rfl) (fun fs hr => X46.returnOut hx Bd.returns (hb hby d3_187) hr) ?_ (by decide) (by decide)
    rw [e46]
    exact ⟨bz_9, kz_9, nz_9, vd20, dz_9, rfl, N57, K55, pq9_2, nz9_x0, nz9_x1, nz9_ch, nz9_stt, (by have := pq9_1; rw [own_add (x := (S &&& (65535 : Int64)).toInt32) (y := x3 - x2) ⟨by omega, by omega⟩ ⟨by omega, by omega⟩] at this; omega), F46, f47, f48, f49, f52, f53, f54⟩
  · refine own_step (st' := T6.setTop (mkF m 164 #[.val (.ref x0), .val (.ref x1), .val (.int x2), .val (.int x3), .val (.long S), .second, .val (.int x2), .unset, .unset, .unset] [])) (fun t k => XS.icmpYes X6.here hx rfl (pc0 := 91) (pc' := 164) rfl (hb hby d3_91) rfl (flt hc7).2.1 (by decide) (by decide) k) ?_
    refine own_step (st' := T6.setTop (mkF m 165 #[.val (.ref x0), .val (.ref x1), .val (.int x2), .val (.int x3), .val (.long S), .second, .val (.int x2), .unset, .unset, .unset] [(.ref x0)])) (fun t k => XS.aloadN X6.here hx rfl (hb hby d3_164) rfl rfl k) ?_
    obtain ⟨T58, X58, e58, st58⟩ := getF X6 hx hZ hown (host := "") (Or.inl (hw _ (List.mem_of_getElem? (i := 16) rfl))) Via.refl e6 p_3 (g := (mkF m 165 #[.val (.ref x0), .val (.ref x1), .val (.int x2), .val (.int x3), .val (.long S), .second, .val (.int x2), .unset, .unset, .unset] [(.ref x0)])) rfl rfl (hb hby d3_165)
    refine own_step (st' := T58.setTop (mkF m 168 #[.val (.ref x0), .val (.ref x1), .val (.int x2), .val (.int x3), .val (.long S), .second, .val (.int x2), .unset, .unset, .unset] [(.ref stt)])) st58 ?_
    refine own_step (st' := T58.setTop (mkF m 169 #[.val (.ref x0), .val (.ref x1), .val (.int x2), .val (.int x3), .val (.long S), .second, .val (.int x2), .unset, .unset, .unset] [(.ref x0), (.ref stt)])) (fun t k => XS.aloadN X58.here hx rfl (hb hby d3_168) rfl rfl k) ?_
    obtain ⟨T59, X59, e59, st59⟩ := getF X58 hx hZ hown (host := "") (Or.inl (hw _ (List.mem_of_getElem? (i := 25) rfl))) Via.refl e58 p_0 (g := (mkF m 169 #[.val (.ref x0), .val (.ref x1), .val (.int x2), .val (.int x3), .val (.long S), .second, .val (.int x2), .unset, .unset, .unset] [(.ref x0), (.ref stt)])) rfl rfl (hb hby d3_169)
    refine own_step (st' := T59.setTop (mkF m 172 #[.val (.ref x0), .val (.ref x1), .val (.int x2), .val (.int x3), .val (.long S), .second, .val (.int x2), .unset, .unset, .unset] [(.int n), (.ref stt)])) st59 ?_
    refine own_step (st' := T59.setTop (mkF m 173 #[.val (.ref x0), .val (.ref x1), .val (.int x2), .val (.int x3), .val (.long S), .second, .val (.int x2), .unset, .unset, .unset] [(.int (1 : Int32)), (.int n), (.ref stt)])) (fun t k => XS.iconst X59.here hx rfl (hb hby d3_172) k) ?_
    refine own_step (st' := T59.setTop (mkF m 174 #[.val (.ref x0), .val (.ref x1), .val (.int x2), .val (.int x3), .val (.long S), .second, .val (.int x2), .unset, .unset, .unset] [(.int (n + (1 : Int32))), (.ref stt)])) (fun t k => XS.iadd X59.here hx rfl (hb hby d3_173) rfl k) ?_
    refine own_step (st' := T59.setTop (mkF m 176 #[.val (.ref x0), .val (.ref x1), .val (.int x2), .val (.int x3), .val (.long S), .second, .val (.int x2), .unset, .unset, .unset] [(.long S), (.int (n + (1 : Int32))), (.ref stt)])) (fun t k => XS.lload X59.here hx rfl (hb hby d3_174) rfl k) ?_
    obtain ⟨T60, h60, X60, e60, W60, V60, st60⟩ := own_stJ X59 hx hZ e59 p_11 (j := (n + (1 : Int32))) (i := (n + (1 : Int32)).toNatClampNeg) (own_in (by omega) (by rw [h16]; omega)) rfl (by have := nat_of (own_ofNeg (x := n + 1) (by omega)); rw [p_26]; omega) (g := (mkF m 176 #[.val (.ref x0), .val (.ref x1), .val (.int x2), .val (.int x3), .val (.long S), .second, .val (.int x2), .unset, .unset, .unset] [(.long S), (.int (n + (1 : Int32))), (.ref stt)])) rfl rfl (hb hby d3_176)
    have V60 : Arv Z h60 stt ks .long (16 : Int32) (vss.set (n + (1 : Int32)).toNatClampNeg (.long S)) (.long (0 : Int64)) := V60
    have f61 := p_0.other W60 (Or.inl p_16)
    have f62 := p_1.other W60 (Or.inl p_16)
    have f63 := p_2.other W60 (Or.inl p_16)
    have f64 := p_3.other W60 (Or.inl p_16)
    have f65 := p_4.wr W60
    have f66 := p_9.other W60 p_21
    have f67 := p_10.other W60 p_22
    have f68 := p_12.other W60 p_19
    have K69 : Keep h0 h60 [x0, ch, by_, stt] := (Keep.refl h0 [x0, ch, by_, stt]).wr W60 (Or.inl (List.mem_of_getElem? (i := 3) rfl))
    have Z70 : n0 ≤ h60.size := Nat.le_trans Z0 (Keep.of_wr W60).1
    have N71 := Fr.snoc X60 N0 p_8
    refine own_step (st' := T60.setTop (mkF m 177 #[.val (.ref x0), .val (.ref x1), .val (.int x2), .val (.int x3), .val (.long S), .second, .val (.int x2), .unset, .unset, .unset] [])) st60 ?_
    refine own_step (st' := T60.setTop (mkF m 178 #[.val (.ref x0), .val (.ref x1), .val (.int x2), .val (.int x3), .val (.long S), .second, .val (.int x2), .unset, .unset, .unset] [(.ref x0)])) (fun t k => XS.aloadN X60.here hx rfl (hb hby d3_177) rfl rfl k) ?_
    refine own_step (st' := T60.setTop (mkF m 179 #[.val (.ref x0), .val (.ref x1), .val (.int x2), .val (.int x3), .val (.long S), .second, .val (.int x2), .unset, .unset, .unset] [(.ref x0), (.ref x0)])) (fun t k => XS.dup X60.here hx rfl (hb hby d3_178) rfl rfl k) ?_
    obtain ⟨T72, X72, e72, st72⟩ := getF X60 hx hZ hown (host := "") (Or.inl (hw _ (List.mem_of_getElem? (i := 25) rfl))) Via.refl e60 f61 (g := (mkF m 179 #[.val (.ref x0), .val (.ref x1), .val (.int x2), .val (.int x3), .val (.long S), .second, .val (.int x2), .unset, .unset, .unset] [(.ref x0), (.ref x0)])) rfl rfl (hb hby d3_179)
    refine own_step (st' := T72.setTop (mkF m 182 #[.val (.ref x0), .val (.ref x1), .val (.int x2), .val (.int x3), .val (.long S), .second, .val (.int x2), .unset, .unset, .unset] [(.int n), (.ref x0)])) st72 ?_
    refine own_step (st' := T72.setTop (mkF m 183 #[.val (.ref x0), .val (.ref x1), .val (.int x2), .val (.int x3), .val (.long S), .second, .val (.int x2), .unset, .unset, .unset] [(.int (1 : Int32)), (.int n), (.ref x0)])) (fun t k => XS.iconst X72.here hx rfl (hb hby d3_182) k) ?_
    refine own_step (st' := T72.setTop (mkF m 184 #[.val (.ref x0), .val (.ref x1), .val (.int x2), .val (.int x3), .val (.long S), .second, .val (.int x2), .unset, .unset, .unset] [(.int (n + (1 : Int32))), (.ref x0)])) (fun t k => XS.iadd X72.here hx rfl (hb hby d3_183) rfl k) ?_
    obtain ⟨T73, h73, X73, e73, W73, st73⟩ := putF X72 hx hZ hown (host := "") (Or.inl (hw _ (List.mem_of_getElem? (i := 25) rfl))) Via.refl e72 f61 f65 (Or.inl (hw _ (List.mem_of_getElem? (i := 26) rfl))) (hw _ (List.mem_of_getElem? (i := 2) rfl)) (ty := .int) (by decide) rfl rfl (g := (mkF m 184 #[.val (.ref x0), .val (.ref x1), .val (.int x2), .val (.int x3), .val (.long S), .second, .val (.int x2), .unset, .unset, .unset] [(.int (n + (1 : Int32))), (.ref x0)])) rfl rfl (hb hby d3_184)
    have F73 := f61.same W73
    have f74 := f62.other W73 (Or.inr (slot_ne (Or.inr (hw _ (List.mem_of_getElem? (i := 19) rfl))) (Or.inl (hw _ (List.mem_of_getElem? (i := 26) rfl))) (by decide) (t := .int) (t' := .int) (by decide) (by decide)))
    have f75 := f63.other W73 (Or.inr (slot_ne (Or.inl (hw _ (List.mem_of_getElem? (i := 14) rfl))) (Or.inl (hw _ (List.mem_of_getElem? (i := 26) rfl))) (by decide) (t := (.array (.array .byte))) (t' := .int) (by decide) (by decide)))
    have f76 := f64.other W73 (Or.inr (slot_ne (Or.inl (hw _ (List.mem_of_getElem? (i := 17) rfl))) (Or.inl (hw _ (List.mem_of_getElem? (i := 26) rfl))) (by decide) (t := (.array .long)) (t' := .int) (by decide) (by decide)))
    have f77 := f65.wr W73
    have f78 := f66.other W73 (Ne.symm p_14)
    have f79 := f67.other W73 (Ne.symm p_15)
    have f80 := f68.other W73 (Ne.symm p_13)
    have f81 := V60.other W73 (Ne.symm p_16)
    have K82 : Keep h0 h73 [x0, ch, by_, stt] := K69.wr W73 (Or.inl (List.mem_of_getElem? (i := 0) rfl))
    have Z83 : n0 ≤ h73.size := Nat.le_trans Z70 (Keep.of_wr W73).1
    have N84 := Fr.snoc X73 N71 p_5
    refine own_step (st' := T73.setTop (mkF m 187 #[.val (.ref x0), .val (.ref x1), .val (.int x2), .val (.int x3), .val (.long S), .second, .val (.int x2), .unset, .unset, .unset] [])) st73 ?_
    refine own_ret X73 Bd.notSynchronized (none) (fun _ => rfl) (fun fs hr => X73.returnOut hx Bd.returns (hb hby d3_187) hr) ?_ (by decide) (by decide)
    rw [e73]
    have hSS : S = S + (x3 - x2).toInt64 := own_ext ⟨by omega, by omega⟩ hc7 S
    exact ⟨by_, kb, nb, vb, db, rfl, N84, K82, p_7, (Ne.symm p_15), (Ne.symm p_18), (Ne.symm p_20), p_22, (by omega), F73, f74, f75, f76, f78, f79, (by have q := f81; rw [hSS] at q; exact q)⟩
def Q_rmC2 (Z : State) (x0 : Addr) (x1 : Int32) (k : ClassId) (n : Int32) (vs : List Value) (dv : Value) (h0 : Heap) (n0 : Nat) (v : Option Value) (h : Heap) (L : List Loc) : Prop := ∃ b : Addr, ∃ kb : ClassId, ∃ vb : List Value, v = some (.ref b) ∧ Fr n0 L ∧ Keep h0 h [] ∧ h0.size ≤ b ∧ Exa Z h b "[B" ∧ Arv Z h b kb .byte x1 vb (.int (0 : Int32))
set_option maxRecDepth 65536 in
set_option maxHeartbeats 40000000 in
theorem rmC2 (l : Launch) (Z : State) (a0 : Array Value) (hw : ∀ d ∈ tables_1, d.before a0 Z = true) (ws : List Jvm.Cond) (x0 : Addr) (x1 : Int32) (k : ClassId) (n : Int32) (vs : List Value) (dv : Value) (h0 : Heap) (n0 : Nat) (Z0 : n0 ≤ h0.size) (p_0 : Arv Z h0 x0 k .byte n vs dv) (p_1 : 0 ≤ n.toInt) (p_2 : n.toInt < x1.toInt) (p_3 : x1.toInt ≤ 4092) :
    MetFree l (⟨"java/util/Arrays", "copyOf", "([BI)[B"⟩ : MethodName) (head1 (Jvm.Cond.code (⟨"java/util/Arrays", "copyOf", "([BI)[B"⟩ : MethodName) jdk_65_method_121_code 3 (some (.array .byte)) :: ws) ({ frames := 1, cells := 1, slots := 4092, locals := 18 } : Room)) (fun a U => a = #[(.ref x0), (.int x1)] ∧ Z.Warmed39 U.vm ∧ U.heap = h0) (fun _ _ _ _ _ => True) (fun _ U o U' => ∃ v L, o = .returned v ∧ Q_rmC2 Z x0 x1 k n vs dv h0 n0 v U'.heap L ∧ FrameEnd U o U' L ({ frames := 1, cells := 1, slots := 4092, locals := 18 } : Room).cells ({ frames := 1, cells := 1, slots := 4092, locals := 18 } : Room).slots) := by
  refine MetFree.of_bodySF (plainFor_of_name pn_4) hisR ?_
  intro p e s m args below meth c s₁ Bd hml0 hP hK
  obtain ⟨rfl, hZ, hh⟩ := hP
  have hx := Bd.exec
  have hby := Bd.bytes
  have hml : c.maxLocals = 3 := hml0
  have hown : s.vm.findClass "java/util/Arrays" = some m.cls := findClass_of_methodNamed Bd.named
  have hnm := (name_of_methodNamed Bd.named Bd.method).1
  have X0 : Stand p l e ({ frames := 1, cells := 1, slots := 4092, locals := 18 } : Room) s m #[(.ref x0), (.int x1)] below meth c s₁ [] 0 0 := Stand.of_body Bd
  have e0 : s₁.heap = h0 := by rw [← hh, Bd.state]; rfl
  have N0 := Fr.nil n0
  show own_Ends p e below s ({ frames := 1, cells := 1, slots := 4092, locals := 18 } : Room).cells ({ frames := 1, cells := 1, slots := 4092, locals := 18 } : Room).slots (Q_rmC2 Z x0 x1 k n vs dv h0 n0) (s₁.setTop (entryFrame m #[(.ref x0), (.int x1)] 3))
  rw [ef_8_RI]
  refine own_step (st' := s₁.setTop (mkF m 1 #[.val (.ref x0), .val (.int x1), .unset] [(.int x1)])) (fun t k => XS.iloadN X0.here hx rfl (hb hby d8_0) rfl k) ?_
  refine own_step (st' := s₁.setTop (mkF m 2 #[.val (.ref x0), .val (.int x1), .unset] [(.ref x0), (.int x1)])) (fun t k => XS.aloadN X0.here hx rfl (hb hby d8_1) rfl rfl k) ?_
  refine own_step (st' := s₁.setTop (mkF m 3 #[.val (.ref x0), .val (.int x1), .unset] [(.int n), (.int x1)])) (fun t k => own_len X0 hx hZ e0 p_0 (g := (mkF m 2 #[.val (.ref x0), .val (.int x1), .unset] [(.ref x0), (.int x1)])) rfl rfl (hb hby d8_2) t k) ?_
  refine own_step (st' := s₁.setTop (mkF m 14 #[.val (.ref x0), .val (.int x1), .unset] [])) (fun t k => XS.icmpYes X0.here hx rfl (pc0 := 3) (pc' := 14) rfl (hb hby d8_3) rfl (feq (fun q => by rw [q] at p_2; omega)).2 (by decide) (by decide) k) ?_
  refine own_step (st' := s₁.setTop (mkF m 15 #[.val (.ref x0), .val (.int x1), .unset] [(.int x1)])) (fun t k => XS.iloadN X0.here hx rfl (hb hby d8_14) rfl k) ?_
  obtain ⟨T1, h1, k1, X1, e1, E1, A1, Ex1, st1⟩ := newPE X0 hx hZ (hw _ (List.mem_of_getElem? (i := 0) rfl)) e0 (g := (mkF m 15 #[.val (.ref x0), .val (.int x1), .unset] [(.int x1)])) rfl (hb hby d8_15) rfl (own_ofNeg (by omega)) (cap := 4092) (own_le (by omega) (by omega)) (by decide) (by decide) (by decide) (ad := "[B") (by decide +kernel)
  obtain ⟨b1, g1⟩ : ∃ z, z = h0.size := ⟨_, rfl⟩
  rw [← g1] at A1 Ex1 st1
  have ne2 : x0 ≠ b1 := Nat.ne_of_lt (Nat.lt_of_lt_of_le p_0.lt (Nat.le_of_eq g1.symm))
  have g_b1 : n0 ≤ b1 := Nat.le_trans Z0 (Nat.le_of_eq g1.symm)
  have sz_b1 : h0.size ≤ b1 := Nat.le_trans (Keep.refl h0 []).1 (Nat.le_of_eq g1.symm)
  have f3 := p_0.ext E1
  have K4 : Keep h0 h1 [] := (Keep.refl h0 []).ext E1
  have Z5 : n0 ≤ h1.size := Nat.le_trans Z0 E1.1
  have V1 : Arv Z h1 b1 k1 .byte x1 [] (.int (0 : Int32)) := Arv.new A1 (own_ofNeg (by omega))
  refine own_step (st' := T1.setTop (mkF m 17 #[.val (.ref x0), .val (.int x1), .unset] [(.ref b1)])) st1 ?_
  refine own_step (st' := T1.setTop (mkF m 18 #[.val (.ref x0), .val (.int x1), .val (.ref b1)] [])) (fun t k => XS.astoreN X1.here hx rfl (hb hby d8_17) rfl rfl (l' := #[.val (.ref x0), .val (.int x1), .val (.ref b1)]) rfl k) ?_
  refine own_step (st' := T1.setTop (mkF m 19 #[.val (.ref x0), .val (.int x1), .val (.ref b1)] [(.ref x0)])) (fun t k => XS.aloadN X1.here hx rfl (hb hby d8_18) rfl rfl k) ?_
  refine own_step (st' := T1.setTop (mkF m 20 #[.val (.ref x0), .val (.int x1), .val (.ref b1)] [(.int (0 : Int32)), (.ref x0)])) (fun t k => XS.iconst X1.here hx rfl (hb hby d8_19) k) ?_
  refine own_step (st' := T1.setTop (mkF m 21 #[.val (.ref x0), .val (.int x1), .val (.ref b1)] [(.ref b1), (.int (0 : Int32)), (.ref x0)])) (fun t k => XS.aloadN X1.here hx rfl (hb hby d8_20) rfl rfl k) ?_
  refine own_step (st' := T1.setTop (mkF m 22 #[.val (.ref x0), .val (.int x1), .val (.ref b1)] [(.int (0 : Int32)), (.ref b1), (.int (0 : Int32)), (.ref x0)])) (fun t k => XS.iconst X1.here hx rfl (hb hby d8_21) k) ?_
  refine own_step (st' := T1.setTop (mkF m 23 #[.val (.ref x0), .val (.int x1), .val (.ref b1)] [(.ref x0), (.int (0 : Int32)), (.ref b1), (.int (0 : Int32)), (.ref x0)])) (fun t k => XS.aloadN X1.here hx rfl (hb hby d8_22) rfl rfl k) ?_
  refine own_step (st' := T1.setTop (mkF m 24 #[.val (.ref x0), .val (.int x1), .val (.ref b1)] [(.int n), (.int (0 : Int32)), (.ref b1), (.int (0 : Int32)), (.ref x0)])) (fun t k => own_len X1 hx hZ e1 f3 (g := (mkF m 23 #[.val (.ref x0), .val (.int x1), .val (.ref b1)] [(.ref x0), (.int (0 : Int32)), (.ref b1), (.int (0 : Int32)), (.ref x0)])) rfl rfl (hb hby d8_23) t k) ?_
  refine own_step (st' := T1.setTop (mkF m 25 #[.val (.ref x0), .val (.int x1), .val (.ref b1)] [(.int x1), (.int n), (.int (0 : Int32)), (.ref b1), (.int (0 : Int32)), (.ref x0)])) (fun t k => XS.iloadN X1.here hx rfl (hb hby d8_24) rfl k) ?_
  obtain ⟨_, _, ⟨T6, L6, k6, n6⟩, -, X6, ⟨Lc6, hQ6, l6, y6, z6⟩, st6⟩ := Jvm.LawKit.callS X1 hx (y := (⟨"java/lang/Math", "min", "(II)I"⟩ : MethodName)) hown (mvT hZ (hw _ (List.mem_of_getElem? (i := 53) rfl))) (mvT hZ (hw _ (List.mem_of_getElem? (i := 30) rfl))) (mvT hZ (hw _ (List.mem_of_getElem? (i := 31) rfl))) (mvT hZ (hw _ (List.mem_of_getElem? (i := 32) rfl))) (by decide) (backOf (W := 4) (rm4 l Z a0 hw [] n x1 h1 n0 Z5) hZ (hw _ (List.mem_of_getElem? (i := 32) rfl)) (hw _ (List.mem_of_getElem? (i := 31) rfl)) (by decide) (by decide)) (g := (mkF m 25 #[.val (.ref x0), .val (.int x1), .val (.ref b1)] [(.int x1), (.int n), (.int (0 : Int32)), (.ref b1), (.int (0 : Int32)), (.ref x0)])) rfl (by rw [hml]; rfl) (argsL := [(.int n), (.int x1)]) (rest := [(.int (0 : Int32)), (.ref b1), (.int (0 : Int32)), (.ref x0)]) (lenOf pd_3 rfl) rfl (by show 2 * 0 + _ ≤ _; exact Nat.le_of_eq rfl) (hb hby d8_25) (fun _ _ => ⟨rfl, e1, (by decide : 1 + 0 ≤ _), (by decide : 4092 + 0 ≤ _)⟩)
  dsimp only [Pt.U, Pt.locs, Pt.cells, Pt.slots] at X6 l6 y6 z6 st6 hQ6
  subst l6 y6 z6
  obtain ⟨rfl, N6q, e6⟩ := hQ6
  have N6 := Fr.app N0 N6q
  refine own_step (st' := T6.setTop (mkF m 28 #[.val (.ref x0), .val (.int x1), .val (.ref b1)] [(.int (if x1 < n then x1 else n)), (.int (0 : Int32)), (.ref b1), (.int (0 : Int32)), (.ref x0)])) st6 ?_
  have hmn : (if x1 < n then x1 else n) = n := if_neg (by rw [Int32.lt_iff_toInt_lt]; omega)
  obtain ⟨T7, h7, L7, vd7, X7, e7, N7, K7, V7, cp7, st7⟩ := own_cp X6 hx hZ hown (hw _ (List.mem_of_getElem? (i := 54) rfl)) (hw _ (List.mem_of_getElem? (i := 40) rfl)) (hw _ (List.mem_of_getElem? (i := 38) rfl)) (hw _ (List.mem_of_getElem? (i := 39) rfl)) e6 f3 V1 rfl (by decide) (by decide) (by rw [hmn]; omega) (by rw [hmn]; show (0 : Int) + _ ≤ _; omega) (by rw [hmn]; show (0 : Int) + _ ≤ _; omega) N6 g_b1 (g := (mkF m 28 #[.val (.ref x0), .val (.int x1), .val (.ref b1)] [(.int (if x1 < n then x1 else n)), (.int (0 : Int32)), (.ref b1), (.int (0 : Int32)), (.ref x0)])) rfl (by rw [hml]; rfl) rfl (hb hby d8_28) (by decide) (W := 0) (by show 2 * 0 + _ ≤ _; exact Nat.le_of_eq rfl) (by decide)
  have f8 := f3.keep K7 (ninS ne2 nin0)
  have f9 := Ex1.keep K7
  have K10 : Keep h0 h7 [] := K4.trans K7 (allS (Or.inr sz_b1) all0)
  have Z11 : n0 ≤ h7.size := Nat.le_trans Z5 K7.1
  refine own_step (st' := T7.setTop (mkF m 31 #[.val (.ref x0), .val (.int x1), .val (.ref b1)] [])) st7 ?_
  refine own_step (st' := T7.setTop (mkF m 32 #[.val (.ref x0), .val (.int x1), .val (.ref b1)] [(.ref b1)])) (fun t k => XS.aloadN X7.here hx rfl (hb hby d8_31) rfl rfl k) ?_
  refine own_ret X7 Bd.notSynchronized (some (.ref b1)) (fun h => by rw [Bd.returns] at h; cases h) (fun fs hr => retOut X7 hx Bd.returns rfl (Or.inr (Or.inr (Or.inr (Or.inr ⟨rfl, rfl, rfl⟩)))) (hb hby d8_32) hr) ?_ (by decide) (by decide)
  rw [e7]
  exact ⟨b1, k1, vd7, rfl, N7, K10, sz_b1, f9, V7⟩
def Q_rmR2 (Z : State) (x0 : Addr) (x1 : Int32) (x2 : Int32) (ch : Addr) (kc : ClassId) (by_ : Addr) (kb : ClassId) (nb : Int32) (vb : List Value) (db : Value) (h0 : Heap) (n0 : Nat) (v : Option Value) (h : Heap) (L : List Loc) : Prop := ∃ bz : Addr, ∃ kz : ClassId, ∃ nz : Int32, ∃ vz : List Value, ∃ dz : Value, v = some (.ref bz) ∧ Fr n0 L ∧ Keep h0 h [ch] ∧ (bz = by_ ∨ h0.size ≤ bz) ∧ x2.toInt ≤ nz.toInt ∧ n0 ≤ bz ∧ Fld Z h x0 "com/example/link_importance/linkimportance/graph/NameList" "chunks" "[[B" (.ref ch) ∧ Arv Z h ch kc (.array .byte) (1 : Int32) [(.ref bz)] .null ∧ Arv Z h bz kz .byte nz vz dz
set_option maxRecDepth 65536 in
set_option maxHeartbeats 40000000 in
theorem rmR2 (l : Launch) (Z : State) (a0 : Array Value) (hw : ∀ d ∈ tables_1, d.before a0 Z = true) (ws : List Jvm.Cond) (x0 : Addr) (x1 : Int32) (x2 : Int32) (ch : Addr) (kc : ClassId) (by_ : Addr) (kb : ClassId) (nb : Int32) (vb : List Value) (db : Value) (h0 : Heap) (n0 : Nat) (Z0 : n0 ≤ h0.size) (p_0 : x1 = (0 : Int32)) (p_1 : Fld Z h0 x0 "com/example/link_importance/linkimportance/graph/NameList" "chunks" "[[B" (.ref ch)) (p_2 : Arv Z h0 ch kc (.array .byte) (1 : Int32) [(.ref by_)] .null) (p_3 : Arv Z h0 by_ kb .byte nb vb db) (p_4 : OvrA Z kc .byte "[B") (p_5 : 0 ≤ nb.toInt) (p_6 : 0 ≤ x2.toInt ∧ x2.toInt ≤ 2046) (p_7 : n0 ≤ ch) (p_8 : n0 ≤ by_) (p_9 : by_ ≠ ch) (p_10 : x0 ≠ ch) :
    MetFree l (⟨"com/example/link_importance/linkimportance/graph/NameList", "room", "(II)[B"⟩ : MethodName) (head1 (Jvm.Cond.code (⟨"com/example/link_importance/linkimportance/graph/NameList", "room", "(II)[B"⟩ : MethodName) prog_23_method_12_code 4 (some (.array .byte)) :: ws) ({ frames := 2, cells := 1, slots := 4092, locals := 32 } : Room)) (fun a U => a = #[(.ref x0), (.int x1), (.int x2)] ∧ Z.Warmed39 U.vm ∧ U.heap = h0) (fun _ _ _ _ _ => True) (fun _ U o U' => ∃ v L, o = .returned v ∧ Q_rmR2 Z x0 x1 x2 ch kc by_ kb nb vb db h0 n0 v U'.heap L ∧ FrameEnd U o U' L ({ frames := 2, cells := 1, slots := 4092, locals := 32 } : Room).cells ({ frames := 2, cells := 1, slots := 4092, locals := 32 } : Room).slots) := by
  refine MetFree.of_bodySF (plainFor_of_name pn_0) hisR ?_
  intro p e s m args below meth c s₁ Bd hml0 hP hK
  obtain ⟨rfl, hZ, hh⟩ := hP
  have hx := Bd.exec
  have hby := Bd.bytes
  have hml : c.maxLocals = 4 := hml0
  have hown : s.vm.findClass "com/example/link_importance/linkimportance/graph/NameList" = some m.cls := findClass_of_methodNamed Bd.named
  have hnm := (name_of_methodNamed Bd.named Bd.method).1
  have X0 : Stand p l e ({ frames := 2, cells := 1, slots := 4092, locals := 32 } : Room) s m #[(.ref x0), (.int x1), (.int x2)] below meth c s₁ [] 0 0 := Stand.of_body Bd
  have e0 : s₁.heap = h0 := by rw [← hh, Bd.state]; rfl
  have N0 := Fr.nil n0
  show own_Ends p e below s ({ frames := 2, cells := 1, slots := 4092, locals := 32 } : Room).cells ({ frames := 2, cells := 1, slots := 4092, locals := 32 } : Room).slots (Q_rmR2 Z x0 x1 x2 ch kc by_ kb nb vb db h0 n0) (s₁.setTop (entryFrame m #[(.ref x0), (.int x1), (.int x2)] 4))
  rw [ef_5_RII]
  subst p_0
  refine own_step (st' := s₁.setTop (mkF m 1 #[.val (.ref x0), .val (.int (0 : Int32)), .val (.int x2), .unset] [(.int (0 : Int32))])) (fun t k => XS.iloadN X0.here hx rfl (hb hby d5_0) rfl k) ?_
  refine own_step (st' := s₁.setTop (mkF m 2 #[.val (.ref x0), .val (.int (0 : Int32)), .val (.int x2), .unset] [(.ref x0), (.int (0 : Int32))])) (fun t k => XS.aloadN X0.here hx rfl (hb hby d5_1) rfl rfl k) ?_
  obtain ⟨T1, X1, e1, st1⟩ := getF X0 hx hZ hown (host := "") (Or.inl (hw _ (List.mem_of_getElem? (i := 13) rfl))) Via.refl e0 p_1 (g := (mkF m 2 #[.val (.ref x0), .val (.int (0 : Int32)), .val (.int x2), .unset] [(.ref x0), (.int (0 : Int32))])) rfl rfl (hb hby d5_2)
  refine own_step (st' := T1.setTop (mkF m 5 #[.val (.ref x0), .val (.int (0 : Int32)), .val (.int x2), .unset] [(.ref ch), (.int (0 : Int32))])) st1 ?_
  refine own_step (st' := T1.setTop (mkF m 6 #[.val (.ref x0), .val (.int (0 : Int32)), .val (.int x2), .unset] [(.int (1 : Int32)), (.int (0 : Int32))])) (fun t k => own_len X1 hx hZ e1 p_2 (g := (mkF m 5 #[.val (.ref x0), .val (.int (0 : Int32)), .val (.int x2), .unset] [(.ref ch), (.int (0 : Int32))])) rfl rfl (hb hby d5_5) t k) ?_
  refine own_step (st' := T1.setTop (mkF m 26 #[.val (.ref x0), .val (.int (0 : Int32)), .val (.int x2), .unset] [])) (fun t k => XS.icmpYes X1.here hx rfl (pc0 := 6) (pc' := 26) rfl (hb hby d5_6) rfl (feq (by decide)).2 (by decide) (by decide) k) ?_
  refine own_step (st' := T1.setTop (mkF m 27 #[.val (.ref x0), .val (.int (0 : Int32)), .val (.int x2), .unset] [(.ref x0)])) (fun t k => XS.aloadN X1.here hx rfl (hb hby d5_26) rfl rfl k) ?_
  obtain ⟨T2, X2, e2, st2⟩ := getF X1 hx hZ hown (host := "") (Or.inl (hw _ (List.mem_of_getElem? (i := 13) rfl))) Via.refl e1 p_1 (g := (mkF m 27 #[.val (.ref x0), .val (.int (0 : Int32)), .val (.int x2), .unset] [(.ref x0)])) rfl rfl (hb hby d5_27)
  refine own_step (st' := T2.setTop (mkF m 30 #[.val (.ref x0), .val (.int (0 : Int32)), .val (.int x2), .unset] [(.ref ch)])) st2 ?_
  refine own_step (st' := T2.setTop (mkF m 31 #[.val (.ref x0), .val (.int (0 : Int32)), .val (.int x2), .unset] [(.int (0 : Int32)), (.ref ch)])) (fun t k => XS.iloadN X2.here hx rfl (hb hby d5_30) rfl k) ?_
  refine own_step (st' := T2.setTop (mkF m 32 #[.val (.ref x0), .val (.int (0 : Int32)), .val (.int x2), .unset] [(.ref by_)])) (fun t k => own_ldR X2 hx hZ e2 p_2 rfl (j := (0 : Int32)) (v := (.ref by_)) ⟨by decide, by decide⟩ rfl (g := (mkF m 31 #[.val (.ref x0), .val (.int (0 : Int32)), .val (.int x2), .unset] [(.int (0 : Int32)), (.ref ch)])) rfl rfl (hb hby d5_31) t k) ?_
  refine own_step (st' := T2.setTop (mkF m 33 #[.val (.ref x0), .val (.int (0 : Int32)), .val (.int x2), .val (.ref by_)] [])) (fun t k => XS.astoreN X2.here hx rfl (hb hby d5_32) rfl rfl (l' := #[.val (.ref x0), .val (.int (0 : Int32)), .val (.int x2), .val (.ref by_)]) rfl k) ?_
  refine own_step (st' := T2.setTop (mkF m 34 #[.val (.ref x0), .val (.int (0 : Int32)), .val (.int x2), .val (.ref by_)] [(.ref by_)])) (fun t k => XS.aloadN X2.here hx rfl (hb hby d5_33) rfl rfl k) ?_
  refine own_step (st' := T2.setTop (mkF m 52 #[.val (.ref x0), .val (.int (0 : Int32)), .val (.int x2), .val (.ref by_)] [])) (fun t k => XS.ifnonnullYes X2.here hx rfl (pc0 := 34) (pc' := 52) rfl (hb hby d5_34) rfl (by decide) (by decide) k) ?_
  refine own_step (st' := T2.setTop (mkF m 53 #[.val (.ref x0), .val (.int (0 : Int32)), .val (.int x2), .val (.ref by_)] [(.ref by_)])) (fun t k => XS.aloadN X2.here hx rfl (hb hby d5_52) rfl rfl k) ?_
  refine own_step (st' := T2.setTop (mkF m 54 #[.val (.ref x0), .val (.int (0 : Int32)), .val (.int x2), .val (.ref by_)] [(.int nb)])) (fun t k => own_len X2 hx hZ e2 p_3 (g := (mkF m 53 #[.val (.ref x0), .val (.int (0 : Int32)), .val (.int x2), .val (.ref by_)] [(.ref by_)])) rfl rfl (hb hby d5_53) t k) ?_
  refine own_step (st' := T2.setTop (mkF m 55 #[.val (.ref x0), .val (.int (0 : Int32)), .val (.int x2), .val (.ref by_)] [(.int x2), (.int nb)])) (fun t k => XS.iloadN X2.here hx rfl (hb hby d5_54) rfl k) ?_
  by_cases hc3 : nb < x2
  · refine own_step (st' := T2.setTop (mkF m 58 #[.val (.ref x0), .val (.int (0 : Int32)), .val (.int x2), .val (.ref by_)] [])) (fun t k => XS.icmpNo X2.here hx rfl (hb hby d5_55) rfl (tlt hc3).2.1 k) ?_
    refine own_step (st' := T2.setTop (mkF m 59 #[.val (.ref x0), .val (.int (0 : Int32)), .val (.int x2), .val (.ref by_)] [(.ref by_)])) (fun t k => XS.aloadN X2.here hx rfl (hb hby d5_58) rfl rfl k) ?_
    refine own_step (st' := T2.setTop (mkF m 61 #[.val (.ref x0), .val (.int (0 : Int32)), .val (.int x2), .val (.ref by_)] [(.int (65536 : Int32)), (.ref by_)])) (fun t k => X2.ldcInt hx hown (mvT hZ (hw _ (List.mem_of_getElem? (i := 28) rfl))) (g := (mkF m 59 #[.val (.ref x0), .val (.int (0 : Int32)), .val (.int x2), .val (.ref by_)] [(.ref by_)])) rfl (hb hby d5_59) t k) ?_
    refine own_step (st' := T2.setTop (mkF m 62 #[.val (.ref x0), .val (.int (0 : Int32)), .val (.int x2), .val (.ref by_)] [(.int x2), (.int (65536 : Int32)), (.ref by_)])) (fun t k => XS.iloadN X2.here hx rfl (hb hby d5_61) rfl k) ?_
    refine own_step (st' := T2.setTop (mkF m 63 #[.val (.ref x0), .val (.int (0 : Int32)), .val (.int x2), .val (.ref by_)] [(.int (2 : Int32)), (.int x2), (.int (65536 : Int32)), (.ref by_)])) (fun t k => XS.iconst X2.here hx rfl (hb hby d5_62) k) ?_
    refine own_step (st' := T2.setTop (mkF m 64 #[.val (.ref x0), .val (.int (0 : Int32)), .val (.int x2), .val (.ref by_)] [(.ref by_), (.int (2 : Int32)), (.int x2), (.int (65536 : Int32)), (.ref by_)])) (fun t k => XS.aloadN X2.here hx rfl (hb hby d5_63) rfl rfl k) ?_
    refine own_step (st' := T2.setTop (mkF m 65 #[.val (.ref x0), .val (.int (0 : Int32)), .val (.int x2), .val (.ref by_)] [(.int nb), (.int (2 : Int32)), (.int x2), (.int (65536 : Int32)), (.ref by_)])) (fun t k => own_len X2 hx hZ e2 p_3 (g := (mkF m 64 #[.val (.ref x0), .val (.int (0 : Int32)), .val (.int x2), .val (.ref by_)] [(.ref by_), (.int (2 : Int32)), (.int x2), (.int (65536 : Int32)), (.ref by_)])) rfl rfl (hb hby d5_64) t k) ?_
    refine own_step (st' := T2.setTop (mkF m 66 #[.val (.ref x0), .val (.int (0 : Int32)), .val (.int x2), .val (.ref by_)] [(.int ((2 : Int32) * nb)), (.int x2), (.int (65536 : Int32)), (.ref by_)])) (fun t k => XS.imul X2.here hx rfl (hb hby d5_65) rfl k) ?_
    obtain ⟨_, _, ⟨T4, L4, k4, n4⟩, -, X4, ⟨Lc4, hQ4, l4, y4, z4⟩, st4⟩ := Jvm.LawKit.callS X2 hx (y := (⟨"java/lang/Math", "max", "(II)I"⟩ : MethodName)) hown (mvT hZ (hw _ (List.mem_of_getElem? (i := 46) rfl))) (mvT hZ (hw _ (List.mem_of_getElem? (i := 47) rfl))) (mvT hZ (hw _ (List.mem_of_getElem? (i := 31) rfl))) (mvT hZ (hw _ (List.mem_of_getElem? (i := 48) rfl))) (by decide) (backOf (W := 2) (rm7 l Z a0 hw [] x2 ((2 : Int32) * nb) h0 n0 Z0) hZ (hw _ (List.mem_of_getElem? (i := 48) rfl)) (hw _ (List.mem_of_getElem? (i := 31) rfl)) (by decide) (by decide)) (g := (mkF m 66 #[.val (.ref x0), .val (.int (0 : Int32)), .val (.int x2), .val (.ref by_)] [(.int ((2 : Int32) * nb)), (.int x2), (.int (65536 : Int32)), (.ref by_)])) rfl (by rw [hml]; rfl) (argsL := [(.int x2), (.int ((2 : Int32) * nb))]) (rest := [(.int (65536 : Int32)), (.ref by_)]) (lenOf pd_3 rfl) rfl (by show 2 * 0 + _ ≤ _; exact Nat.le_of_eq rfl) (hb hby d5_66) (fun _ _ => ⟨rfl, e2, (by decide : 0 + 0 ≤ _), (by decide : 0 + 0 ≤ _)⟩)
    dsimp only [Pt.U, Pt.locs, Pt.cells, Pt.slots] at X4 l4 y4 z4 st4 hQ4
    subst l4 y4 z4
    obtain ⟨rfl, N4q, e4⟩ := hQ4
    have N4 := Fr.app N0 N4q
    refine own_step (st' := T4.setTop (mkF m 69 #[.val (.ref x0), .val (.int (0 : Int32)), .val (.int x2), .val (.ref by_)] [(.int (if x2 < ((2 : Int32) * nb) then ((2 : Int32) * nb) else x2)), (.int (65536 : Int32)), (.ref by_)])) st4 ?_
    obtain ⟨_, _, ⟨T5, L5, k5, n5⟩, -, X5, ⟨Lc5, hQ5, l5, y5, z5⟩, st5⟩ := Jvm.LawKit.callS X4 hx (y := (⟨"java/lang/Math", "min", "(II)I"⟩ : MethodName)) hown (mvT hZ (hw _ (List.mem_of_getElem? (i := 29) rfl))) (mvT hZ (hw _ (List.mem_of_getElem? (i := 30) rfl))) (mvT hZ (hw _ (List.mem_of_getElem? (i := 31) rfl))) (mvT hZ (hw _ (List.mem_of_getElem? (i := 32) rfl))) (by decide) (backOf (W := 1) (rm4 l Z a0 hw [] (65536 : Int32) (if x2 < ((2 : Int32) * nb) then ((2 : Int32) * nb) else x2) h0 n0 Z0) hZ (hw _ (List.mem_of_getElem? (i := 32) rfl)) (hw _ (List.mem_of_getElem? (i := 31) rfl)) (by decide) (by decide)) (g := (mkF m 69 #[.val (.ref x0), .val (.int (0 : Int32)), .val (.int x2), .val (.ref by_)] [(.int (if x2 < ((2 : Int32) * nb) then ((2 : Int32) * nb) else x2)), (.int (65536 : Int32)), (.ref by_)])) rfl (by rw [hml]; rfl) (argsL := [(.int (65536 : Int32)), (.int (if x2 < ((2 : Int32) * nb) then ((2 : Int32) * nb) else x2))]) (rest := [(.ref by_)]) (lenOf pd_3 rfl) rfl (by show 2 * 0 + _ ≤ _; exact Nat.le_of_eq rfl) (hb hby d5_69) (fun _ _ => ⟨rfl, e4, (by decide : 0 + 0 ≤ _), (by decide : 0 + 0 ≤ _)⟩)
    dsimp only [Pt.U, Pt.locs, Pt.cells, Pt.slots] at X5 l5 y5 z5 st5 hQ5
    subst l5 y5 z5
    obtain ⟨rfl, N5q, e5⟩ := hQ5
    have N5 := Fr.app N4 N5q
    refine own_step (st' := T5.setTop (mkF m 72 #[.val (.ref x0), .val (.int (0 : Int32)), .val (.int x2), .val (.ref by_)] [(.int (if (if x2 < ((2 : Int32) * nb) then ((2 : Int32) * nb) else x2) < (65536 : Int32) then (if x2 < ((2 : Int32) * nb) then ((2 : Int32) * nb) else x2) else (65536 : Int32))), (.ref by_)])) st5 ?_
    obtain ⟨mm, hmm0⟩ : ∃ q : Int32, q = (if (if x2 < ((2 : Int32) * nb) then ((2 : Int32) * nb) else x2) < (65536 : Int32) then (if x2 < ((2 : Int32) * nb) then ((2 : Int32) * nb) else x2) else (65536 : Int32)) := ⟨_, rfl⟩
    rw [← hmm0]
    have hmm : nb.toInt < mm.toInt ∧ x2.toInt ≤ mm.toInt ∧ mm.toInt ≤ 4092 := by
      have hlt : nb.toInt < x2.toInt := by have := hc3; rw [Int32.lt_iff_toInt_lt] at this; exact this
      have d2 : ((2 : Int32) * nb).toInt = 2 * nb.toInt := by
        have q1 := c_imul 2 nb
        have q2 := rng32 ((2 : Int32) * nb)
        have q3 : (2 : Int32).toInt = 2 := by decide
        rw [q3] at q1
        omega
      have d3 : (65536 : Int32).toInt = 65536 := by decide
      rw [hmm0]
      split <;> split <;> rename_i u v <;> rw [Int32.lt_iff_toInt_lt] at u v <;> omega
    obtain ⟨_, _, ⟨T6, L6, k6, n6⟩, -, X6, ⟨Lc6, hQ6, l6, y6, z6⟩, st6⟩ := Jvm.LawKit.callS X5 hx (y := (⟨"java/util/Arrays", "copyOf", "([BI)[B"⟩ : MethodName)) hown (mvT hZ (hw _ (List.mem_of_getElem? (i := 49) rfl))) (mvT hZ (hw _ (List.mem_of_getElem? (i := 50) rfl))) (mvT hZ (hw _ (List.mem_of_getElem? (i := 51) rfl))) (mvT hZ (hw _ (List.mem_of_getElem? (i := 52) rfl))) (by decide) (backOf (W := 0) (rmC2 l Z a0 hw [] by_ mm kb nb vb db h0 n0 Z0 p_3 p_5 hmm.1 hmm.2.2) hZ (hw _ (List.mem_of_getElem? (i := 52) rfl)) (hw _ (List.mem_of_getElem? (i := 51) rfl)) (by decide) (by decide)) (g := (mkF m 72 #[.val (.ref x0), .val (.int (0 : Int32)), .val (.int x2), .val (.ref by_)] [(.int mm), (.ref by_)])) rfl (by rw [hml]; rfl) (argsL := [(.ref by_), (.int mm)]) (rest := []) (lenOf pd_7 rfl) rfl (by show 2 * 0 + _ ≤ _; exact Nat.le_of_eq rfl) (hb hby d5_72) (fun _ _ => ⟨rfl, e5, (by decide : 0 + 1 ≤ _), (by decide : 0 + 4092 ≤ _)⟩)
    dsimp only [Pt.U, Pt.locs, Pt.cells, Pt.slots] at X6 l6 y6 z6 st6 hQ6
    subst l6 y6 z6
    obtain ⟨b_6, kb_6, vb_6, rfl, N6q, K6, pq6_0, pq6_1, pq6_2⟩ := hQ6
    have N6 := Fr.app N5 N6q
    obtain ⟨h6, e6⟩ : ∃ z, T6.heap = z := ⟨_, rfl⟩
    rw [e6] at K6 pq6_1 pq6_2
    have ne7 : x0 ≠ b_6 := Nat.ne_of_lt (Nat.lt_of_lt_of_le p_1.lt pq6_0)
    have ne8 : ch ≠ b_6 := Nat.ne_of_lt (Nat.lt_of_lt_of_le p_2.lt pq6_0)
    have ne9 : by_ ≠ b_6 := Nat.ne_of_lt (Nat.lt_of_lt_of_le p_3.lt pq6_0)
    have g_b_6 : n0 ≤ b_6 := Nat.le_trans Z0 pq6_0
    have sz_b_6 : h0.size ≤ b_6 := Nat.le_trans (Keep.refl h0 [ch]).1 pq6_0
    have f10 := p_1.keep K6 nin0
    have f11 := p_2.keep K6 nin0
    have f12 := p_3.keep K6 nin0
    have K13 : Keep h0 h6 [ch] := (Keep.refl h0 [ch]).trans K6 all0
    have Z14 : n0 ≤ h6.size := Nat.le_trans Z0 K6.1
    refine own_step (st' := T6.setTop (mkF m 75 #[.val (.ref x0), .val (.int (0 : Int32)), .val (.int x2), .val (.ref by_)] [(.ref b_6)])) st6 ?_
    refine own_step (st' := T6.setTop (mkF m 76 #[.val (.ref x0), .val (.int (0 : Int32)), .val (.int x2), .val (.ref b_6)] [])) (fun t k => XS.astoreN X6.here hx rfl (hb hby d5_75) rfl rfl (l' := #[.val (.ref x0), .val (.int (0 : Int32)), .val (.int x2), .val (.ref b_6)]) rfl k) ?_
    refine own_step (st' := T6.setTop (mkF m 77 #[.val (.ref x0), .val (.int (0 : Int32)), .val (.int x2), .val (.ref b_6)] [(.ref x0)])) (fun t k => XS.aloadN X6.here hx rfl (hb hby d5_76) rfl rfl k) ?_
    obtain ⟨T15, X15, e15, st15⟩ := getF X6 hx hZ hown (host := "") (Or.inl (hw _ (List.mem_of_getElem? (i := 13) rfl))) Via.refl e6 f10 (g := (mkF m 77 #[.val (.ref x0), .val (.int (0 : Int32)), .val (.int x2), .val (.ref b_6)] [(.ref x0)])) rfl rfl (hb hby d5_77)
    refine own_step (st' := T15.setTop (mkF m 80 #[.val (.ref x0), .val (.int (0 : Int32)), .val (.int x2), .val (.ref b_6)] [(.ref ch)])) st15 ?_
    refine own_step (st' := T15.setTop (mkF m 81 #[.val (.ref x0), .val (.int (0 : Int32)), .val (.int x2), .val (.ref b_6)] [(.int (0 : Int32)), (.ref ch)])) (fun t k => XS.iloadN X15.here hx rfl (hb hby d5_80) rfl k) ?_
    refine own_step (st' := T15.setTop (mkF m 82 #[.val (.ref x0), .val (.int (0 : Int32)), .val (.int x2), .val (.ref b_6)] [(.ref b_6), (.int (0 : Int32)), (.ref ch)])) (fun t k => XS.aloadN X15.here hx rfl (hb hby d5_81) rfl rfl k) ?_
    obtain ⟨T16, h16, X16, e16, W16, V16, st16⟩ := own_stR X15 hx hZ e15 f11 rfl (j := (0 : Int32)) (i := 0) (own_stoA f11 p_4 (Ins.self pq6_1)) rfl ⟨by decide, by decide⟩ rfl (Nat.le_of_ble_eq_true rfl) (g := (mkF m 82 #[.val (.ref x0), .val (.int (0 : Int32)), .val (.int x2), .val (.ref b_6)] [(.ref b_6), (.int (0 : Int32)), (.ref ch)])) rfl rfl (hb hby d5_82)
    have V16 : Arv Z h16 ch kc (.array .byte) (1 : Int32) [(.ref b_6)] .null := V16
    have f17 := f10.other W16 (Or.inl p_10)
    have f18 := f12.other W16 p_9
    have f19 := pq6_1.wr W16
    have f20 := pq6_2.other W16 (Ne.symm ne8)
    have K21 : Keep h0 h16 [ch] := K13.wr W16 (Or.inl (List.mem_of_getElem? (i := 0) rfl))
    have Z22 : n0 ≤ h16.size := Nat.le_trans Z14 (Keep.of_wr W16).1
    have N23 := Fr.snoc X16 N6 p_7
    refine own_step (st' := T16.setTop (mkF m 83 #[.val (.ref x0), .val (.int (0 : Int32)), .val (.int x2), .val (.ref b_6)] [])) st16 ?_
    refine own_step (st' := T16.setTop (mkF m 84 #[.val (.ref x0), .val (.int (0 : Int32)), .val (.int x2), .val (.ref b_6)] [(.ref b_6)])) (fun t k => XS.aloadN X16.here hx rfl (hb hby d5_83) rfl rfl k) ?_
    refine own_ret X16 Bd.notSynchronized (some (.ref b_6)) (fun h => by rw [Bd.returns] at h; cases h) (fun fs hr => retOut X16 hx Bd.returns rfl (Or.inr (Or.inr (Or.inr (Or.inr ⟨rfl, rfl, rfl⟩)))) (hb hby d5_84) hr) ?_ (by decide) (by decide)
    rw [e16]
    exact ⟨b_6, kb_6, mm, vb_6, (.int (0 : Int32)), rfl, N23, K21, (Or.inr sz_b_6), hmm.2.1, g_b_6, f17, V16, f20⟩
  · refine own_step (st' := T2.setTop (mkF m 83 #[.val (.ref x0), .val (.int (0 : Int32)), .val (.int x2), .val (.ref by_)] [])) (fun t k => XS.icmpYes X2.here hx rfl (pc0 := 55) (pc' := 83) rfl (hb hby d5_55) rfl (flt hc3).2.1 (by decide) (by decide) k) ?_
    refine own_step (st' := T2.setTop (mkF m 84 #[.val (.ref x0), .val (.int (0 : Int32)), .val (.int x2), .val (.ref by_)] [(.ref by_)])) (fun t k => XS.aloadN X2.here hx rfl (hb hby d5_83) rfl rfl k) ?_
    refine own_ret X2 Bd.notSynchronized (some (.ref by_)) (fun h => by rw [Bd.returns] at h; cases h) (fun fs hr => retOut X2 hx Bd.returns rfl (Or.inr (Or.inr (Or.inr (Or.inr ⟨rfl, rfl, rfl⟩)))) (hb hby d5_84) hr) ?_ (by decide) (by decide)
    rw [e2]
    exact ⟨by_, kb, nb, vb, db, rfl, N0, (Keep.refl h0 [ch]), (Or.inl rfl), (by rw [Int32.lt_iff_toInt_lt] at hc3; omega), p_8, p_1, p_2, p_3⟩
def Q_rmA2 (Z : State) (x0 : Addr) (x1 : Addr) (x2 : Int32) (x3 : Int32) (n : Int32) (mx : Int32) (ch : Addr) (kc : ClassId) (by_ : Addr) (kb : ClassId) (nb : Int32) (vb : List Value) (db : Value) (stt : Addr) (ks : ClassId) (vss : List Value) (S : Int64) (kq : ClassId) (vq : List Value) (dq : Value) (h0 : Heap) (n0 : Nat) (v : Option Value) (h : Heap) (L : List Loc) : Prop := ∃ bz : Addr, ∃ kz : ClassId, ∃ nz : Int32, ∃ vz : List Value, ∃ dz : Value, v = none ∧ Fr n0 L ∧ Keep h0 h [x0, ch, by_, stt] ∧ n0 ≤ bz ∧ bz ≠ x0 ∧ bz ≠ x1 ∧ bz ≠ ch ∧ bz ≠ stt ∧ 0 ≤ nz.toInt ∧ Fld Z h x0 "com/example/link_importance/linkimportance/graph/NameList" "size" "I" (.int (n + (1 : Int32))) ∧ Fld Z h x0 "com/example/link_importance/linkimportance/graph/NameList" "maxNames" "I" (.int mx) ∧ Fld Z h x0 "com/example/link_importance/linkimportance/graph/NameList" "chunks" "[[B" (.ref ch) ∧ Fld Z h x0 "com/example/link_importance/linkimportance/graph/NameList" "starts" "[J" (.ref stt) ∧ Arv Z h ch kc (.array .byte) (1 : Int32) [(.ref bz)] .null ∧ Arv Z h bz kz .byte nz vz dz ∧ Arv Z h stt ks .long (16 : Int32) (vss.set (n + (1 : Int32)).toNatClampNeg (.long (S + (x3 - x2).toInt64))) (.long (0 : Int64))
set_option maxRecDepth 65536 in
set_option maxHeartbeats 40000000 in
theorem rmA2 (l : Launch) (Z : State) (a0 : Array Value) (hw : ∀ d ∈ tables_1, d.before a0 Z = true) (ws : List Jvm.Cond) (x0 : Addr) (x1 : Addr) (x2 : Int32) (x3 : Int32) (n : Int32) (mx : Int32) (ch : Addr) (kc : ClassId) (by_ : Addr) (kb : ClassId) (nb : Int32) (vb : List Value) (db : Value) (stt : Addr) (ks : ClassId) (vss : List Value) (S : Int64) (kq : ClassId) (vq : List Value) (dq : Value) (h0 : Heap) (n0 : Nat) (Z0 : n0 ≤ h0.size) (p_0 : Fld Z h0 x0 "com/example/link_importance/linkimportance/graph/NameList" "size" "I" (.int n)) (p_1 : Fld Z h0 x0 "com/example/link_importance/linkimportance/graph/NameList" "maxNames" "I" (.int mx)) (p_2 : Fld Z h0 x0 "com/example/link_importance/linkimportance/graph/NameList" "chunks" "[[B" (.ref ch)) (p_3 : Fld Z h0 x0 "com/example/link_importance/linkimportance/graph/NameList" "starts" "[J" (.ref stt)) (p_4 : Exa Z h0 x0 "com/example/link_importance/linkimportance/graph/NameList") (p_5 : n0 ≤ x0) (p_6 : n0 ≤ ch) (p_7 : n0 ≤ by_) (p_8 : n0 ≤ stt) (p_9 : Arv Z h0 ch kc (.array .byte) (1 : Int32) [(.ref by_)] .null) (p_10 : Arv Z h0 by_ kb .byte nb vb db) (p_11 : Arv Z h0 stt ks .long (16 : Int32) vss (.long (0 : Int64))) (p_12 : Arv Z h0 x1 kq .byte (2048 : Int32) vq dq) (p_13 : x0 ≠ x1) (p_14 : x0 ≠ ch) (p_15 : x0 ≠ by_) (p_16 : x0 ≠ stt) (p_17 : x1 ≠ ch) (p_18 : x1 ≠ by_) (p_19 : x1 ≠ stt) (p_20 : ch ≠ by_) (p_21 : ch ≠ stt) (p_22 : by_ ≠ stt) (p_23 : ¬ n = mx) (p_24 : 0 ≤ n.toInt ∧ n.toInt < 3) (p_25 : vss.getD n.toNatClampNeg (.long (0 : Int64)) = .long S) (p_26 : vss.length = 16) (p_27 : 0 ≤ S.toInt ∧ S.toInt ≤ 1023) (p_28 : 0 ≤ x2.toInt ∧ x2.toInt ≤ x3.toInt ∧ x3.toInt ≤ x2.toInt + 1023 ∧ x3.toInt ≤ 2046) (p_29 : OvrA Z kc .byte "[B") (p_30 : 0 ≤ nb.toInt) :
    MetFree l (⟨"com/example/link_importance/linkimportance/graph/NameList", "append", "([BII)V"⟩ : MethodName) (head1 (Jvm.Cond.code (⟨"com/example/link_importance/linkimportance/graph/NameList", "append", "([BII)V"⟩ : MethodName) prog_23_method_9_code 10 none :: ws) ({ frames := 3, cells := 1, slots := 4092, locals := 47 } : Room)) (fun a U => a = #[(.ref x0), (.ref x1), (.int x2), (.int x3)] ∧ Z.Warmed39 U.vm ∧ U.heap = h0) (fun _ _ _ _ _ => True) (fun _ U o U' => ∃ v L, o = .returned v ∧ Q_rmA2 Z x0 x1 x2 x3 n mx ch kc by_ kb nb vb db stt ks vss S kq vq dq h0 n0 v U'.heap L ∧ FrameEnd U o U' L ({ frames := 3, cells := 1, slots := 4092, locals := 47 } : Room).cells ({ frames := 3, cells := 1, slots := 4092, locals := 47 } : Room).slots) := by
  refine MetFree.of_bodySF (plainFor_of_name pn_0) hisR ?_
  intro p e s m args below meth c s₁ Bd hml0 hP hK
  obtain ⟨rfl, hZ, hh⟩ := hP
  have hx := Bd.exec
  have hby := Bd.bytes
  have hml : c.maxLocals = 10 := hml0
  have hown : s.vm.findClass "com/example/link_importance/linkimportance/graph/NameList" = some m.cls := findClass_of_methodNamed Bd.named
  have hnm := (name_of_methodNamed Bd.named Bd.method).1
  have X0 : Stand p l e ({ frames := 3, cells := 1, slots := 4092, locals := 47 } : Room) s m #[(.ref x0), (.ref x1), (.int x2), (.int x3)] below meth c s₁ [] 0 0 := Stand.of_body Bd
  have e0 : s₁.heap = h0 := by rw [← hh, Bd.state]; rfl
  have N0 := Fr.nil n0
  show own_Ends p e below s ({ frames := 3, cells := 1, slots := 4092, locals := 47 } : Room).cells ({ frames := 3, cells := 1, slots := 4092, locals := 47 } : Room).slots (Q_rmA2 Z x0 x1 x2 x3 n mx ch kc by_ kb nb vb db stt ks vss S kq vq dq h0 n0) (s₁.setTop (entryFrame m #[(.ref x0), (.ref x1), (.int x2), (.int x3)] 10))
  rw [ef_3_RRII]
  have hn1 : (n + (1 : Int32)).toInt = n.toInt + 1 := by have := own_add (x := n) (y := 1) ⟨by omega, by omega⟩ (by decide); rw [this]; rfl
  have hS : 0 ≤ S.toInt ∧ S.toInt ≤ 3069 := ⟨p_27.1, by have := p_27.2; omega⟩
  have hof := own_off hS
  have hct := own_sub (x := x3) (y := x2) (by omega) (by omega)
  have h16 : (16 : Int32).toInt = 16 := by decide
  have h2048 : (2048 : Int32).toInt = 2048 := by decide
  refine own_step (st' := s₁.setTop (mkF m 1 #[.val (.ref x0), .val (.ref x1), .val (.int x2), .val (.int x3), .unset, .unset, .unset, .unset, .unset, .unset] [(.ref x0)])) (fun t k => XS.aloadN X0.here hx rfl (hb hby d3_0) rfl rfl k) ?_
  obtain ⟨T1, X1, e1, st1⟩ := getF X0 hx hZ hown (host := "") (Or.inl (hw _ (List.mem_of_getElem? (i := 25) rfl))) Via.refl e0 p_0 (g := (mkF m 1 #[.val (.ref x0), .val (.ref x1), .val (.int x2), .val (.int x3), .unset, .unset, .unset, .unset, .unset, .unset] [(.ref x0)])) rfl rfl (hb hby d3_1)
  refine own_step (st' := T1.setTop (mkF m 4 #[.val (.ref x0), .val (.ref x1), .val (.int x2), .val (.int x3), .unset, .unset, .unset, .unset, .unset, .unset] [(.int n)])) st1 ?_
  refine own_step (st' := T1.setTop (mkF m 5 #[.val (.ref x0), .val (.ref x1), .val (.int x2), .val (.int x3), .unset, .unset, .unset, .unset, .unset, .unset] [(.ref x0), (.int n)])) (fun t k => XS.aloadN X1.here hx rfl (hb hby d3_4) rfl rfl k) ?_
  obtain ⟨T2, X2, e2, st2⟩ := getF X1 hx hZ hown (host := "") (Or.inl (hw _ (List.mem_of_getElem? (i := 18) rfl))) Via.refl e1 p_1 (g := (mkF m 5 #[.val (.ref x0), .val (.ref x1), .val (.int x2), .val (.int x3), .unset, .unset, .unset, .unset, .unset, .unset] [(.ref x0), (.int n)])) rfl rfl (hb hby d3_5)
  refine own_step (st' := T2.setTop (mkF m 8 #[.val (.ref x0), .val (.ref x1), .val (.int x2), .val (.int x3), .unset, .unset, .unset, .unset, .unset, .unset] [(.int mx), (.int n)])) st2 ?_
  refine own_step (st' := T2.setTop (mkF m 28 #[.val (.ref x0), .val (.ref x1), .val (.int x2), .val (.int x3), .unset, .unset, .unset, .unset, .unset, .unset] [])) (fun t k => XS.icmpYes X2.here hx rfl (pc0 := 8) (pc' := 28) rfl (hb hby d3_8) rfl (feq p_23).2 (by decide) (by decide) k) ?_
  refine own_step (st' := T2.setTop (mkF m 29 #[.val (.ref x0), .val (.ref x1), .val (.int x2), .val (.int x3), .unset, .unset, .unset, .unset, .unset, .unset] [(.ref x0)])) (fun t k => XS.aloadN X2.here hx rfl (hb hby d3_28) rfl rfl k) ?_
  obtain ⟨T3, X3, e3, st3⟩ := getF X2 hx hZ hown (host := "") (Or.inl (hw _ (List.mem_of_getElem? (i := 25) rfl))) Via.refl e2 p_0 (g := (mkF m 29 #[.val (.ref x0), .val (.ref x1), .val (.int x2), .val (.int x3), .unset, .unset, .unset, .unset, .unset, .unset] [(.ref x0)])) rfl rfl (hb hby d3_29)
  refine own_step (st' := T3.setTop (mkF m 32 #[.val (.ref x0), .val (.ref x1), .val (.int x2), .val (.int x3), .unset, .unset, .unset, .unset, .unset, .unset] [(.int n)])) st3 ?_
  refine own_step (st' := T3.setTop (mkF m 33 #[.val (.ref x0), .val (.ref x1), .val (.int x2), .val (.int x3), .unset, .unset, .unset, .unset, .unset, .unset] [(.int (1 : Int32)), (.int n)])) (fun t k => XS.iconst X3.here hx rfl (hb hby d3_32) k) ?_
  refine own_step (st' := T3.setTop (mkF m 34 #[.val (.ref x0), .val (.ref x1), .val (.int x2), .val (.int x3), .unset, .unset, .unset, .unset, .unset, .unset] [(.int (n + (1 : Int32)))])) (fun t k => XS.iadd X3.here hx rfl (hb hby d3_33) rfl k) ?_
  refine own_step (st' := T3.setTop (mkF m 35 #[.val (.ref x0), .val (.ref x1), .val (.int x2), .val (.int x3), .unset, .unset, .unset, .unset, .unset, .unset] [(.ref x0), (.int (n + (1 : Int32)))])) (fun t k => XS.aloadN X3.here hx rfl (hb hby d3_34) rfl rfl k) ?_
  obtain ⟨T4, X4, e4, st4⟩ := getF X3 hx hZ hown (host := "") (Or.inl (hw _ (List.mem_of_getElem? (i := 16) rfl))) Via.refl e3 p_3 (g := (mkF m 35 #[.val (.ref x0), .val (.ref x1), .val (.int x2), .val (.int x3), .unset, .unset, .unset, .unset, .unset, .unset] [(.ref x0), (.int (n + (1 : Int32)))])) rfl rfl (hb hby d3_35)
  refine own_step (st' := T4.setTop (mkF m 38 #[.val (.ref x0), .val (.ref x1), .val (.int x2), .val (.int x3), .unset, .unset, .unset, .unset, .unset, .unset] [(.ref stt), (.int (n + (1 : Int32)))])) st4 ?_
  refine own_step (st' := T4.setTop (mkF m 39 #[.val (.ref x0), .val (.ref x1), .val (.int x2), .val (.int x3), .unset, .unset, .unset, .unset, .unset, .unset] [(.int (16 : Int32)), (.int (n + (1 : Int32)))])) (fun t k => own_len X4 hx hZ e4 p_11 (g := (mkF m 38 #[.val (.ref x0), .val (.ref x1), .val (.int x2), .val (.int x3), .unset, .unset, .unset, .unset, .unset, .unset] [(.ref stt), (.int (n + (1 : Int32)))])) rfl rfl (hb hby d3_38) t k) ?_
  refine own_step (st' := T4.setTop (mkF m 74 #[.val (.ref x0), .val (.ref x1), .val (.int x2), .val (.int x3), .unset, .unset, .unset, .unset, .unset, .unset] [])) (fun t k => XS.icmpYes X4.here hx rfl (pc0 := 39) (pc' := 74) rfl (hb hby d3_39) rfl (feq (fun q => by have := congrArg Int32.toInt q; rw [hn1, h16] at this; omega)).2 (by decide) (by decide) k) ?_
  refine own_step (st' := T4.setTop (mkF m 75 #[.val (.ref x0), .val (.ref x1), .val (.int x2), .val (.int x3), .unset, .unset, .unset, .unset, .unset, .unset] [(.ref x0)])) (fun t k => XS.aloadN X4.here hx rfl (hb hby d3_74) rfl rfl k) ?_
  obtain ⟨T5, X5, e5, st5⟩ := getF X4 hx hZ hown (host := "") (Or.inl (hw _ (List.mem_of_getElem? (i := 16) rfl))) Via.refl e4 p_3 (g := (mkF m 75 #[.val (.ref x0), .val (.ref x1), .val (.int x2), .val (.int x3), .unset, .unset, .unset, .unset, .unset, .unset] [(.ref x0)])) rfl rfl (hb hby d3_75)
  refine own_step (st' := T5.setTop (mkF m 78 #[.val (.ref x0), .val (.ref x1), .val (.int x2), .val (.int x3), .unset, .unset, .unset, .unset, .unset, .unset] [(.ref stt)])) st5 ?_
  refine own_step (st' := T5.setTop (mkF m 79 #[.val (.ref x0), .val (.ref x1), .val (.int x2), .val (.int x3), .unset, .unset, .unset, .unset, .unset, .unset] [(.ref x0), (.ref stt)])) (fun t k => XS.aloadN X5.here hx rfl (hb hby d3_78) rfl rfl k) ?_
  obtain ⟨T6, X6, e6, st6⟩ := getF X5 hx hZ hown (host := "") (Or.inl (hw _ (List.mem_of_getElem? (i := 25) rfl))) Via.refl e5 p_0 (g := (mkF m 79 #[.val (.ref x0), .val (.ref x1), .val (.int x2), .val (.int x3), .unset, .unset, .unset, .unset, .unset, .unset] [(.ref x0), (.ref stt)])) rfl rfl (hb hby d3_79)
  refine own_step (st' := T6.setTop (mkF m 82 #[.val (.ref x0), .val (.ref x1), .val (.int x2), .val (.int x3), .unset, .unset, .unset, .unset, .unset, .unset] [(.int n), (.ref stt)])) st6 ?_
  refine own_step (st' := T6.setTop (mkF m 83 #[.val (.ref x0), .val (.ref x1), .val (.int x2), .val (.int x3), .unset, .unset, .unset, .unset, .unset, .unset] [(.long S)])) (fun t k => own_ldJ X6 hx hZ e6 p_11 (j := n) (v := (.long S)) (own_in (by omega) (by rw [h16]; omega)) p_25 (g := (mkF m 82 #[.val (.ref x0), .val (.ref x1), .val (.int x2), .val (.int x3), .unset, .unset, .unset, .unset, .unset, .unset] [(.int n), (.ref stt)])) rfl rfl (hb hby d3_82) t k) ?_
  refine own_step (st' := T6.setTop (mkF m 85 #[.val (.ref x0), .val (.ref x1), .val (.int x2), .val (.int x3), .val (.long S), .second, .unset, .unset, .unset, .unset] [])) (fun t k => XS.lstore X6.here hx rfl (hb hby d3_83) rfl (l' := #[.val (.ref x0), .val (.ref x1), .val (.int x2), .val (.int x3), .val (.long S), .second, .unset, .unset, .unset, .unset]) rfl k) ?_
  refine own_step (st' := T6.setTop (mkF m 86 #[.val (.ref x0), .val (.ref x1), .val (.int x2), .val (.int x3), .val (.long S), .second, .unset, .unset, .unset, .unset] [(.int x2)])) (fun t k => XS.iloadN X6.here hx rfl (hb hby d3_85) rfl k) ?_
  refine own_step (st' := T6.setTop (mkF m 88 #[.val (.ref x0), .val (.ref x1), .val (.int x2), .val (.int x3), .val (.long S), .second, .val (.int x2), .unset, .unset, .unset] [])) (fun t k => XS.istore X6.here hx rfl (hb hby d3_86) rfl (l' := #[.val (.ref x0), .val (.ref x1), .val (.int x2), .val (.int x3), .val (.long S), .second, .val (.int x2), .unset, .unset, .unset]) rfl k) ?_
  refine own_step (st' := T6.setTop (mkF m 90 #[.val (.ref x0), .val (.ref x1), .val (.int x2), .val (.int x3), .val (.long S), .second, .val (.int x2), .unset, .unset, .unset] [(.int x2)])) (fun t k => XS.iload X6.here hx rfl (hb hby d3_88) rfl k) ?_
  refine own_step (st' := T6.setTop (mkF m 91 #[.val (.ref x0), .val (.ref x1), .val (.int x2), .val (.int x3), .val (.long S), .second, .val (.int x2), .unset, .unset, .unset] [(.int x3), (.int x2)])) (fun t k => XS.iloadN X6.here hx rfl (hb hby d3_90) rfl k) ?_
  by_cases hc7 : x2 < x3
  · refine own_step (st' := T6.setTop (mkF m 94 #[.val (.ref x0), .val (.ref x1), .val (.int x2), .val (.int x3), .val (.long S), .second, .val (.int x2), .unset, .unset, .unset] [])) (fun t k => XS.icmpNo X6.here hx rfl (hb hby d3_91) rfl (tlt hc7).2.1 k) ?_
    refine own_step (st' := T6.setTop (mkF m 96 #[.val (.ref x0), .val (.ref x1), .val (.int x2), .val (.int x3), .val (.long S), .second, .val (.int x2), .unset, .unset, .unset] [(.long S)])) (fun t k => XS.lload X6.here hx rfl (hb hby d3_94) rfl k) ?_
    refine own_step (st' := T6.setTop (mkF m 99 #[.val (.ref x0), .val (.ref x1), .val (.int x2), .val (.int x3), .val (.long S), .second, .val (.int x2), .unset, .unset, .unset] [(.long (65535 : Int64)), (.long S)])) (fun t k => X6.ldc2Long hx hown (mvT hZ (hw _ (List.mem_of_getElem? (i := 27) rfl))) (g := (mkF m 96 #[.val (.ref x0), .val (.ref x1), .val (.int x2), .val (.int x3), .val (.long S), .second, .val (.int x2), .unset, .unset, .unset] [(.long S)])) rfl (hb hby d3_96) t k) ?_
    refine own_step (st' := T6.setTop (mkF m 100 #[.val (.ref x0), .val (.ref x1), .val (.int x2), .val (.int x3), .val (.long S), .second, .val (.int x2), .unset, .unset, .unset] [(.long (S &&& (65535 : Int64)))])) (fun t k => XS.land X6.here hx rfl (hb hby d3_99) rfl k) ?_
    refine own_step (st' := T6.setTop (mkF m 101 #[.val (.ref x0), .val (.ref x1), .val (.int x2), .val (.int x3), .val (.long S), .second, .val (.int x2), .unset, .unset, .unset] [(.int ((S &&& (65535 : Int64)).toInt32))])) (fun t k => XS.l2i X6.here hx rfl (hb hby d3_100) rfl k) ?_
    refine own_step (st' := T6.setTop (mkF m 103 #[.val (.ref x0), .val (.ref x1), .val (.int x2), .val (.int x3), .val (.long S), .second, .val (.int x2), .val (.int ((S &&& (65535 : Int64)).toInt32)), .unset, .unset] [])) (fun t k => XS.istore X6.here hx rfl (hb hby d3_101) rfl (l' := #[.val (.ref x0), .val (.ref x1), .val (.int x2), .val (.int x3), .val (.long S), .second, .val (.int x2), .val (.int ((S &&& (65535 : Int64)).toInt32)), .unset, .unset]) rfl k) ?_
    refine own_step (st' := T6.setTop (mkF m 104 #[.val (.ref x0), .val (.ref x1), .val (.int x2), .val (.int x3), .val (.long S), .second, .val (.int x2), .val (.int ((S &&& (65535 : Int64)).toInt32)), .unset, .unset] [(.int x3)])) (fun t k => XS.iloadN X6.here hx rfl (hb hby d3_103) rfl k) ?_
    refine own_step (st' := T6.setTop (mkF m 106 #[.val (.ref x0), .val (.ref x1), .val (.int x2), .val (.int x3), .val (.long S), .second, .val (.int x2), .val (.int ((S &&& (65535 : Int64)).toInt32)), .unset, .unset] [(.int x2), (.int x3)])) (fun t k => XS.iload X6.here hx rfl (hb hby d3_104) rfl k) ?_
    refine own_step (st' := T6.setTop (mkF m 107 #[.val (.ref x0), .val (.ref x1), .val (.int x2), .val (.int x3), .val (.long S), .second, .val (.int x2), .val (.int ((S &&& (65535 : Int64)).toInt32)), .unset, .unset] [(.int (x3 - x2))])) (fun t k => XS.isub X6.here hx rfl (hb hby d3_106) rfl k) ?_
    refine own_step (st' := T6.setTop (mkF m 109 #[.val (.ref x0), .val (.ref x1), .val (.int x2), .val (.int x3), .val (.long S), .second, .val (.int x2), .val (.int ((S &&& (65535 : Int64)).toInt32)), .unset, .unset] [(.int (65536 : Int32)), (.int (x3 - x2))])) (fun t k => X6.ldcInt hx hown (mvT hZ (hw _ (List.mem_of_getElem? (i := 28) rfl))) (g := (mkF m 107 #[.val (.ref x0), .val (.ref x1), .val (.int x2), .val (.int x3), .val (.long S), .second, .val (.int x2), .val (.int ((S &&& (65535 : Int64)).toInt32)), .unset, .unset] [(.int (x3 - x2))])) rfl (hb hby d3_107) t k) ?_
    refine own_step (st' := T6.setTop (mkF m 111 #[.val (.ref x0), .val (.ref x1), .val (.int x2), .val (.int x3), .val (.long S), .second, .val (.int x2), .val (.int ((S &&& (65535 : Int64)).toInt32)), .unset, .unset] [(.int ((S &&& (65535 : Int64)).toInt32)), (.int (65536 : Int32)), (.int (x3 - x2))])) (fun t k => XS.iload X6.here hx rfl (hb hby d3_109) rfl k) ?_
    refine own_step (st' := T6.setTop (mkF m 112 #[.val (.ref x0), .val (.ref x1), .val (.int x2), .val (.int x3), .val (.long S), .second, .val (.int x2), .val (.int ((S &&& (65535 : Int64)).toInt32)), .unset, .unset] [(.int ((65536 : Int32) - ((S &&& (65535 : Int64)).toInt32))), (.int (x3 - x2))])) (fun t k => XS.isub X6.here hx rfl (hb hby d3_111) rfl k) ?_
    obtain ⟨_, _, ⟨T8, L8, k8, n8⟩, -, X8, ⟨Lc8, hQ8, l8, y8, z8⟩, st8⟩ := Jvm.LawKit.callS X6 hx (y := (⟨"java/lang/Math", "min", "(II)I"⟩ : MethodName)) hown (mvT hZ (hw _ (List.mem_of_getElem? (i := 29) rfl))) (mvT hZ (hw _ (List.mem_of_getElem? (i := 30) rfl))) (mvT hZ (hw _ (List.mem_of_getElem? (i := 31) rfl))) (mvT hZ (hw _ (List.mem_of_getElem? (i := 32) rfl))) (by decide) (backOf (W := 0) (rm4 l Z a0 hw [] (x3 - x2) ((65536 : Int32) - ((S &&& (65535 : Int64)).toInt32)) h0 n0 Z0) hZ (hw _ (List.mem_of_getElem? (i := 32) rfl)) (hw _ (List.mem_of_getElem? (i := 31) rfl)) (by decide) (by decide)) (g := (mkF m 112 #[.val (.ref x0), .val (.ref x1), .val (.int x2), .val (.int x3), .val (.long S), .second, .val (.int x2), .val (.int ((S &&& (65535 : Int64)).toInt32)), .unset, .unset] [(.int ((65536 : Int32) - ((S &&& (65535 : Int64)).toInt32))), (.int (x3 - x2))])) rfl (by rw [hml]; rfl) (argsL := [(.int (x3 - x2)), (.int ((65536 : Int32) - ((S &&& (65535 : Int64)).toInt32)))]) (rest := []) (lenOf pd_3 rfl) rfl (by show 2 * 0 + _ ≤ _; exact Nat.le_of_eq rfl) (hb hby d3_112) (fun _ _ => ⟨rfl, e6, (by decide : 0 + 0 ≤ _), (by decide : 0 + 0 ≤ _)⟩)
    dsimp only [Pt.U, Pt.locs, Pt.cells, Pt.slots] at X8 l8 y8 z8 st8 hQ8
    subst l8 y8 z8
    obtain ⟨rfl, N8q, e8⟩ := hQ8
    have N8 := Fr.app N0 N8q
    refine own_step (st' := T8.setTop (mkF m 115 #[.val (.ref x0), .val (.ref x1), .val (.int x2), .val (.int x3), .val (.long S), .second, .val (.int x2), .val (.int ((S &&& (65535 : Int64)).toInt32)), .unset, .unset] [(.int (if ((65536 : Int32) - ((S &&& (65535 : Int64)).toInt32)) < (x3 - x2) then ((65536 : Int32) - ((S &&& (65535 : Int64)).toInt32)) else (x3 - x2)))])) st8 ?_
    have hcc : (if ((65536 : Int32) - ((S &&& (65535 : Int64)).toInt32)) < (x3 - x2) then ((65536 : Int32) - ((S &&& (65535 : Int64)).toInt32)) else (x3 - x2)) = (x3 - x2) := if_neg (by rw [Int32.lt_iff_toInt_lt, own_sub (by decide) (by omega), show (65536 : Int32).toInt = 65536 by decide]; omega)
    rw [hcc]
    refine own_step (st' := T8.setTop (mkF m 117 #[.val (.ref x0), .val (.ref x1), .val (.int x2), .val (.int x3), .val (.long S), .second, .val (.int x2), .val (.int ((S &&& (65535 : Int64)).toInt32)), .val (.int (x3 - x2)), .unset] [])) (fun t k => XS.istore X8.here hx rfl (hb hby d3_115) rfl (l' := #[.val (.ref x0), .val (.ref x1), .val (.int x2), .val (.int x3), .val (.long S), .second, .val (.int x2), .val (.int ((S &&& (65535 : Int64)).toInt32)), .val (.int (x3 - x2)), .unset]) rfl k) ?_
    refine own_step (st' := T8.setTop (mkF m 118 #[.val (.ref x0), .val (.ref x1), .val (.int x2), .val (.int x3), .val (.long S), .second, .val (.int x2), .val (.int ((S &&& (65535 : Int64)).toInt32)), .val (.int (x3 - x2)), .unset] [(.ref x0)])) (fun t k => XS.aloadN X8.here hx rfl (hb hby d3_117) rfl rfl k) ?_
    refine own_step (st' := T8.setTop (mkF m 120 #[.val (.ref x0), .val (.ref x1), .val (.int x2), .val (.int x3), .val (.long S), .second, .val (.int x2), .val (.int ((S &&& (65535 : Int64)).toInt32)), .val (.int (x3 - x2)), .unset] [(.long S), (.ref x0)])) (fun t k => XS.lload X8.here hx rfl (hb hby d3_118) rfl k) ?_
    refine own_step (st' := T8.setTop (mkF m 122 #[.val (.ref x0), .val (.ref x1), .val (.int x2), .val (.int x3), .val (.long S), .second, .val (.int x2), .val (.int ((S &&& (65535 : Int64)).toInt32)), .val (.int (x3 - x2)), .unset] [(.int (16 : Int32)), (.long S), (.ref x0)])) (fun t k => XS.bipush X8.here hx rfl (hb hby d3_120) k) ?_
    refine own_step (st' := T8.setTop (mkF m 123 #[.val (.ref x0), .val (.ref x1), .val (.int x2), .val (.int x3), .val (.long S), .second, .val (.int x2), .val (.int ((S &&& (65535 : Int64)).toInt32)), .val (.int (x3 - x2)), .unset] [(.long ((S.toUInt64 >>> ((16 : Int32) &&& 0x3f).toInt64.toUInt64).toInt64)), (.ref x0)])) (fun t k => XS.lushr X8.here hx rfl (hb hby d3_122) rfl k) ?_
    refine own_step (st' := T8.setTop (mkF m 124 #[.val (.ref x0), .val (.ref x1), .val (.int x2), .val (.int x3), .val (.long S), .second, .val (.int x2), .val (.int ((S &&& (65535 : Int64)).toInt32)), .val (.int (x3 - x2)), .unset] [(.int (((S.toUInt64 >>> ((16 : Int32) &&& 0x3f).toInt64.toUInt64).toInt64).toInt32)), (.ref x0)])) (fun t k => XS.l2i X8.here hx rfl (hb hby d3_123) rfl k) ?_
    refine own_step (st' := T8.setTop (mkF m 126 #[.val (.ref x0), .val (.ref x1), .val (.int x2), .val (.int x3), .val (.long S), .second, .val (.int x2), .val (.int ((S &&& (65535 : Int64)).toInt32)), .val (.int (x3 - x2)), .unset] [(.int ((S &&& (65535 : Int64)).toInt32)), (.int (((S.toUInt64 >>> ((16 : Int32) &&& 0x3f).toInt64.toUInt64).toInt64).toInt32)), (.ref x0)])) (fun t k => XS.iload X8.here hx rfl (hb hby d3_124) rfl k) ?_
    refine own_step (st' := T8.setTop (mkF m 128 #[.val (.ref x0), .val (.ref x1), .val (.int x2), .val (.int x3), .val (.long S), .second, .val (.int x2), .val (.int ((S &&& (65535 : Int64)).toInt32)), .val (.int (x3 - x2)), .unset] [(.int (x3 - x2)), (.int ((S &&& (65535 : Int64)).toInt32)), (.int (((S.toUInt64 >>> ((16 : Int32) &&& 0x3f).toInt64.toUInt64).toInt64).toInt32)), (.ref x0)])) (fun t k => XS.iload X8.here hx rfl (hb hby d3_126) rfl k) ?_
    refine own_step (st' := T8.setTop (mkF m 129 #[.val (.ref x0), .val (.ref x1), .val (.int x2), .val (.int x3), .val (.long S), .second, .val (.int x2), .val (.int ((S &&& (65535 : Int64)).toInt32)), .val (.int (x3 - x2)), .unset] [(.int (((S &&& (65535 : Int64)).toInt32) + (x3 - x2))), (.int (((S.toUInt64 >>> ((16 : Int32) &&& 0x3f).toInt64.toUInt64).toInt64).toInt32)), (.ref x0)])) (fun t k => XS.iadd X8.here hx rfl (hb hby d3_128) rfl k) ?_
    obtain ⟨cq9, q9, q9'⟩ := p_4.cell
    obtain ⟨_, _, ⟨T9, L9, k9, n9⟩, -, X9, ⟨Lc9, hQ9, l9, y9, z9⟩, st9⟩ := X8.privateBack hx (y := (⟨"com/example/link_importance/linkimportance/graph/NameList", "room", "(II)[B"⟩ : MethodName)) hown (mvT hZ (hw _ (List.mem_of_getElem? (i := 33) rfl))) (mvT hZ (hw _ (List.mem_of_getElem? (i := 34) rfl))) (own_selp (y := (⟨"com/example/link_importance/linkimportance/graph/NameList", "room", "(II)[B"⟩ : MethodName)) (mvT hZ (hw _ (List.mem_of_getElem? (i := 34) rfl))) (own_nf (args := #[]) (y := (⟨"com/example/link_importance/linkimportance/graph/NameList", "append", "([BII)V"⟩ : MethodName)) rfl (mvT hZ (hw _ (List.mem_of_getElem? (i := 22) rfl))) (notFace_of_selects (args := #[]) (mvT hZ (hw _ (List.mem_of_getElem? (i := 23) rfl))))) (Cond.privateMethod_at (mvP hZ (hw _ (List.mem_of_getElem? (i := 35) rfl)) (args := #[]))) (by decide)) (Cond.privateMethod_at (mvP hZ (hw _ (List.mem_of_getElem? (i := 35) rfl)) (args := #[]))) (mvT hZ (hw _ (List.mem_of_getElem? (i := 36) rfl))) (by decide) (backOf (W := 0) (rmR2 l Z a0 hw [] x0 (((S.toUInt64 >>> ((16 : Int32) &&& 0x3f).toInt64.toUInt64).toInt64).toInt32) (((S &&& (65535 : Int64)).toInt32) + (x3 - x2)) ch kc by_ kb nb vb db h0 n0 Z0 (own_chunk hS) p_2 p_9 p_10 p_29 p_30 (by rw [own_add (x := (S &&& (65535 : Int64)).toInt32) (y := x3 - x2) ⟨by omega, by omega⟩ ⟨by omega, by omega⟩]; omega) p_6 p_7 (Ne.symm p_20) p_14) hZ (hw _ (List.mem_of_getElem? (i := 36) rfl)) (hw _ (List.mem_of_getElem? (i := 3) rfl)) (by decide) (by decide)) (g := (mkF m 129 #[.val (.ref x0), .val (.ref x1), .val (.int x2), .val (.int x3), .val (.long S), .second, .val (.int x2), .val (.int ((S &&& (65535 : Int64)).toInt32)), .val (.int (x3 - x2)), .unset] [(.int (((S &&& (65535 : Int64)).toInt32) + (x3 - x2))), (.int (((S.toUInt64 >>> ((16 : Int32) &&& 0x3f).toInt64.toUInt64).toInt64).toInt32)), (.ref x0)])) rfl (by rw [hml]; rfl) (Steps.refl _) (a := x0) (by rw [e8]; exact q9) q9' (argsL := [(.int (((S.toUInt64 >>> ((16 : Int32) &&& 0x3f).toInt64.toUInt64).toInt64).toInt32)), (.int (((S &&& (65535 : Int64)).toInt32) + (x3 - x2)))]) (rest := []) (lenOf pd_4 rfl) rfl (by show 2 * 0 + _ ≤ _; exact Nat.le_of_eq rfl) (hb hby d3_129) (fun _ _ => ⟨rfl, e8, (by decide : 0 + 1 ≤ _), (by decide : 0 + 4092 ≤ _)⟩)
    dsimp only [Pt.U, Pt.locs, Pt.cells, Pt.slots] at X9 l9 y9 z9 st9 hQ9
    subst l9 y9 z9
    obtain ⟨bz_9, kz_9, nz_9, vz_9, dz_9, rfl, N9q, K9, pq9_0, pq9_1, pq9_2, pq9_3, pq9_4, pq9_5⟩ := hQ9
    have N9 := Fr.app N8 N9q
    obtain ⟨h9, e9⟩ : ∃ z, T9.heap = z := ⟨_, rfl⟩
    rw [e9] at K9 pq9_3 pq9_4 pq9_5
    have f10 := p_0.keep K9 (ninS p_14 nin0)
    have f11 := p_1.keep K9 (ninS p_14 nin0)
    have f12 := p_2.keep K9 (ninS p_14 nin0)
    have f13 := p_3.keep K9 (ninS p_14 nin0)
    have f14 := p_4.keep K9
    have f15 := p_10.keep K9 (ninS (Ne.symm p_20) nin0)
    have f16 := p_11.keep K9 (ninS (Ne.symm p_21) nin0)
    have f17 := p_12.keep K9 (ninS p_17 nin0)
    have K18 : Keep h0 h9 [x0, ch, by_, stt] := (Keep.refl h0 [x0, ch, by_, stt]).trans K9 (allS (Or.inl (List.mem_of_getElem? (i := 1) rfl)) all0)
    have Z19 : n0 ≤ h9.size := Nat.le_trans Z0 K9.1
    refine own_step (st' := T9.setTop (mkF m 132 #[.val (.ref x0), .val (.ref x1), .val (.int x2), .val (.int x3), .val (.long S), .second, .val (.int x2), .val (.int ((S &&& (65535 : Int64)).toInt32)), .val (.int (x3 - x2)), .unset] [(.ref bz_9)])) (fun t k => st9.trans k) ?_
    have nz9_x0 : bz_9 ≠ x0 := by
      rcases pq9_0 with q | q
      · rw [q]; exact (Ne.symm p_15)
      · exact Nat.ne_of_gt (Nat.lt_of_lt_of_le p_4.lt q)
    have nz9_x1 : bz_9 ≠ x1 := by
      rcases pq9_0 with q | q
      · rw [q]; exact (Ne.symm p_18)
      · exact Nat.ne_of_gt (Nat.lt_of_lt_of_le p_12.lt q)
    have nz9_ch : bz_9 ≠ ch := by
      rcases pq9_0 with q | q
      · rw [q]; exact (Ne.symm p_20)
      · exact Nat.ne_of_gt (Nat.lt_of_lt_of_le p_9.lt q)
    have nz9_stt : bz_9 ≠ stt := by
      rcases pq9_0 with q | q
      · rw [q]; exact p_22
      · exact Nat.ne_of_gt (Nat.lt_of_lt_of_le p_11.lt q)
    have mb9 : bz_9 ∈ [x0, ch, by_, stt] ∨ h0.size ≤ bz_9 := pq9_0.elim (fun q => Or.inl (by rw [q]; simp)) Or.inr
    refine own_step (st' := T9.setTop (mkF m 134 #[.val (.ref x0), .val (.ref x1), .val (.int x2), .val (.int x3), .val (.long S), .second, .val (.int x2), .val (.int ((S &&& (65535 : Int64)).toInt32)), .val (.int (x3 - x2)), .val (.ref bz_9)] [])) (fun t k => XS.astore X9.here hx rfl (hb hby d3_132) rfl rfl (l' := #[.val (.ref x0), .val (.ref x1), .val (.int x2), .val (.int x3), .val (.long S), .second, .val (.int x2), .val (.int ((S &&& (65535 : Int64)).toInt32)), .val (.int (x3 - x2)), .val (.ref bz_9)]) rfl k) ?_
    refine own_step (st' := T9.setTop (mkF m 135 #[.val (.ref x0), .val (.ref x1), .val (.int x2), .val (.int x3), .val (.long S), .second, .val (.int x2), .val (.int ((S &&& (65535 : Int64)).toInt32)), .val (.int (x3 - x2)), .val (.ref bz_9)] [(.ref x1)])) (fun t k => XS.aloadN X9.here hx rfl (hb hby d3_134) rfl rfl k) ?_
    refine own_step (st' := T9.setTop (mkF m 137 #[.val (.ref x0), .val (.ref x1), .val (.int x2), .val (.int x3), .val (.long S), .second, .val (.int x2), .val (.int ((S &&& (65535 : Int64)).toInt32)), .val (.int (x3 - x2)), .val (.ref bz_9)] [(.int x2), (.ref x1)])) (fun t k => XS.iload X9.here hx rfl (hb hby d3_135) rfl k) ?_
    refine own_step (st' := T9.setTop (mkF m 139 #[.val (.ref x0), .val (.ref x1), .val (.int x2), .val (.int x3), .val (.long S), .second, .val (.int x2), .val (.int ((S &&& (65535 : Int64)).toInt32)), .val (.int (x3 - x2)), .val (.ref bz_9)] [(.ref bz_9), (.int x2), (.ref x1)])) (fun t k => XS.aload X9.here hx rfl (hb hby d3_137) rfl rfl k) ?_
    refine own_step (st' := T9.setTop (mkF m 141 #[.val (.ref x0), .val (.ref x1), .val (.int x2), .val (.int x3), .val (.long S), .second, .val (.int x2), .val (.int ((S &&& (65535 : Int64)).toInt32)), .val (.int (x3 - x2)), .val (.ref bz_9)] [(.int ((S &&& (65535 : Int64)).toInt32)), (.ref bz_9), (.int x2), (.ref x1)])) (fun t k => XS.iload X9.here hx rfl (hb hby d3_139) rfl k) ?_
    refine own_step (st' := T9.setTop (mkF m 143 #[.val (.ref x0), .val (.ref x1), .val (.int x2), .val (.int x3), .val (.long S), .second, .val (.int x2), .val (.int ((S &&& (65535 : Int64)).toInt32)), .val (.int (x3 - x2)), .val (.ref bz_9)] [(.int (x3 - x2)), (.int ((S &&& (65535 : Int64)).toInt32)), (.ref bz_9), (.int x2), (.ref x1)])) (fun t k => XS.iload X9.here hx rfl (hb hby d3_141) rfl k) ?_
    obtain ⟨T20, h20, L20, vd20, X20, e20, N20, K20, V20, cp20, st20⟩ := own_cp X9 hx hZ hown (hw _ (List.mem_of_getElem? (i := 37) rfl)) (hw _ (List.mem_of_getElem? (i := 40) rfl)) (hw _ (List.mem_of_getElem? (i := 38) rfl)) (hw _ (List.mem_of_getElem? (i := 39) rfl)) e9 f17 pq9_5 rfl (by omega) (by omega) (by omega) (by rw [h2048]; omega) (by have := pq9_1; rw [own_add (x := (S &&& (65535 : Int64)).toInt32) (y := x3 - x2) ⟨by omega, by omega⟩ ⟨by omega, by omega⟩] at this; omega) N9 pq9_2 (g := (mkF m 143 #[.val (.ref x0), .val (.ref x1), .val (.int x2), .val (.int x3), .val (.long S), .second, .val (.int x2), .val (.int ((S &&& (65535 : Int64)).toInt32)), .val (.int (x3 - x2)), .val (.ref bz_9)] [(.int (x3 - x2)), (.int ((S &&& (65535 : Int64)).toInt32)), (.ref bz_9), (.int x2), (.ref x1)])) rfl (by rw [hml]; rfl) rfl (hb hby d3_143) (by decide) (W := 0) (by show 2 * 0 + _ ≤ _; exact Nat.le_of_eq rfl) (by decide)
    have f21 := f10.keep K20 (ninS (Ne.symm nz9_x0) nin0)
    have f22 := f11.keep K20 (ninS (Ne.symm nz9_x0) nin0)
    have f23 := pq9_3.keep K20 (ninS (Ne.symm nz9_x0) nin0)
    have f24 := f13.keep K20 (ninS (Ne.symm nz9_x0) nin0)
    have f25 := f14.keep K20
    have f26 := f16.keep K20 (ninS (Ne.symm nz9_stt) nin0)
    have f27 := f17.keep K20 (ninS (Ne.symm nz9_x1) nin0)
    have f28 := pq9_4.keep K20 (ninS (Ne.symm nz9_ch) nin0)
    have K29 : Keep h0 h20 [x0, ch, by_, stt] := K18.trans K20 (allS mb9 all0)
    have Z30 : n0 ≤ h20.size := Nat.le_trans Z19 K20.1
    refine own_step (st' := T20.setTop (mkF m 146 #[.val (.ref x0), .val (.ref x1), .val (.int x2), .val (.int x3), .val (.long S), .second, .val (.int x2), .val (.int ((S &&& (65535 : Int64)).toInt32)), .val (.int (x3 - x2)), .val (.ref bz_9)] [])) st20 ?_
    refine own_step (st' := T20.setTop (mkF m 148 #[.val (.ref x0), .val (.ref x1), .val (.int x2), .val (.int x3), .val (.long S), .second, .val (.int x2), .val (.int ((S &&& (65535 : Int64)).toInt32)), .val (.int (x3 - x2)), .val (.ref bz_9)] [(.int x2)])) (fun t k => XS.iload X20.here hx rfl (hb hby d3_146) rfl k) ?_
    refine own_step (st' := T20.setTop (mkF m 150 #[.val (.ref x0), .val (.ref x1), .val (.int x2), .val (.int x3), .val (.long S), .second, .val (.int x2), .val (.int ((S &&& (65535 : Int64)).toInt32)), .val (.int (x3 - x2)), .val (.ref bz_9)] [(.int (x3 - x2)), (.int x2)])) (fun t k => XS.iload X20.here hx rfl (hb hby d3_148) rfl k) ?_
    refine own_step (st' := T20.setTop (mkF m 151 #[.val (.ref x0), .val (.ref x1), .val (.int x2), .val (.int x3), .val (.long S), .second, .val (.int x2), .val (.int ((S &&& (65535 : Int64)).toInt32)), .val (.int (x3 - x2)), .val (.ref bz_9)] [(.int (x2 + (x3 - x2)))])) (fun t k => XS.iadd X20.here hx rfl (hb hby d3_150) rfl k) ?_
    refine own_step (st' := T20.setTop (mkF m 153 #[.val (.ref x0), .val (.ref x1), .val (.int x2), .val (.int x3), .val (.long S), .second, .val (.int (x2 + (x3 - x2))), .val (.int ((S &&& (65535 : Int64)).toInt32)), .val (.int (x3 - x2)), .val (.ref bz_9)] [])) (fun t k => XS.istore X20.here hx rfl (hb hby d3_151) rfl (l' := #[.val (.ref x0), .val (.ref x1), .val (.int x2), .val (.int x3), .val (.long S), .second, .val (.int (x2 + (x3 - x2))), .val (.int ((S &&& (65535 : Int64)).toInt32)), .val (.int (x3 - x2)), .val (.ref bz_9)]) rfl k) ?_
    refine own_step (st' := T20.setTop (mkF m 155 #[.val (.ref x0), .val (.ref x1), .val (.int x2), .val (.int x3), .val (.long S), .second, .val (.int (x2 + (x3 - x2))), .val (.int ((S &&& (65535 : Int64)).toInt32)), .val (.int (x3 - x2)), .val (.ref bz_9)] [(.long S)])) (fun t k => XS.lload X20.here hx rfl (hb hby d3_153) rfl k) ?_
    refine own_step (st' := T20.setTop (mkF m 157 #[.val (.ref x0), .val (.ref x1), .val (.int x2), .val (.int x3), .val (.long S), .second, .val (.int (x2 + (x3 - x2))), .val (.int ((S &&& (65535 : Int64)).toInt32)), .val (.int (x3 - x2)), .val (.ref bz_9)] [(.int (x3 - x2)), (.long S)])) (fun t k => XS.iload X20.here hx rfl (hb hby d3_155) rfl k) ?_
    refine own_step (st' := T20.setTop (mkF m 158 #[.val (.ref x0), .val (.ref x1), .val (.int x2), .val (.int x3), .val (.long S), .second, .val (.int (x2 + (x3 - x2))), .val (.int ((S &&& (65535 : Int64)).toInt32)), .val (.int (x3 - x2)), .val (.ref bz_9)] [(.long ((x3 - x2).toInt64)), (.long S)])) (fun t k => XS.i2l X20.here hx rfl (hb hby d3_157) rfl k) ?_
    refine own_step (st' := T20.setTop (mkF m 159 #[.val (.ref x0), .val (.ref x1), .val (.int x2), .val (.int x3), .val (.long S), .second, .val (.int (x2 + (x3 - x2))), .val (.int ((S &&& (65535 : Int64)).toInt32)), .val (.int (x3 - x2)), .val (.ref bz_9)] [(.long (S + ((x3 - x2).toInt64)))])) (fun t k => XS.ladd X20.here hx rfl (hb hby d3_158) rfl k) ?_
    refine own_step (st' := T20.setTop (mkF m 161 #[.val (.ref x0), .val (.ref x1), .val (.int x2), .val (.int x3), .val (.long (S + ((x3 - x2).toInt64))), .second, .val (.int (x2 + (x3 - x2))), .val (.int ((S &&& (65535 : Int64)).toInt32)), .val (.int (x3 - x2)), .val (.ref bz_9)] [])) (fun t k => XS.lstore X20.here hx rfl (hb hby d3_159) rfl (l' := #[.val (.ref x0), .val (.ref x1), .val (.int x2), .val (.int x3), .val (.long (S + ((x3 - x2).toInt64))), .second, .val (.int (x2 + (x3 - x2))), .val (.int ((S &&& (65535 : Int64)).toInt32)), .val (.int (x3 - x2)), .val (.ref bz_9)]) rfl k) ?_
    refine own_step (st' := T20.setTop (mkF m 88 #[.val (.ref x0), .val (.ref x1), .val (.int x2), .val (.int x3), .val (.long (S + ((x3 - x2).toInt64))), .second, .val (.int (x2 + (x3 - x2))), .val (.int ((S &&& (65535 : Int64)).toInt32)), .val (.int (x3 - x2)), .val (.ref bz_9)] [])) (fun t k => XS.goto X20.here hx rfl (pc0 := 161) (pc' := 88) rfl (hb hby d3_161) (by decide) (by decide) k) ?_
    refine own_step (st' := T20.setTop (mkF m 90 #[.val (.ref x0), .val (.ref x1), .val (.int x2), .val (.int x3), .val (.long (S + ((x3 - x2).toInt64))), .second, .val (.int (x2 + (x3 - x2))), .val (.int ((S &&& (65535 : Int64)).toInt32)), .val (.int (x3 - x2)), .val (.ref bz_9)] [(.int (x2 + (x3 - x2)))])) (fun t k => XS.iload X20.here hx rfl (hb hby d3_88) rfl k) ?_
    refine own_step (st' := T20.setTop (mkF m 91 #[.val (.ref x0), .val (.ref x1), .val (.int x2), .val (.int x3), .val (.long (S + ((x3 - x2).toInt64))), .second, .val (.int (x2 + (x3 - x2))), .val (.int ((S &&& (65535 : Int64)).toInt32)), .val (.int (x3 - x2)), .val (.ref bz_9)] [(.int x3), (.int (x2 + (x3 - x2)))])) (fun t k => XS.iloadN X20.here hx rfl (hb hby d3_90) rfl k) ?_
    refine own_step (st' := T20.setTop (mkF m 164 #[.val (.ref x0), .val (.ref x1), .val (.int x2), .val (.int x3), .val (.long (S + ((x3 - x2).toInt64))), .second, .val (.int (x2 + (x3 - x2))), .val (.int ((S &&& (65535 : Int64)).toInt32)), .val (.int (x3 - x2)), .val (.ref bz_9)] [])) (fun t k => XS.icmpYes X20.here hx rfl (pc0 := 91) (pc' := 164) rfl (hb hby d3_91) rfl (flt (by rw [Int32.lt_iff_toInt_lt, own_add (x := x2) (y := x3 - x2) ⟨by omega, by omega⟩ ⟨by omega, by omega⟩]; omega)).2.1 (by decide) (by decide) k) ?_
    refine own_step (st' := T20.setTop (mkF m 165 #[.val (.ref x0), .val (.ref x1), .val (.int x2), .val (.int x3), .val (.long (S + ((x3 - x2).toInt64))), .second, .val (.int (x2 + (x3 - x2))), .val (.int ((S &&& (65535 : Int64)).toInt32)), .val (.int (x3 - x2)), .val (.ref bz_9)] [(.ref x0)])) (fun t k => XS.aloadN X20.here hx rfl (hb hby d3_164) rfl rfl k) ?_
    obtain ⟨T31, X31, e31, st31⟩ := getF X20 hx hZ hown (host := "") (Or.inl (hw _ (List.mem_of_getElem? (i := 16) rfl))) Via.refl e20 f24 (g := (mkF m 165 #[.val (.ref x0), .val (.ref x1), .val (.int x2), .val (.int x3), .val (.long (S + ((x3 - x2).toInt64))), .second, .val (.int (x2 + (x3 - x2))), .val (.int ((S &&& (65535 : Int64)).toInt32)), .val (.int (x3 - x2)), .val (.ref bz_9)] [(.ref x0)])) rfl rfl (hb hby d3_165)
    refine own_step (st' := T31.setTop (mkF m 168 #[.val (.ref x0), .val (.ref x1), .val (.int x2), .val (.int x3), .val (.long (S + ((x3 - x2).toInt64))), .second, .val (.int (x2 + (x3 - x2))), .val (.int ((S &&& (65535 : Int64)).toInt32)), .val (.int (x3 - x2)), .val (.ref bz_9)] [(.ref stt)])) st31 ?_
    refine own_step (st' := T31.setTop (mkF m 169 #[.val (.ref x0), .val (.ref x1), .val (.int x2), .val (.int x3), .val (.long (S + ((x3 - x2).toInt64))), .second, .val (.int (x2 + (x3 - x2))), .val (.int ((S &&& (65535 : Int64)).toInt32)), .val (.int (x3 - x2)), .val (.ref bz_9)] [(.ref x0), (.ref stt)])) (fun t k => XS.aloadN X31.here hx rfl (hb hby d3_168) rfl rfl k) ?_
    obtain ⟨T32, X32, e32, st32⟩ := getF X31 hx hZ hown (host := "") (Or.inl (hw _ (List.mem_of_getElem? (i := 25) rfl))) Via.refl e31 f21 (g := (mkF m 169 #[.val (.ref x0), .val (.ref x1), .val (.int x2), .val (.int x3), .val (.long (S + ((x3 - x2).toInt64))), .second, .val (.int (x2 + (x3 - x2))), .val (.int ((S &&& (65535 : Int64)).toInt32)), .val (.int (x3 - x2)), .val (.ref bz_9)] [(.ref x0), (.ref stt)])) rfl rfl (hb hby d3_169)
    refine own_step (st' := T32.setTop (mkF m 172 #[.val (.ref x0), .val (.ref x1), .val (.int x2), .val (.int x3), .val (.long (S + ((x3 - x2).toInt64))), .second, .val (.int (x2 + (x3 - x2))), .val (.int ((S &&& (65535 : Int64)).toInt32)), .val (.int (x3 - x2)), .val (.ref bz_9)] [(.int n), (.ref stt)])) st32 ?_
    refine own_step (st' := T32.setTop (mkF m 173 #[.val (.ref x0), .val (.ref x1), .val (.int x2), .val (.int x3), .val (.long (S + ((x3 - x2).toInt64))), .second, .val (.int (x2 + (x3 - x2))), .val (.int ((S &&& (65535 : Int64)).toInt32)), .val (.int (x3 - x2)), .val (.ref bz_9)] [(.int (1 : Int32)), (.int n), (.ref stt)])) (fun t k => XS.iconst X32.here hx rfl (hb hby d3_172) k) ?_
    refine own_step (st' := T32.setTop (mkF m 174 #[.val (.ref x0), .val (.ref x1), .val (.int x2), .val (.int x3), .val (.long (S + ((x3 - x2).toInt64))), .second, .val (.int (x2 + (x3 - x2))), .val (.int ((S &&& (65535 : Int64)).toInt32)), .val (.int (x3 - x2)), .val (.ref bz_9)] [(.int (n + (1 : Int32))), (.ref stt)])) (fun t k => XS.iadd X32.here hx rfl (hb hby d3_173) rfl k) ?_
    refine own_step (st' := T32.setTop (mkF m 176 #[.val (.ref x0), .val (.ref x1), .val (.int x2), .val (.int x3), .val (.long (S + ((x3 - x2).toInt64))), .second, .val (.int (x2 + (x3 - x2))), .val (.int ((S &&& (65535 : Int64)).toInt32)), .val (.int (x3 - x2)), .val (.ref bz_9)] [(.long (S + ((x3 - x2).toInt64))), (.int (n + (1 : Int32))), (.ref stt)])) (fun t k => XS.lload X32.here hx rfl (hb hby d3_174) rfl k) ?_
    obtain ⟨T33, h33, X33, e33, W33, V33, st33⟩ := own_stJ X32 hx hZ e32 f26 (j := (n + (1 : Int32))) (i := (n + (1 : Int32)).toNatClampNeg) (own_in (by omega) (by rw [h16]; omega)) rfl (by have := nat_of (own_ofNeg (x := n + 1) (by omega)); rw [p_26]; omega) (g := (mkF m 176 #[.val (.ref x0), .val (.ref x1), .val (.int x2), .val (.int x3), .val (.long (S + ((x3 - x2).toInt64))), .second, .val (.int (x2 + (x3 - x2))), .val (.int ((S &&& (65535 : Int64)).toInt32)), .val (.int (x3 - x2)), .val (.ref bz_9)] [(.long (S + ((x3 - x2).toInt64))), (.int (n + (1 : Int32))), (.ref stt)])) rfl rfl (hb hby d3_176)
    have V33 : Arv Z h33 stt ks .long (16 : Int32) (vss.set (n + (1 : Int32)).toNatClampNeg (.long (S + ((x3 - x2).toInt64)))) (.long (0 : Int64)) := V33
    have f34 := f21.other W33 (Or.inl p_16)
    have f35 := f22.other W33 (Or.inl p_16)
    have f36 := f23.other W33 (Or.inl p_16)
    have f37 := f24.other W33 (Or.inl p_16)
    have f38 := f25.wr W33
    have f39 := f27.other W33 p_19
    have f40 := f28.other W33 p_21
    have f41 := V20.other W33 nz9_stt
    have K42 : Keep h0 h33 [x0, ch, by_, stt] := K29.wr W33 (Or.inl (List.mem_of_getElem? (i := 3) rfl))
    have Z43 : n0 ≤ h33.size := Nat.le_trans Z30 (Keep.of_wr W33).1
    have N44 := Fr.snoc X33 N20 p_8
    refine own_step (st' := T33.setTop (mkF m 177 #[.val (.ref x0), .val (.ref x1), .val (.int x2), .val (.int x3), .val (.long (S + ((x3 - x2).toInt64))), .second, .val (.int (x2 + (x3 - x2))), .val (.int ((S &&& (65535 : Int64)).toInt32)), .val (.int (x3 - x2)), .val (.ref bz_9)] [])) st33 ?_
    refine own_step (st' := T33.setTop (mkF m 178 #[.val (.ref x0), .val (.ref x1), .val (.int x2), .val (.int x3), .val (.long (S + ((x3 - x2).toInt64))), .second, .val (.int (x2 + (x3 - x2))), .val (.int ((S &&& (65535 : Int64)).toInt32)), .val (.int (x3 - x2)), .val (.ref bz_9)] [(.ref x0)])) (fun t k => XS.aloadN X33.here hx rfl (hb hby d3_177) rfl rfl k) ?_
    refine own_step (st' := T33.setTop (mkF m 179 #[.val (.ref x0), .val (.ref x1), .val (.int x2), .val (.int x3), .val (.long (S + ((x3 - x2).toInt64))), .second, .val (.int (x2 + (x3 - x2))), .val (.int ((S &&& (65535 : Int64)).toInt32)), .val (.int (x3 - x2)), .val (.ref bz_9)] [(.ref x0), (.ref x0)])) (fun t k => XS.dup X33.here hx rfl (hb hby d3_178) rfl rfl k) ?_
    obtain ⟨T45, X45, e45, st45⟩ := getF X33 hx hZ hown (host := "") (Or.inl (hw _ (List.mem_of_getElem? (i := 25) rfl))) Via.refl e33 f34 (g := (mkF m 179 #[.val (.ref x0), .val (.ref x1), .val (.int x2), .val (.int x3), .val (.long (S + ((x3 - x2).toInt64))), .second, .val (.int (x2 + (x3 - x2))), .val (.int ((S &&& (65535 : Int64)).toInt32)), .val (.int (x3 - x2)), .val (.ref bz_9)] [(.ref x0), (.ref x0)])) rfl rfl (hb hby d3_179)
    refine own_step (st' := T45.setTop (mkF m 182 #[.val (.ref x0), .val (.ref x1), .val (.int x2), .val (.int x3), .val (.long (S + ((x3 - x2).toInt64))), .second, .val (.int (x2 + (x3 - x2))), .val (.int ((S &&& (65535 : Int64)).toInt32)), .val (.int (x3 - x2)), .val (.ref bz_9)] [(.int n), (.ref x0)])) st45 ?_
    refine own_step (st' := T45.setTop (mkF m 183 #[.val (.ref x0), .val (.ref x1), .val (.int x2), .val (.int x3), .val (.long (S + ((x3 - x2).toInt64))), .second, .val (.int (x2 + (x3 - x2))), .val (.int ((S &&& (65535 : Int64)).toInt32)), .val (.int (x3 - x2)), .val (.ref bz_9)] [(.int (1 : Int32)), (.int n), (.ref x0)])) (fun t k => XS.iconst X45.here hx rfl (hb hby d3_182) k) ?_
    refine own_step (st' := T45.setTop (mkF m 184 #[.val (.ref x0), .val (.ref x1), .val (.int x2), .val (.int x3), .val (.long (S + ((x3 - x2).toInt64))), .second, .val (.int (x2 + (x3 - x2))), .val (.int ((S &&& (65535 : Int64)).toInt32)), .val (.int (x3 - x2)), .val (.ref bz_9)] [(.int (n + (1 : Int32))), (.ref x0)])) (fun t k => XS.iadd X45.here hx rfl (hb hby d3_183) rfl k) ?_
    obtain ⟨T46, h46, X46, e46, W46, st46⟩ := putF X45 hx hZ hown (host := "") (Or.inl (hw _ (List.mem_of_getElem? (i := 25) rfl))) Via.refl e45 f34 f38 (Or.inl (hw _ (List.mem_of_getElem? (i := 26) rfl))) (hw _ (List.mem_of_getElem? (i := 2) rfl)) (ty := .int) (by decide) rfl rfl (g := (mkF m 184 #[.val (.ref x0), .val (.ref x1), .val (.int x2), .val (.int x3), .val (.long (S + ((x3 - x2).toInt64))), .second, .val (.int (x2 + (x3 - x2))), .val (.int ((S &&& (65535 : Int64)).toInt32)), .val (.int (x3 - x2)), .val (.ref bz_9)] [(.int (n + (1 : Int32))), (.ref x0)])) rfl rfl (hb hby d3_184)
    have F46 := f34.same W46
    have f47 := f35.other W46 (Or.inr (slot_ne (Or.inr (hw _ (List.mem_of_getElem? (i := 19) rfl))) (Or.inl (hw _ (List.mem_of_getElem? (i := 26) rfl))) (by decide) (t := .int) (t' := .int) (by decide) (by decide)))
    have f48 := f36.other W46 (Or.inr (slot_ne (Or.inl (hw _ (List.mem_of_getElem? (i := 14) rfl))) (Or.inl (hw _ (List.mem_of_getElem? (i := 26) rfl))) (by decide) (t := (.array (.array .byte))) (t' := .int) (by decide) (by decide)))
    have f49 := f37.other W46 (Or.inr (slot_ne (Or.inl (hw _ (List.mem_of_getElem? (i := 17) rfl))) (Or.inl (hw _ (List.mem_of_getElem? (i := 26) rfl))) (by decide) (t := (.array .long)) (t' := .int) (by decide) (by decide)))
    have f50 := f38.wr W46
    have f51 := f39.other W46 (Ne.symm p_13)
    have f52 := f40.other W46 (Ne.symm p_14)
    have f53 := f41.other W46 nz9_x0
    have f54 := V33.other W46 (Ne.symm p_16)
    have K55 : Keep h0 h46 [x0, ch, by_, stt] := K42.wr W46 (Or.inl (List.mem_of_getElem? (i := 0) rfl))
    have Z56 : n0 ≤ h46.size := Nat.le_trans Z43 (Keep.of_wr W46).1
    have N57 := Fr.snoc X46 N44 p_5
    refine own_step (st' := T46.setTop (mkF m 187 #[.val (.ref x0), .val (.ref x1), .val (.int x2), .val (.int x3), .val (.long (S + ((x3 - x2).toInt64))), .second, .val (.int (x2 + (x3 - x2))), .val (.int ((S &&& (65535 : Int64)).toInt32)), .val (.int (x3 - x2)), .val (.ref bz_9)] [])) st46 ?_
    refine own_ret X46 Bd.notSynchronized (none) (fun _ => rfl) (fun fs hr => X46.returnOut hx Bd.returns (hb hby d3_187) hr) ?_ (by decide) (by decide)
    rw [e46]
    exact ⟨bz_9, kz_9, nz_9, vd20, dz_9, rfl, N57, K55, pq9_2, nz9_x0, nz9_x1, nz9_ch, nz9_stt, (by have := pq9_1; rw [own_add (x := (S &&& (65535 : Int64)).toInt32) (y := x3 - x2) ⟨by omega, by omega⟩ ⟨by omega, by omega⟩] at this; omega), F46, f47, f48, f49, f52, f53, f54⟩
  · refine own_step (st' := T6.setTop (mkF m 164 #[.val (.ref x0), .val (.ref x1), .val (.int x2), .val (.int x3), .val (.long S), .second, .val (.int x2), .unset, .unset, .unset] [])) (fun t k => XS.icmpYes X6.here hx rfl (pc0 := 91) (pc' := 164) rfl (hb hby d3_91) rfl (flt hc7).2.1 (by decide) (by decide) k) ?_
    refine own_step (st' := T6.setTop (mkF m 165 #[.val (.ref x0), .val (.ref x1), .val (.int x2), .val (.int x3), .val (.long S), .second, .val (.int x2), .unset, .unset, .unset] [(.ref x0)])) (fun t k => XS.aloadN X6.here hx rfl (hb hby d3_164) rfl rfl k) ?_
    obtain ⟨T58, X58, e58, st58⟩ := getF X6 hx hZ hown (host := "") (Or.inl (hw _ (List.mem_of_getElem? (i := 16) rfl))) Via.refl e6 p_3 (g := (mkF m 165 #[.val (.ref x0), .val (.ref x1), .val (.int x2), .val (.int x3), .val (.long S), .second, .val (.int x2), .unset, .unset, .unset] [(.ref x0)])) rfl rfl (hb hby d3_165)
    refine own_step (st' := T58.setTop (mkF m 168 #[.val (.ref x0), .val (.ref x1), .val (.int x2), .val (.int x3), .val (.long S), .second, .val (.int x2), .unset, .unset, .unset] [(.ref stt)])) st58 ?_
    refine own_step (st' := T58.setTop (mkF m 169 #[.val (.ref x0), .val (.ref x1), .val (.int x2), .val (.int x3), .val (.long S), .second, .val (.int x2), .unset, .unset, .unset] [(.ref x0), (.ref stt)])) (fun t k => XS.aloadN X58.here hx rfl (hb hby d3_168) rfl rfl k) ?_
    obtain ⟨T59, X59, e59, st59⟩ := getF X58 hx hZ hown (host := "") (Or.inl (hw _ (List.mem_of_getElem? (i := 25) rfl))) Via.refl e58 p_0 (g := (mkF m 169 #[.val (.ref x0), .val (.ref x1), .val (.int x2), .val (.int x3), .val (.long S), .second, .val (.int x2), .unset, .unset, .unset] [(.ref x0), (.ref stt)])) rfl rfl (hb hby d3_169)
    refine own_step (st' := T59.setTop (mkF m 172 #[.val (.ref x0), .val (.ref x1), .val (.int x2), .val (.int x3), .val (.long S), .second, .val (.int x2), .unset, .unset, .unset] [(.int n), (.ref stt)])) st59 ?_
    refine own_step (st' := T59.setTop (mkF m 173 #[.val (.ref x0), .val (.ref x1), .val (.int x2), .val (.int x3), .val (.long S), .second, .val (.int x2), .unset, .unset, .unset] [(.int (1 : Int32)), (.int n), (.ref stt)])) (fun t k => XS.iconst X59.here hx rfl (hb hby d3_172) k) ?_
    refine own_step (st' := T59.setTop (mkF m 174 #[.val (.ref x0), .val (.ref x1), .val (.int x2), .val (.int x3), .val (.long S), .second, .val (.int x2), .unset, .unset, .unset] [(.int (n + (1 : Int32))), (.ref stt)])) (fun t k => XS.iadd X59.here hx rfl (hb hby d3_173) rfl k) ?_
    refine own_step (st' := T59.setTop (mkF m 176 #[.val (.ref x0), .val (.ref x1), .val (.int x2), .val (.int x3), .val (.long S), .second, .val (.int x2), .unset, .unset, .unset] [(.long S), (.int (n + (1 : Int32))), (.ref stt)])) (fun t k => XS.lload X59.here hx rfl (hb hby d3_174) rfl k) ?_
    obtain ⟨T60, h60, X60, e60, W60, V60, st60⟩ := own_stJ X59 hx hZ e59 p_11 (j := (n + (1 : Int32))) (i := (n + (1 : Int32)).toNatClampNeg) (own_in (by omega) (by rw [h16]; omega)) rfl (by have := nat_of (own_ofNeg (x := n + 1) (by omega)); rw [p_26]; omega) (g := (mkF m 176 #[.val (.ref x0), .val (.ref x1), .val (.int x2), .val (.int x3), .val (.long S), .second, .val (.int x2), .unset, .unset, .unset] [(.long S), (.int (n + (1 : Int32))), (.ref stt)])) rfl rfl (hb hby d3_176)
    have V60 : Arv Z h60 stt ks .long (16 : Int32) (vss.set (n + (1 : Int32)).toNatClampNeg (.long S)) (.long (0 : Int64)) := V60
    have f61 := p_0.other W60 (Or.inl p_16)
    have f62 := p_1.other W60 (Or.inl p_16)
    have f63 := p_2.other W60 (Or.inl p_16)
    have f64 := p_3.other W60 (Or.inl p_16)
    have f65 := p_4.wr W60
    have f66 := p_9.other W60 p_21
    have f67 := p_10.other W60 p_22
    have f68 := p_12.other W60 p_19
    have K69 : Keep h0 h60 [x0, ch, by_, stt] := (Keep.refl h0 [x0, ch, by_, stt]).wr W60 (Or.inl (List.mem_of_getElem? (i := 3) rfl))
    have Z70 : n0 ≤ h60.size := Nat.le_trans Z0 (Keep.of_wr W60).1
    have N71 := Fr.snoc X60 N0 p_8
    refine own_step (st' := T60.setTop (mkF m 177 #[.val (.ref x0), .val (.ref x1), .val (.int x2), .val (.int x3), .val (.long S), .second, .val (.int x2), .unset, .unset, .unset] [])) st60 ?_
    refine own_step (st' := T60.setTop (mkF m 178 #[.val (.ref x0), .val (.ref x1), .val (.int x2), .val (.int x3), .val (.long S), .second, .val (.int x2), .unset, .unset, .unset] [(.ref x0)])) (fun t k => XS.aloadN X60.here hx rfl (hb hby d3_177) rfl rfl k) ?_
    refine own_step (st' := T60.setTop (mkF m 179 #[.val (.ref x0), .val (.ref x1), .val (.int x2), .val (.int x3), .val (.long S), .second, .val (.int x2), .unset, .unset, .unset] [(.ref x0), (.ref x0)])) (fun t k => XS.dup X60.here hx rfl (hb hby d3_178) rfl rfl k) ?_
    obtain ⟨T72, X72, e72, st72⟩ := getF X60 hx hZ hown (host := "") (Or.inl (hw _ (List.mem_of_getElem? (i := 25) rfl))) Via.refl e60 f61 (g := (mkF m 179 #[.val (.ref x0), .val (.ref x1), .val (.int x2), .val (.int x3), .val (.long S), .second, .val (.int x2), .unset, .unset, .unset] [(.ref x0), (.ref x0)])) rfl rfl (hb hby d3_179)
    refine own_step (st' := T72.setTop (mkF m 182 #[.val (.ref x0), .val (.ref x1), .val (.int x2), .val (.int x3), .val (.long S), .second, .val (.int x2), .unset, .unset, .unset] [(.int n), (.ref x0)])) st72 ?_
    refine own_step (st' := T72.setTop (mkF m 183 #[.val (.ref x0), .val (.ref x1), .val (.int x2), .val (.int x3), .val (.long S), .second, .val (.int x2), .unset, .unset, .unset] [(.int (1 : Int32)), (.int n), (.ref x0)])) (fun t k => XS.iconst X72.here hx rfl (hb hby d3_182) k) ?_
    refine own_step (st' := T72.setTop (mkF m 184 #[.val (.ref x0), .val (.ref x1), .val (.int x2), .val (.int x3), .val (.long S), .second, .val (.int x2), .unset, .unset, .unset] [(.int (n + (1 : Int32))), (.ref x0)])) (fun t k => XS.iadd X72.here hx rfl (hb hby d3_183) rfl k) ?_
    obtain ⟨T73, h73, X73, e73, W73, st73⟩ := putF X72 hx hZ hown (host := "") (Or.inl (hw _ (List.mem_of_getElem? (i := 25) rfl))) Via.refl e72 f61 f65 (Or.inl (hw _ (List.mem_of_getElem? (i := 26) rfl))) (hw _ (List.mem_of_getElem? (i := 2) rfl)) (ty := .int) (by decide) rfl rfl (g := (mkF m 184 #[.val (.ref x0), .val (.ref x1), .val (.int x2), .val (.int x3), .val (.long S), .second, .val (.int x2), .unset, .unset, .unset] [(.int (n + (1 : Int32))), (.ref x0)])) rfl rfl (hb hby d3_184)
    have F73 := f61.same W73
    have f74 := f62.other W73 (Or.inr (slot_ne (Or.inr (hw _ (List.mem_of_getElem? (i := 19) rfl))) (Or.inl (hw _ (List.mem_of_getElem? (i := 26) rfl))) (by decide) (t := .int) (t' := .int) (by decide) (by decide)))
    have f75 := f63.other W73 (Or.inr (slot_ne (Or.inl (hw _ (List.mem_of_getElem? (i := 14) rfl))) (Or.inl (hw _ (List.mem_of_getElem? (i := 26) rfl))) (by decide) (t := (.array (.array .byte))) (t' := .int) (by decide) (by decide)))
    have f76 := f64.other W73 (Or.inr (slot_ne (Or.inl (hw _ (List.mem_of_getElem? (i := 17) rfl))) (Or.inl (hw _ (List.mem_of_getElem? (i := 26) rfl))) (by decide) (t := (.array .long)) (t' := .int) (by decide) (by decide)))
    have f77 := f65.wr W73
    have f78 := f66.other W73 (Ne.symm p_14)
    have f79 := f67.other W73 (Ne.symm p_15)
    have f80 := f68.other W73 (Ne.symm p_13)
    have f81 := V60.other W73 (Ne.symm p_16)
    have K82 : Keep h0 h73 [x0, ch, by_, stt] := K69.wr W73 (Or.inl (List.mem_of_getElem? (i := 0) rfl))
    have Z83 : n0 ≤ h73.size := Nat.le_trans Z70 (Keep.of_wr W73).1
    have N84 := Fr.snoc X73 N71 p_5
    refine own_step (st' := T73.setTop (mkF m 187 #[.val (.ref x0), .val (.ref x1), .val (.int x2), .val (.int x3), .val (.long S), .second, .val (.int x2), .unset, .unset, .unset] [])) st73 ?_
    refine own_ret X73 Bd.notSynchronized (none) (fun _ => rfl) (fun fs hr => X73.returnOut hx Bd.returns (hb hby d3_187) hr) ?_ (by decide) (by decide)
    rw [e73]
    have hSS : S = S + (x3 - x2).toInt64 := own_ext ⟨by omega, by omega⟩ hc7 S
    exact ⟨by_, kb, nb, vb, db, rfl, N84, K82, p_7, (Ne.symm p_15), (Ne.symm p_18), (Ne.symm p_20), p_22, (by omega), F73, f74, f75, f76, f78, f79, (by have q := f81; rw [hSS] at q; exact q)⟩
def Q_rmC3 (Z : State) (x0 : Addr) (x1 : Int32) (k : ClassId) (n : Int32) (vs : List Value) (dv : Value) (h0 : Heap) (n0 : Nat) (v : Option Value) (h : Heap) (L : List Loc) : Prop := ∃ b : Addr, ∃ kb : ClassId, ∃ vb : List Value, v = some (.ref b) ∧ Fr n0 L ∧ Keep h0 h [] ∧ h0.size ≤ b ∧ Exa Z h b "[B" ∧ Arv Z h b kb .byte x1 vb (.int (0 : Int32))
set_option maxRecDepth 65536 in
set_option maxHeartbeats 40000000 in
theorem rmC3 (l : Launch) (Z : State) (a0 : Array Value) (hw : ∀ d ∈ tables_1, d.before a0 Z = true) (ws : List Jvm.Cond) (x0 : Addr) (x1 : Int32) (k : ClassId) (n : Int32) (vs : List Value) (dv : Value) (h0 : Heap) (n0 : Nat) (Z0 : n0 ≤ h0.size) (p_0 : Arv Z h0 x0 k .byte n vs dv) (p_1 : 0 ≤ n.toInt) (p_2 : n.toInt < x1.toInt) (p_3 : x1.toInt ≤ 6138) :
    MetFree l (⟨"java/util/Arrays", "copyOf", "([BI)[B"⟩ : MethodName) (head1 (Jvm.Cond.code (⟨"java/util/Arrays", "copyOf", "([BI)[B"⟩ : MethodName) jdk_65_method_121_code 3 (some (.array .byte)) :: ws) ({ frames := 1, cells := 1, slots := 6138, locals := 18 } : Room)) (fun a U => a = #[(.ref x0), (.int x1)] ∧ Z.Warmed39 U.vm ∧ U.heap = h0) (fun _ _ _ _ _ => True) (fun _ U o U' => ∃ v L, o = .returned v ∧ Q_rmC3 Z x0 x1 k n vs dv h0 n0 v U'.heap L ∧ FrameEnd U o U' L ({ frames := 1, cells := 1, slots := 6138, locals := 18 } : Room).cells ({ frames := 1, cells := 1, slots := 6138, locals := 18 } : Room).slots) := by
  refine MetFree.of_bodySF (plainFor_of_name pn_4) hisR ?_
  intro p e s m args below meth c s₁ Bd hml0 hP hK
  obtain ⟨rfl, hZ, hh⟩ := hP
  have hx := Bd.exec
  have hby := Bd.bytes
  have hml : c.maxLocals = 3 := hml0
  have hown : s.vm.findClass "java/util/Arrays" = some m.cls := findClass_of_methodNamed Bd.named
  have hnm := (name_of_methodNamed Bd.named Bd.method).1
  have X0 : Stand p l e ({ frames := 1, cells := 1, slots := 6138, locals := 18 } : Room) s m #[(.ref x0), (.int x1)] below meth c s₁ [] 0 0 := Stand.of_body Bd
  have e0 : s₁.heap = h0 := by rw [← hh, Bd.state]; rfl
  have N0 := Fr.nil n0
  show own_Ends p e below s ({ frames := 1, cells := 1, slots := 6138, locals := 18 } : Room).cells ({ frames := 1, cells := 1, slots := 6138, locals := 18 } : Room).slots (Q_rmC3 Z x0 x1 k n vs dv h0 n0) (s₁.setTop (entryFrame m #[(.ref x0), (.int x1)] 3))
  rw [ef_8_RI]
  refine own_step (st' := s₁.setTop (mkF m 1 #[.val (.ref x0), .val (.int x1), .unset] [(.int x1)])) (fun t k => XS.iloadN X0.here hx rfl (hb hby d8_0) rfl k) ?_
  refine own_step (st' := s₁.setTop (mkF m 2 #[.val (.ref x0), .val (.int x1), .unset] [(.ref x0), (.int x1)])) (fun t k => XS.aloadN X0.here hx rfl (hb hby d8_1) rfl rfl k) ?_
  refine own_step (st' := s₁.setTop (mkF m 3 #[.val (.ref x0), .val (.int x1), .unset] [(.int n), (.int x1)])) (fun t k => own_len X0 hx hZ e0 p_0 (g := (mkF m 2 #[.val (.ref x0), .val (.int x1), .unset] [(.ref x0), (.int x1)])) rfl rfl (hb hby d8_2) t k) ?_
  refine own_step (st' := s₁.setTop (mkF m 14 #[.val (.ref x0), .val (.int x1), .unset] [])) (fun t k => XS.icmpYes X0.here hx rfl (pc0 := 3) (pc' := 14) rfl (hb hby d8_3) rfl (feq (fun q => by rw [q] at p_2; omega)).2 (by decide) (by decide) k) ?_
  refine own_step (st' := s₁.setTop (mkF m 15 #[.val (.ref x0), .val (.int x1), .unset] [(.int x1)])) (fun t k => XS.iloadN X0.here hx rfl (hb hby d8_14) rfl k) ?_
  obtain ⟨T1, h1, k1, X1, e1, E1, A1, Ex1, st1⟩ := newPE X0 hx hZ (hw _ (List.mem_of_getElem? (i := 0) rfl)) e0 (g := (mkF m 15 #[.val (.ref x0), .val (.int x1), .unset] [(.int x1)])) rfl (hb hby d8_15) rfl (own_ofNeg (by omega)) (cap := 6138) (own_le (by omega) (by omega)) (by decide) (by decide) (by decide) (ad := "[B") (by decide +kernel)
  obtain ⟨b1, g1⟩ : ∃ z, z = h0.size := ⟨_, rfl⟩
  rw [← g1] at A1 Ex1 st1
  have ne2 : x0 ≠ b1 := Nat.ne_of_lt (Nat.lt_of_lt_of_le p_0.lt (Nat.le_of_eq g1.symm))
  have g_b1 : n0 ≤ b1 := Nat.le_trans Z0 (Nat.le_of_eq g1.symm)
  have sz_b1 : h0.size ≤ b1 := Nat.le_trans (Keep.refl h0 []).1 (Nat.le_of_eq g1.symm)
  have f3 := p_0.ext E1
  have K4 : Keep h0 h1 [] := (Keep.refl h0 []).ext E1
  have Z5 : n0 ≤ h1.size := Nat.le_trans Z0 E1.1
  have V1 : Arv Z h1 b1 k1 .byte x1 [] (.int (0 : Int32)) := Arv.new A1 (own_ofNeg (by omega))
  refine own_step (st' := T1.setTop (mkF m 17 #[.val (.ref x0), .val (.int x1), .unset] [(.ref b1)])) st1 ?_
  refine own_step (st' := T1.setTop (mkF m 18 #[.val (.ref x0), .val (.int x1), .val (.ref b1)] [])) (fun t k => XS.astoreN X1.here hx rfl (hb hby d8_17) rfl rfl (l' := #[.val (.ref x0), .val (.int x1), .val (.ref b1)]) rfl k) ?_
  refine own_step (st' := T1.setTop (mkF m 19 #[.val (.ref x0), .val (.int x1), .val (.ref b1)] [(.ref x0)])) (fun t k => XS.aloadN X1.here hx rfl (hb hby d8_18) rfl rfl k) ?_
  refine own_step (st' := T1.setTop (mkF m 20 #[.val (.ref x0), .val (.int x1), .val (.ref b1)] [(.int (0 : Int32)), (.ref x0)])) (fun t k => XS.iconst X1.here hx rfl (hb hby d8_19) k) ?_
  refine own_step (st' := T1.setTop (mkF m 21 #[.val (.ref x0), .val (.int x1), .val (.ref b1)] [(.ref b1), (.int (0 : Int32)), (.ref x0)])) (fun t k => XS.aloadN X1.here hx rfl (hb hby d8_20) rfl rfl k) ?_
  refine own_step (st' := T1.setTop (mkF m 22 #[.val (.ref x0), .val (.int x1), .val (.ref b1)] [(.int (0 : Int32)), (.ref b1), (.int (0 : Int32)), (.ref x0)])) (fun t k => XS.iconst X1.here hx rfl (hb hby d8_21) k) ?_
  refine own_step (st' := T1.setTop (mkF m 23 #[.val (.ref x0), .val (.int x1), .val (.ref b1)] [(.ref x0), (.int (0 : Int32)), (.ref b1), (.int (0 : Int32)), (.ref x0)])) (fun t k => XS.aloadN X1.here hx rfl (hb hby d8_22) rfl rfl k) ?_
  refine own_step (st' := T1.setTop (mkF m 24 #[.val (.ref x0), .val (.int x1), .val (.ref b1)] [(.int n), (.int (0 : Int32)), (.ref b1), (.int (0 : Int32)), (.ref x0)])) (fun t k => own_len X1 hx hZ e1 f3 (g := (mkF m 23 #[.val (.ref x0), .val (.int x1), .val (.ref b1)] [(.ref x0), (.int (0 : Int32)), (.ref b1), (.int (0 : Int32)), (.ref x0)])) rfl rfl (hb hby d8_23) t k) ?_
  refine own_step (st' := T1.setTop (mkF m 25 #[.val (.ref x0), .val (.int x1), .val (.ref b1)] [(.int x1), (.int n), (.int (0 : Int32)), (.ref b1), (.int (0 : Int32)), (.ref x0)])) (fun t k => XS.iloadN X1.here hx rfl (hb hby d8_24) rfl k) ?_
  obtain ⟨_, _, ⟨T6, L6, k6, n6⟩, -, X6, ⟨Lc6, hQ6, l6, y6, z6⟩, st6⟩ := Jvm.LawKit.callS X1 hx (y := (⟨"java/lang/Math", "min", "(II)I"⟩ : MethodName)) hown (mvT hZ (hw _ (List.mem_of_getElem? (i := 53) rfl))) (mvT hZ (hw _ (List.mem_of_getElem? (i := 30) rfl))) (mvT hZ (hw _ (List.mem_of_getElem? (i := 31) rfl))) (mvT hZ (hw _ (List.mem_of_getElem? (i := 32) rfl))) (by decide) (backOf (W := 4) (rm4 l Z a0 hw [] n x1 h1 n0 Z5) hZ (hw _ (List.mem_of_getElem? (i := 32) rfl)) (hw _ (List.mem_of_getElem? (i := 31) rfl)) (by decide) (by decide)) (g := (mkF m 25 #[.val (.ref x0), .val (.int x1), .val (.ref b1)] [(.int x1), (.int n), (.int (0 : Int32)), (.ref b1), (.int (0 : Int32)), (.ref x0)])) rfl (by rw [hml]; rfl) (argsL := [(.int n), (.int x1)]) (rest := [(.int (0 : Int32)), (.ref b1), (.int (0 : Int32)), (.ref x0)]) (lenOf pd_3 rfl) rfl (by show 2 * 0 + _ ≤ _; exact Nat.le_of_eq rfl) (hb hby d8_25) (fun _ _ => ⟨rfl, e1, (by decide : 1 + 0 ≤ _), (by decide : 6138 + 0 ≤ _)⟩)
  dsimp only [Pt.U, Pt.locs, Pt.cells, Pt.slots] at X6 l6 y6 z6 st6 hQ6
  subst l6 y6 z6
  obtain ⟨rfl, N6q, e6⟩ := hQ6
  have N6 := Fr.app N0 N6q
  refine own_step (st' := T6.setTop (mkF m 28 #[.val (.ref x0), .val (.int x1), .val (.ref b1)] [(.int (if x1 < n then x1 else n)), (.int (0 : Int32)), (.ref b1), (.int (0 : Int32)), (.ref x0)])) st6 ?_
  have hmn : (if x1 < n then x1 else n) = n := if_neg (by rw [Int32.lt_iff_toInt_lt]; omega)
  obtain ⟨T7, h7, L7, vd7, X7, e7, N7, K7, V7, cp7, st7⟩ := own_cp X6 hx hZ hown (hw _ (List.mem_of_getElem? (i := 54) rfl)) (hw _ (List.mem_of_getElem? (i := 40) rfl)) (hw _ (List.mem_of_getElem? (i := 38) rfl)) (hw _ (List.mem_of_getElem? (i := 39) rfl)) e6 f3 V1 rfl (by decide) (by decide) (by rw [hmn]; omega) (by rw [hmn]; show (0 : Int) + _ ≤ _; omega) (by rw [hmn]; show (0 : Int) + _ ≤ _; omega) N6 g_b1 (g := (mkF m 28 #[.val (.ref x0), .val (.int x1), .val (.ref b1)] [(.int (if x1 < n then x1 else n)), (.int (0 : Int32)), (.ref b1), (.int (0 : Int32)), (.ref x0)])) rfl (by rw [hml]; rfl) rfl (hb hby d8_28) (by decide) (W := 0) (by show 2 * 0 + _ ≤ _; exact Nat.le_of_eq rfl) (by decide)
  have f8 := f3.keep K7 (ninS ne2 nin0)
  have f9 := Ex1.keep K7
  have K10 : Keep h0 h7 [] := K4.trans K7 (allS (Or.inr sz_b1) all0)
  have Z11 : n0 ≤ h7.size := Nat.le_trans Z5 K7.1
  refine own_step (st' := T7.setTop (mkF m 31 #[.val (.ref x0), .val (.int x1), .val (.ref b1)] [])) st7 ?_
  refine own_step (st' := T7.setTop (mkF m 32 #[.val (.ref x0), .val (.int x1), .val (.ref b1)] [(.ref b1)])) (fun t k => XS.aloadN X7.here hx rfl (hb hby d8_31) rfl rfl k) ?_
  refine own_ret X7 Bd.notSynchronized (some (.ref b1)) (fun h => by rw [Bd.returns] at h; cases h) (fun fs hr => retOut X7 hx Bd.returns rfl (Or.inr (Or.inr (Or.inr (Or.inr ⟨rfl, rfl, rfl⟩)))) (hb hby d8_32) hr) ?_ (by decide) (by decide)
  rw [e7]
  exact ⟨b1, k1, vd7, rfl, N7, K10, sz_b1, f9, V7⟩
def Q_rmR3 (Z : State) (x0 : Addr) (x1 : Int32) (x2 : Int32) (ch : Addr) (kc : ClassId) (by_ : Addr) (kb : ClassId) (nb : Int32) (vb : List Value) (db : Value) (h0 : Heap) (n0 : Nat) (v : Option Value) (h : Heap) (L : List Loc) : Prop := ∃ bz : Addr, ∃ kz : ClassId, ∃ nz : Int32, ∃ vz : List Value, ∃ dz : Value, v = some (.ref bz) ∧ Fr n0 L ∧ Keep h0 h [ch] ∧ (bz = by_ ∨ h0.size ≤ bz) ∧ x2.toInt ≤ nz.toInt ∧ n0 ≤ bz ∧ Fld Z h x0 "com/example/link_importance/linkimportance/graph/NameList" "chunks" "[[B" (.ref ch) ∧ Arv Z h ch kc (.array .byte) (1 : Int32) [(.ref bz)] .null ∧ Arv Z h bz kz .byte nz vz dz
set_option maxRecDepth 65536 in
set_option maxHeartbeats 40000000 in
theorem rmR3 (l : Launch) (Z : State) (a0 : Array Value) (hw : ∀ d ∈ tables_1, d.before a0 Z = true) (ws : List Jvm.Cond) (x0 : Addr) (x1 : Int32) (x2 : Int32) (ch : Addr) (kc : ClassId) (by_ : Addr) (kb : ClassId) (nb : Int32) (vb : List Value) (db : Value) (h0 : Heap) (n0 : Nat) (Z0 : n0 ≤ h0.size) (p_0 : x1 = (0 : Int32)) (p_1 : Fld Z h0 x0 "com/example/link_importance/linkimportance/graph/NameList" "chunks" "[[B" (.ref ch)) (p_2 : Arv Z h0 ch kc (.array .byte) (1 : Int32) [(.ref by_)] .null) (p_3 : Arv Z h0 by_ kb .byte nb vb db) (p_4 : OvrA Z kc .byte "[B") (p_5 : 0 ≤ nb.toInt) (p_6 : 0 ≤ x2.toInt ∧ x2.toInt ≤ 3069) (p_7 : n0 ≤ ch) (p_8 : n0 ≤ by_) (p_9 : by_ ≠ ch) (p_10 : x0 ≠ ch) :
    MetFree l (⟨"com/example/link_importance/linkimportance/graph/NameList", "room", "(II)[B"⟩ : MethodName) (head1 (Jvm.Cond.code (⟨"com/example/link_importance/linkimportance/graph/NameList", "room", "(II)[B"⟩ : MethodName) prog_23_method_12_code 4 (some (.array .byte)) :: ws) ({ frames := 2, cells := 1, slots := 6138, locals := 32 } : Room)) (fun a U => a = #[(.ref x0), (.int x1), (.int x2)] ∧ Z.Warmed39 U.vm ∧ U.heap = h0) (fun _ _ _ _ _ => True) (fun _ U o U' => ∃ v L, o = .returned v ∧ Q_rmR3 Z x0 x1 x2 ch kc by_ kb nb vb db h0 n0 v U'.heap L ∧ FrameEnd U o U' L ({ frames := 2, cells := 1, slots := 6138, locals := 32 } : Room).cells ({ frames := 2, cells := 1, slots := 6138, locals := 32 } : Room).slots) := by
  refine MetFree.of_bodySF (plainFor_of_name pn_0) hisR ?_
  intro p e s m args below meth c s₁ Bd hml0 hP hK
  obtain ⟨rfl, hZ, hh⟩ := hP
  have hx := Bd.exec
  have hby := Bd.bytes
  have hml : c.maxLocals = 4 := hml0
  have hown : s.vm.findClass "com/example/link_importance/linkimportance/graph/NameList" = some m.cls := findClass_of_methodNamed Bd.named
  have hnm := (name_of_methodNamed Bd.named Bd.method).1
  have X0 : Stand p l e ({ frames := 2, cells := 1, slots := 6138, locals := 32 } : Room) s m #[(.ref x0), (.int x1), (.int x2)] below meth c s₁ [] 0 0 := Stand.of_body Bd
  have e0 : s₁.heap = h0 := by rw [← hh, Bd.state]; rfl
  have N0 := Fr.nil n0
  show own_Ends p e below s ({ frames := 2, cells := 1, slots := 6138, locals := 32 } : Room).cells ({ frames := 2, cells := 1, slots := 6138, locals := 32 } : Room).slots (Q_rmR3 Z x0 x1 x2 ch kc by_ kb nb vb db h0 n0) (s₁.setTop (entryFrame m #[(.ref x0), (.int x1), (.int x2)] 4))
  rw [ef_5_RII]
  subst p_0
  refine own_step (st' := s₁.setTop (mkF m 1 #[.val (.ref x0), .val (.int (0 : Int32)), .val (.int x2), .unset] [(.int (0 : Int32))])) (fun t k => XS.iloadN X0.here hx rfl (hb hby d5_0) rfl k) ?_
  refine own_step (st' := s₁.setTop (mkF m 2 #[.val (.ref x0), .val (.int (0 : Int32)), .val (.int x2), .unset] [(.ref x0), (.int (0 : Int32))])) (fun t k => XS.aloadN X0.here hx rfl (hb hby d5_1) rfl rfl k) ?_
  obtain ⟨T1, X1, e1, st1⟩ := getF X0 hx hZ hown (host := "") (Or.inl (hw _ (List.mem_of_getElem? (i := 13) rfl))) Via.refl e0 p_1 (g := (mkF m 2 #[.val (.ref x0), .val (.int (0 : Int32)), .val (.int x2), .unset] [(.ref x0), (.int (0 : Int32))])) rfl rfl (hb hby d5_2)
  refine own_step (st' := T1.setTop (mkF m 5 #[.val (.ref x0), .val (.int (0 : Int32)), .val (.int x2), .unset] [(.ref ch), (.int (0 : Int32))])) st1 ?_
  refine own_step (st' := T1.setTop (mkF m 6 #[.val (.ref x0), .val (.int (0 : Int32)), .val (.int x2), .unset] [(.int (1 : Int32)), (.int (0 : Int32))])) (fun t k => own_len X1 hx hZ e1 p_2 (g := (mkF m 5 #[.val (.ref x0), .val (.int (0 : Int32)), .val (.int x2), .unset] [(.ref ch), (.int (0 : Int32))])) rfl rfl (hb hby d5_5) t k) ?_
  refine own_step (st' := T1.setTop (mkF m 26 #[.val (.ref x0), .val (.int (0 : Int32)), .val (.int x2), .unset] [])) (fun t k => XS.icmpYes X1.here hx rfl (pc0 := 6) (pc' := 26) rfl (hb hby d5_6) rfl (feq (by decide)).2 (by decide) (by decide) k) ?_
  refine own_step (st' := T1.setTop (mkF m 27 #[.val (.ref x0), .val (.int (0 : Int32)), .val (.int x2), .unset] [(.ref x0)])) (fun t k => XS.aloadN X1.here hx rfl (hb hby d5_26) rfl rfl k) ?_
  obtain ⟨T2, X2, e2, st2⟩ := getF X1 hx hZ hown (host := "") (Or.inl (hw _ (List.mem_of_getElem? (i := 13) rfl))) Via.refl e1 p_1 (g := (mkF m 27 #[.val (.ref x0), .val (.int (0 : Int32)), .val (.int x2), .unset] [(.ref x0)])) rfl rfl (hb hby d5_27)
  refine own_step (st' := T2.setTop (mkF m 30 #[.val (.ref x0), .val (.int (0 : Int32)), .val (.int x2), .unset] [(.ref ch)])) st2 ?_
  refine own_step (st' := T2.setTop (mkF m 31 #[.val (.ref x0), .val (.int (0 : Int32)), .val (.int x2), .unset] [(.int (0 : Int32)), (.ref ch)])) (fun t k => XS.iloadN X2.here hx rfl (hb hby d5_30) rfl k) ?_
  refine own_step (st' := T2.setTop (mkF m 32 #[.val (.ref x0), .val (.int (0 : Int32)), .val (.int x2), .unset] [(.ref by_)])) (fun t k => own_ldR X2 hx hZ e2 p_2 rfl (j := (0 : Int32)) (v := (.ref by_)) ⟨by decide, by decide⟩ rfl (g := (mkF m 31 #[.val (.ref x0), .val (.int (0 : Int32)), .val (.int x2), .unset] [(.int (0 : Int32)), (.ref ch)])) rfl rfl (hb hby d5_31) t k) ?_
  refine own_step (st' := T2.setTop (mkF m 33 #[.val (.ref x0), .val (.int (0 : Int32)), .val (.int x2), .val (.ref by_)] [])) (fun t k => XS.astoreN X2.here hx rfl (hb hby d5_32) rfl rfl (l' := #[.val (.ref x0), .val (.int (0 : Int32)), .val (.int x2), .val (.ref by_)]) rfl k) ?_
  refine own_step (st' := T2.setTop (mkF m 34 #[.val (.ref x0), .val (.int (0 : Int32)), .val (.int x2), .val (.ref by_)] [(.ref by_)])) (fun t k => XS.aloadN X2.here hx rfl (hb hby d5_33) rfl rfl k) ?_
  refine own_step (st' := T2.setTop (mkF m 52 #[.val (.ref x0), .val (.int (0 : Int32)), .val (.int x2), .val (.ref by_)] [])) (fun t k => XS.ifnonnullYes X2.here hx rfl (pc0 := 34) (pc' := 52) rfl (hb hby d5_34) rfl (by decide) (by decide) k) ?_
  refine own_step (st' := T2.setTop (mkF m 53 #[.val (.ref x0), .val (.int (0 : Int32)), .val (.int x2), .val (.ref by_)] [(.ref by_)])) (fun t k => XS.aloadN X2.here hx rfl (hb hby d5_52) rfl rfl k) ?_
  refine own_step (st' := T2.setTop (mkF m 54 #[.val (.ref x0), .val (.int (0 : Int32)), .val (.int x2), .val (.ref by_)] [(.int nb)])) (fun t k => own_len X2 hx hZ e2 p_3 (g := (mkF m 53 #[.val (.ref x0), .val (.int (0 : Int32)), .val (.int x2), .val (.ref by_)] [(.ref by_)])) rfl rfl (hb hby d5_53) t k) ?_
  refine own_step (st' := T2.setTop (mkF m 55 #[.val (.ref x0), .val (.int (0 : Int32)), .val (.int x2), .val (.ref by_)] [(.int x2), (.int nb)])) (fun t k => XS.iloadN X2.here hx rfl (hb hby d5_54) rfl k) ?_
  by_cases hc3 : nb < x2
  · refine own_step (st' := T2.setTop (mkF m 58 #[.val (.ref x0), .val (.int (0 : Int32)), .val (.int x2), .val (.ref by_)] [])) (fun t k => XS.icmpNo X2.here hx rfl (hb hby d5_55) rfl (tlt hc3).2.1 k) ?_
    refine own_step (st' := T2.setTop (mkF m 59 #[.val (.ref x0), .val (.int (0 : Int32)), .val (.int x2), .val (.ref by_)] [(.ref by_)])) (fun t k => XS.aloadN X2.here hx rfl (hb hby d5_58) rfl rfl k) ?_
    refine own_step (st' := T2.setTop (mkF m 61 #[.val (.ref x0), .val (.int (0 : Int32)), .val (.int x2), .val (.ref by_)] [(.int (65536 : Int32)), (.ref by_)])) (fun t k => X2.ldcInt hx hown (mvT hZ (hw _ (List.mem_of_getElem? (i := 28) rfl))) (g := (mkF m 59 #[.val (.ref x0), .val (.int (0 : Int32)), .val (.int x2), .val (.ref by_)] [(.ref by_)])) rfl (hb hby d5_59) t k) ?_
    refine own_step (st' := T2.setTop (mkF m 62 #[.val (.ref x0), .val (.int (0 : Int32)), .val (.int x2), .val (.ref by_)] [(.int x2), (.int (65536 : Int32)), (.ref by_)])) (fun t k => XS.iloadN X2.here hx rfl (hb hby d5_61) rfl k) ?_
    refine own_step (st' := T2.setTop (mkF m 63 #[.val (.ref x0), .val (.int (0 : Int32)), .val (.int x2), .val (.ref by_)] [(.int (2 : Int32)), (.int x2), (.int (65536 : Int32)), (.ref by_)])) (fun t k => XS.iconst X2.here hx rfl (hb hby d5_62) k) ?_
    refine own_step (st' := T2.setTop (mkF m 64 #[.val (.ref x0), .val (.int (0 : Int32)), .val (.int x2), .val (.ref by_)] [(.ref by_), (.int (2 : Int32)), (.int x2), (.int (65536 : Int32)), (.ref by_)])) (fun t k => XS.aloadN X2.here hx rfl (hb hby d5_63) rfl rfl k) ?_
    refine own_step (st' := T2.setTop (mkF m 65 #[.val (.ref x0), .val (.int (0 : Int32)), .val (.int x2), .val (.ref by_)] [(.int nb), (.int (2 : Int32)), (.int x2), (.int (65536 : Int32)), (.ref by_)])) (fun t k => own_len X2 hx hZ e2 p_3 (g := (mkF m 64 #[.val (.ref x0), .val (.int (0 : Int32)), .val (.int x2), .val (.ref by_)] [(.ref by_), (.int (2 : Int32)), (.int x2), (.int (65536 : Int32)), (.ref by_)])) rfl rfl (hb hby d5_64) t k) ?_
    refine own_step (st' := T2.setTop (mkF m 66 #[.val (.ref x0), .val (.int (0 : Int32)), .val (.int x2), .val (.ref by_)] [(.int ((2 : Int32) * nb)), (.int x2), (.int (65536 : Int32)), (.ref by_)])) (fun t k => XS.imul X2.here hx rfl (hb hby d5_65) rfl k) ?_
    obtain ⟨_, _, ⟨T4, L4, k4, n4⟩, -, X4, ⟨Lc4, hQ4, l4, y4, z4⟩, st4⟩ := Jvm.LawKit.callS X2 hx (y := (⟨"java/lang/Math", "max", "(II)I"⟩ : MethodName)) hown (mvT hZ (hw _ (List.mem_of_getElem? (i := 46) rfl))) (mvT hZ (hw _ (List.mem_of_getElem? (i := 47) rfl))) (mvT hZ (hw _ (List.mem_of_getElem? (i := 31) rfl))) (mvT hZ (hw _ (List.mem_of_getElem? (i := 48) rfl))) (by decide) (backOf (W := 2) (rm7 l Z a0 hw [] x2 ((2 : Int32) * nb) h0 n0 Z0) hZ (hw _ (List.mem_of_getElem? (i := 48) rfl)) (hw _ (List.mem_of_getElem? (i := 31) rfl)) (by decide) (by decide)) (g := (mkF m 66 #[.val (.ref x0), .val (.int (0 : Int32)), .val (.int x2), .val (.ref by_)] [(.int ((2 : Int32) * nb)), (.int x2), (.int (65536 : Int32)), (.ref by_)])) rfl (by rw [hml]; rfl) (argsL := [(.int x2), (.int ((2 : Int32) * nb))]) (rest := [(.int (65536 : Int32)), (.ref by_)]) (lenOf pd_3 rfl) rfl (by show 2 * 0 + _ ≤ _; exact Nat.le_of_eq rfl) (hb hby d5_66) (fun _ _ => ⟨rfl, e2, (by decide : 0 + 0 ≤ _), (by decide : 0 + 0 ≤ _)⟩)
    dsimp only [Pt.U, Pt.locs, Pt.cells, Pt.slots] at X4 l4 y4 z4 st4 hQ4
    subst l4 y4 z4
    obtain ⟨rfl, N4q, e4⟩ := hQ4
    have N4 := Fr.app N0 N4q
    refine own_step (st' := T4.setTop (mkF m 69 #[.val (.ref x0), .val (.int (0 : Int32)), .val (.int x2), .val (.ref by_)] [(.int (if x2 < ((2 : Int32) * nb) then ((2 : Int32) * nb) else x2)), (.int (65536 : Int32)), (.ref by_)])) st4 ?_
    obtain ⟨_, _, ⟨T5, L5, k5, n5⟩, -, X5, ⟨Lc5, hQ5, l5, y5, z5⟩, st5⟩ := Jvm.LawKit.callS X4 hx (y := (⟨"java/lang/Math", "min", "(II)I"⟩ : MethodName)) hown (mvT hZ (hw _ (List.mem_of_getElem? (i := 29) rfl))) (mvT hZ (hw _ (List.mem_of_getElem? (i := 30) rfl))) (mvT hZ (hw _ (List.mem_of_getElem? (i := 31) rfl))) (mvT hZ (hw _ (List.mem_of_getElem? (i := 32) rfl))) (by decide) (backOf (W := 1) (rm4 l Z a0 hw [] (65536 : Int32) (if x2 < ((2 : Int32) * nb) then ((2 : Int32) * nb) else x2) h0 n0 Z0) hZ (hw _ (List.mem_of_getElem? (i := 32) rfl)) (hw _ (List.mem_of_getElem? (i := 31) rfl)) (by decide) (by decide)) (g := (mkF m 69 #[.val (.ref x0), .val (.int (0 : Int32)), .val (.int x2), .val (.ref by_)] [(.int (if x2 < ((2 : Int32) * nb) then ((2 : Int32) * nb) else x2)), (.int (65536 : Int32)), (.ref by_)])) rfl (by rw [hml]; rfl) (argsL := [(.int (65536 : Int32)), (.int (if x2 < ((2 : Int32) * nb) then ((2 : Int32) * nb) else x2))]) (rest := [(.ref by_)]) (lenOf pd_3 rfl) rfl (by show 2 * 0 + _ ≤ _; exact Nat.le_of_eq rfl) (hb hby d5_69) (fun _ _ => ⟨rfl, e4, (by decide : 0 + 0 ≤ _), (by decide : 0 + 0 ≤ _)⟩)
    dsimp only [Pt.U, Pt.locs, Pt.cells, Pt.slots] at X5 l5 y5 z5 st5 hQ5
    subst l5 y5 z5
    obtain ⟨rfl, N5q, e5⟩ := hQ5
    have N5 := Fr.app N4 N5q
    refine own_step (st' := T5.setTop (mkF m 72 #[.val (.ref x0), .val (.int (0 : Int32)), .val (.int x2), .val (.ref by_)] [(.int (if (if x2 < ((2 : Int32) * nb) then ((2 : Int32) * nb) else x2) < (65536 : Int32) then (if x2 < ((2 : Int32) * nb) then ((2 : Int32) * nb) else x2) else (65536 : Int32))), (.ref by_)])) st5 ?_
    obtain ⟨mm, hmm0⟩ : ∃ q : Int32, q = (if (if x2 < ((2 : Int32) * nb) then ((2 : Int32) * nb) else x2) < (65536 : Int32) then (if x2 < ((2 : Int32) * nb) then ((2 : Int32) * nb) else x2) else (65536 : Int32)) := ⟨_, rfl⟩
    rw [← hmm0]
    have hmm : nb.toInt < mm.toInt ∧ x2.toInt ≤ mm.toInt ∧ mm.toInt ≤ 6138 := by
      have hlt : nb.toInt < x2.toInt := by have := hc3; rw [Int32.lt_iff_toInt_lt] at this; exact this
      have d2 : ((2 : Int32) * nb).toInt = 2 * nb.toInt := by
        have q1 := c_imul 2 nb
        have q2 := rng32 ((2 : Int32) * nb)
        have q3 : (2 : Int32).toInt = 2 := by decide
        rw [q3] at q1
        omega
      have d3 : (65536 : Int32).toInt = 65536 := by decide
      rw [hmm0]
      split <;> split <;> rename_i u v <;> rw [Int32.lt_iff_toInt_lt] at u v <;> omega
    obtain ⟨_, _, ⟨T6, L6, k6, n6⟩, -, X6, ⟨Lc6, hQ6, l6, y6, z6⟩, st6⟩ := Jvm.LawKit.callS X5 hx (y := (⟨"java/util/Arrays", "copyOf", "([BI)[B"⟩ : MethodName)) hown (mvT hZ (hw _ (List.mem_of_getElem? (i := 49) rfl))) (mvT hZ (hw _ (List.mem_of_getElem? (i := 50) rfl))) (mvT hZ (hw _ (List.mem_of_getElem? (i := 51) rfl))) (mvT hZ (hw _ (List.mem_of_getElem? (i := 52) rfl))) (by decide) (backOf (W := 0) (rmC3 l Z a0 hw [] by_ mm kb nb vb db h0 n0 Z0 p_3 p_5 hmm.1 hmm.2.2) hZ (hw _ (List.mem_of_getElem? (i := 52) rfl)) (hw _ (List.mem_of_getElem? (i := 51) rfl)) (by decide) (by decide)) (g := (mkF m 72 #[.val (.ref x0), .val (.int (0 : Int32)), .val (.int x2), .val (.ref by_)] [(.int mm), (.ref by_)])) rfl (by rw [hml]; rfl) (argsL := [(.ref by_), (.int mm)]) (rest := []) (lenOf pd_7 rfl) rfl (by show 2 * 0 + _ ≤ _; exact Nat.le_of_eq rfl) (hb hby d5_72) (fun _ _ => ⟨rfl, e5, (by decide : 0 + 1 ≤ _), (by decide : 0 + 6138 ≤ _)⟩)
    dsimp only [Pt.U, Pt.locs, Pt.cells, Pt.slots] at X6 l6 y6 z6 st6 hQ6
    subst l6 y6 z6
    obtain ⟨b_6, kb_6, vb_6, rfl, N6q, K6, pq6_0, pq6_1, pq6_2⟩ := hQ6
    have N6 := Fr.app N5 N6q
    obtain ⟨h6, e6⟩ : ∃ z, T6.heap = z := ⟨_, rfl⟩
    rw [e6] at K6 pq6_1 pq6_2
    have ne7 : x0 ≠ b_6 := Nat.ne_of_lt (Nat.lt_of_lt_of_le p_1.lt pq6_0)
    have ne8 : ch ≠ b_6 := Nat.ne_of_lt (Nat.lt_of_lt_of_le p_2.lt pq6_0)
    have ne9 : by_ ≠ b_6 := Nat.ne_of_lt (Nat.lt_of_lt_of_le p_3.lt pq6_0)
    have g_b_6 : n0 ≤ b_6 := Nat.le_trans Z0 pq6_0
    have sz_b_6 : h0.size ≤ b_6 := Nat.le_trans (Keep.refl h0 [ch]).1 pq6_0
    have f10 := p_1.keep K6 nin0
    have f11 := p_2.keep K6 nin0
    have f12 := p_3.keep K6 nin0
    have K13 : Keep h0 h6 [ch] := (Keep.refl h0 [ch]).trans K6 all0
    have Z14 : n0 ≤ h6.size := Nat.le_trans Z0 K6.1
    refine own_step (st' := T6.setTop (mkF m 75 #[.val (.ref x0), .val (.int (0 : Int32)), .val (.int x2), .val (.ref by_)] [(.ref b_6)])) st6 ?_
    refine own_step (st' := T6.setTop (mkF m 76 #[.val (.ref x0), .val (.int (0 : Int32)), .val (.int x2), .val (.ref b_6)] [])) (fun t k => XS.astoreN X6.here hx rfl (hb hby d5_75) rfl rfl (l' := #[.val (.ref x0), .val (.int (0 : Int32)), .val (.int x2), .val (.ref b_6)]) rfl k) ?_
    refine own_step (st' := T6.setTop (mkF m 77 #[.val (.ref x0), .val (.int (0 : Int32)), .val (.int x2), .val (.ref b_6)] [(.ref x0)])) (fun t k => XS.aloadN X6.here hx rfl (hb hby d5_76) rfl rfl k) ?_
    obtain ⟨T15, X15, e15, st15⟩ := getF X6 hx hZ hown (host := "") (Or.inl (hw _ (List.mem_of_getElem? (i := 13) rfl))) Via.refl e6 f10 (g := (mkF m 77 #[.val (.ref x0), .val (.int (0 : Int32)), .val (.int x2), .val (.ref b_6)] [(.ref x0)])) rfl rfl (hb hby d5_77)
    refine own_step (st' := T15.setTop (mkF m 80 #[.val (.ref x0), .val (.int (0 : Int32)), .val (.int x2), .val (.ref b_6)] [(.ref ch)])) st15 ?_
    refine own_step (st' := T15.setTop (mkF m 81 #[.val (.ref x0), .val (.int (0 : Int32)), .val (.int x2), .val (.ref b_6)] [(.int (0 : Int32)), (.ref ch)])) (fun t k => XS.iloadN X15.here hx rfl (hb hby d5_80) rfl k) ?_
    refine own_step (st' := T15.setTop (mkF m 82 #[.val (.ref x0), .val (.int (0 : Int32)), .val (.int x2), .val (.ref b_6)] [(.ref b_6), (.int (0 : Int32)), (.ref ch)])) (fun t k => XS.aloadN X15.here hx rfl (hb hby d5_81) rfl rfl k) ?_
    obtain ⟨T16, h16, X16, e16, W16, V16, st16⟩ := own_stR X15 hx hZ e15 f11 rfl (j := (0 : Int32)) (i := 0) (own_stoA f11 p_4 (Ins.self pq6_1)) rfl ⟨by decide, by decide⟩ rfl (Nat.le_of_ble_eq_true rfl) (g := (mkF m 82 #[.val (.ref x0), .val (.int (0 : Int32)), .val (.int x2), .val (.ref b_6)] [(.ref b_6), (.int (0 : Int32)), (.ref ch)])) rfl rfl (hb hby d5_82)
    have V16 : Arv Z h16 ch kc (.array .byte) (1 : Int32) [(.ref b_6)] .null := V16
    have f17 := f10.other W16 (Or.inl p_10)
    have f18 := f12.other W16 p_9
    have f19 := pq6_1.wr W16
    have f20 := pq6_2.other W16 (Ne.symm ne8)
    have K21 : Keep h0 h16 [ch] := K13.wr W16 (Or.inl (List.mem_of_getElem? (i := 0) rfl))
    have Z22 : n0 ≤ h16.size := Nat.le_trans Z14 (Keep.of_wr W16).1
    have N23 := Fr.snoc X16 N6 p_7
    refine own_step (st' := T16.setTop (mkF m 83 #[.val (.ref x0), .val (.int (0 : Int32)), .val (.int x2), .val (.ref b_6)] [])) st16 ?_
    refine own_step (st' := T16.setTop (mkF m 84 #[.val (.ref x0), .val (.int (0 : Int32)), .val (.int x2), .val (.ref b_6)] [(.ref b_6)])) (fun t k => XS.aloadN X16.here hx rfl (hb hby d5_83) rfl rfl k) ?_
    refine own_ret X16 Bd.notSynchronized (some (.ref b_6)) (fun h => by rw [Bd.returns] at h; cases h) (fun fs hr => retOut X16 hx Bd.returns rfl (Or.inr (Or.inr (Or.inr (Or.inr ⟨rfl, rfl, rfl⟩)))) (hb hby d5_84) hr) ?_ (by decide) (by decide)
    rw [e16]
    exact ⟨b_6, kb_6, mm, vb_6, (.int (0 : Int32)), rfl, N23, K21, (Or.inr sz_b_6), hmm.2.1, g_b_6, f17, V16, f20⟩
  · refine own_step (st' := T2.setTop (mkF m 83 #[.val (.ref x0), .val (.int (0 : Int32)), .val (.int x2), .val (.ref by_)] [])) (fun t k => XS.icmpYes X2.here hx rfl (pc0 := 55) (pc' := 83) rfl (hb hby d5_55) rfl (flt hc3).2.1 (by decide) (by decide) k) ?_
    refine own_step (st' := T2.setTop (mkF m 84 #[.val (.ref x0), .val (.int (0 : Int32)), .val (.int x2), .val (.ref by_)] [(.ref by_)])) (fun t k => XS.aloadN X2.here hx rfl (hb hby d5_83) rfl rfl k) ?_
    refine own_ret X2 Bd.notSynchronized (some (.ref by_)) (fun h => by rw [Bd.returns] at h; cases h) (fun fs hr => retOut X2 hx Bd.returns rfl (Or.inr (Or.inr (Or.inr (Or.inr ⟨rfl, rfl, rfl⟩)))) (hb hby d5_84) hr) ?_ (by decide) (by decide)
    rw [e2]
    exact ⟨by_, kb, nb, vb, db, rfl, N0, (Keep.refl h0 [ch]), (Or.inl rfl), (by rw [Int32.lt_iff_toInt_lt] at hc3; omega), p_8, p_1, p_2, p_3⟩
def Q_rmA3 (Z : State) (x0 : Addr) (x1 : Addr) (x2 : Int32) (x3 : Int32) (n : Int32) (mx : Int32) (ch : Addr) (kc : ClassId) (by_ : Addr) (kb : ClassId) (nb : Int32) (vb : List Value) (db : Value) (stt : Addr) (ks : ClassId) (vss : List Value) (S : Int64) (kq : ClassId) (vq : List Value) (dq : Value) (h0 : Heap) (n0 : Nat) (v : Option Value) (h : Heap) (L : List Loc) : Prop := ∃ bz : Addr, ∃ kz : ClassId, ∃ nz : Int32, ∃ vz : List Value, ∃ dz : Value, v = none ∧ Fr n0 L ∧ Keep h0 h [x0, ch, by_, stt] ∧ n0 ≤ bz ∧ bz ≠ x0 ∧ bz ≠ x1 ∧ bz ≠ ch ∧ bz ≠ stt ∧ 0 ≤ nz.toInt ∧ Fld Z h x0 "com/example/link_importance/linkimportance/graph/NameList" "size" "I" (.int (n + (1 : Int32))) ∧ Fld Z h x0 "com/example/link_importance/linkimportance/graph/NameList" "maxNames" "I" (.int mx) ∧ Fld Z h x0 "com/example/link_importance/linkimportance/graph/NameList" "chunks" "[[B" (.ref ch) ∧ Fld Z h x0 "com/example/link_importance/linkimportance/graph/NameList" "starts" "[J" (.ref stt) ∧ Arv Z h ch kc (.array .byte) (1 : Int32) [(.ref bz)] .null ∧ Arv Z h bz kz .byte nz vz dz ∧ Arv Z h stt ks .long (16 : Int32) (vss.set (n + (1 : Int32)).toNatClampNeg (.long (S + (x3 - x2).toInt64))) (.long (0 : Int64))
set_option maxRecDepth 65536 in
set_option maxHeartbeats 40000000 in
theorem rmA3 (l : Launch) (Z : State) (a0 : Array Value) (hw : ∀ d ∈ tables_1, d.before a0 Z = true) (ws : List Jvm.Cond) (x0 : Addr) (x1 : Addr) (x2 : Int32) (x3 : Int32) (n : Int32) (mx : Int32) (ch : Addr) (kc : ClassId) (by_ : Addr) (kb : ClassId) (nb : Int32) (vb : List Value) (db : Value) (stt : Addr) (ks : ClassId) (vss : List Value) (S : Int64) (kq : ClassId) (vq : List Value) (dq : Value) (h0 : Heap) (n0 : Nat) (Z0 : n0 ≤ h0.size) (p_0 : Fld Z h0 x0 "com/example/link_importance/linkimportance/graph/NameList" "size" "I" (.int n)) (p_1 : Fld Z h0 x0 "com/example/link_importance/linkimportance/graph/NameList" "maxNames" "I" (.int mx)) (p_2 : Fld Z h0 x0 "com/example/link_importance/linkimportance/graph/NameList" "chunks" "[[B" (.ref ch)) (p_3 : Fld Z h0 x0 "com/example/link_importance/linkimportance/graph/NameList" "starts" "[J" (.ref stt)) (p_4 : Exa Z h0 x0 "com/example/link_importance/linkimportance/graph/NameList") (p_5 : n0 ≤ x0) (p_6 : n0 ≤ ch) (p_7 : n0 ≤ by_) (p_8 : n0 ≤ stt) (p_9 : Arv Z h0 ch kc (.array .byte) (1 : Int32) [(.ref by_)] .null) (p_10 : Arv Z h0 by_ kb .byte nb vb db) (p_11 : Arv Z h0 stt ks .long (16 : Int32) vss (.long (0 : Int64))) (p_12 : Arv Z h0 x1 kq .byte (2048 : Int32) vq dq) (p_13 : x0 ≠ x1) (p_14 : x0 ≠ ch) (p_15 : x0 ≠ by_) (p_16 : x0 ≠ stt) (p_17 : x1 ≠ ch) (p_18 : x1 ≠ by_) (p_19 : x1 ≠ stt) (p_20 : ch ≠ by_) (p_21 : ch ≠ stt) (p_22 : by_ ≠ stt) (p_23 : ¬ n = mx) (p_24 : 0 ≤ n.toInt ∧ n.toInt < 3) (p_25 : vss.getD n.toNatClampNeg (.long (0 : Int64)) = .long S) (p_26 : vss.length = 16) (p_27 : 0 ≤ S.toInt ∧ S.toInt ≤ 2046) (p_28 : 0 ≤ x2.toInt ∧ x2.toInt ≤ x3.toInt ∧ x3.toInt ≤ x2.toInt + 1023 ∧ x3.toInt ≤ 2046) (p_29 : OvrA Z kc .byte "[B") (p_30 : 0 ≤ nb.toInt) :
    MetFree l (⟨"com/example/link_importance/linkimportance/graph/NameList", "append", "([BII)V"⟩ : MethodName) (head1 (Jvm.Cond.code (⟨"com/example/link_importance/linkimportance/graph/NameList", "append", "([BII)V"⟩ : MethodName) prog_23_method_9_code 10 none :: ws) ({ frames := 3, cells := 1, slots := 6138, locals := 47 } : Room)) (fun a U => a = #[(.ref x0), (.ref x1), (.int x2), (.int x3)] ∧ Z.Warmed39 U.vm ∧ U.heap = h0) (fun _ _ _ _ _ => True) (fun _ U o U' => ∃ v L, o = .returned v ∧ Q_rmA3 Z x0 x1 x2 x3 n mx ch kc by_ kb nb vb db stt ks vss S kq vq dq h0 n0 v U'.heap L ∧ FrameEnd U o U' L ({ frames := 3, cells := 1, slots := 6138, locals := 47 } : Room).cells ({ frames := 3, cells := 1, slots := 6138, locals := 47 } : Room).slots) := by
  refine MetFree.of_bodySF (plainFor_of_name pn_0) hisR ?_
  intro p e s m args below meth c s₁ Bd hml0 hP hK
  obtain ⟨rfl, hZ, hh⟩ := hP
  have hx := Bd.exec
  have hby := Bd.bytes
  have hml : c.maxLocals = 10 := hml0
  have hown : s.vm.findClass "com/example/link_importance/linkimportance/graph/NameList" = some m.cls := findClass_of_methodNamed Bd.named
  have hnm := (name_of_methodNamed Bd.named Bd.method).1
  have X0 : Stand p l e ({ frames := 3, cells := 1, slots := 6138, locals := 47 } : Room) s m #[(.ref x0), (.ref x1), (.int x2), (.int x3)] below meth c s₁ [] 0 0 := Stand.of_body Bd
  have e0 : s₁.heap = h0 := by rw [← hh, Bd.state]; rfl
  have N0 := Fr.nil n0
  show own_Ends p e below s ({ frames := 3, cells := 1, slots := 6138, locals := 47 } : Room).cells ({ frames := 3, cells := 1, slots := 6138, locals := 47 } : Room).slots (Q_rmA3 Z x0 x1 x2 x3 n mx ch kc by_ kb nb vb db stt ks vss S kq vq dq h0 n0) (s₁.setTop (entryFrame m #[(.ref x0), (.ref x1), (.int x2), (.int x3)] 10))
  rw [ef_3_RRII]
  have hn1 : (n + (1 : Int32)).toInt = n.toInt + 1 := by have := own_add (x := n) (y := 1) ⟨by omega, by omega⟩ (by decide); rw [this]; rfl
  have hS : 0 ≤ S.toInt ∧ S.toInt ≤ 3069 := ⟨p_27.1, by have := p_27.2; omega⟩
  have hof := own_off hS
  have hct := own_sub (x := x3) (y := x2) (by omega) (by omega)
  have h16 : (16 : Int32).toInt = 16 := by decide
  have h2048 : (2048 : Int32).toInt = 2048 := by decide
  refine own_step (st' := s₁.setTop (mkF m 1 #[.val (.ref x0), .val (.ref x1), .val (.int x2), .val (.int x3), .unset, .unset, .unset, .unset, .unset, .unset] [(.ref x0)])) (fun t k => XS.aloadN X0.here hx rfl (hb hby d3_0) rfl rfl k) ?_
  obtain ⟨T1, X1, e1, st1⟩ := getF X0 hx hZ hown (host := "") (Or.inl (hw _ (List.mem_of_getElem? (i := 25) rfl))) Via.refl e0 p_0 (g := (mkF m 1 #[.val (.ref x0), .val (.ref x1), .val (.int x2), .val (.int x3), .unset, .unset, .unset, .unset, .unset, .unset] [(.ref x0)])) rfl rfl (hb hby d3_1)
  refine own_step (st' := T1.setTop (mkF m 4 #[.val (.ref x0), .val (.ref x1), .val (.int x2), .val (.int x3), .unset, .unset, .unset, .unset, .unset, .unset] [(.int n)])) st1 ?_
  refine own_step (st' := T1.setTop (mkF m 5 #[.val (.ref x0), .val (.ref x1), .val (.int x2), .val (.int x3), .unset, .unset, .unset, .unset, .unset, .unset] [(.ref x0), (.int n)])) (fun t k => XS.aloadN X1.here hx rfl (hb hby d3_4) rfl rfl k) ?_
  obtain ⟨T2, X2, e2, st2⟩ := getF X1 hx hZ hown (host := "") (Or.inl (hw _ (List.mem_of_getElem? (i := 18) rfl))) Via.refl e1 p_1 (g := (mkF m 5 #[.val (.ref x0), .val (.ref x1), .val (.int x2), .val (.int x3), .unset, .unset, .unset, .unset, .unset, .unset] [(.ref x0), (.int n)])) rfl rfl (hb hby d3_5)
  refine own_step (st' := T2.setTop (mkF m 8 #[.val (.ref x0), .val (.ref x1), .val (.int x2), .val (.int x3), .unset, .unset, .unset, .unset, .unset, .unset] [(.int mx), (.int n)])) st2 ?_
  refine own_step (st' := T2.setTop (mkF m 28 #[.val (.ref x0), .val (.ref x1), .val (.int x2), .val (.int x3), .unset, .unset, .unset, .unset, .unset, .unset] [])) (fun t k => XS.icmpYes X2.here hx rfl (pc0 := 8) (pc' := 28) rfl (hb hby d3_8) rfl (feq p_23).2 (by decide) (by decide) k) ?_
  refine own_step (st' := T2.setTop (mkF m 29 #[.val (.ref x0), .val (.ref x1), .val (.int x2), .val (.int x3), .unset, .unset, .unset, .unset, .unset, .unset] [(.ref x0)])) (fun t k => XS.aloadN X2.here hx rfl (hb hby d3_28) rfl rfl k) ?_
  obtain ⟨T3, X3, e3, st3⟩ := getF X2 hx hZ hown (host := "") (Or.inl (hw _ (List.mem_of_getElem? (i := 25) rfl))) Via.refl e2 p_0 (g := (mkF m 29 #[.val (.ref x0), .val (.ref x1), .val (.int x2), .val (.int x3), .unset, .unset, .unset, .unset, .unset, .unset] [(.ref x0)])) rfl rfl (hb hby d3_29)
  refine own_step (st' := T3.setTop (mkF m 32 #[.val (.ref x0), .val (.ref x1), .val (.int x2), .val (.int x3), .unset, .unset, .unset, .unset, .unset, .unset] [(.int n)])) st3 ?_
  refine own_step (st' := T3.setTop (mkF m 33 #[.val (.ref x0), .val (.ref x1), .val (.int x2), .val (.int x3), .unset, .unset, .unset, .unset, .unset, .unset] [(.int (1 : Int32)), (.int n)])) (fun t k => XS.iconst X3.here hx rfl (hb hby d3_32) k) ?_
  refine own_step (st' := T3.setTop (mkF m 34 #[.val (.ref x0), .val (.ref x1), .val (.int x2), .val (.int x3), .unset, .unset, .unset, .unset, .unset, .unset] [(.int (n + (1 : Int32)))])) (fun t k => XS.iadd X3.here hx rfl (hb hby d3_33) rfl k) ?_
  refine own_step (st' := T3.setTop (mkF m 35 #[.val (.ref x0), .val (.ref x1), .val (.int x2), .val (.int x3), .unset, .unset, .unset, .unset, .unset, .unset] [(.ref x0), (.int (n + (1 : Int32)))])) (fun t k => XS.aloadN X3.here hx rfl (hb hby d3_34) rfl rfl k) ?_
  obtain ⟨T4, X4, e4, st4⟩ := getF X3 hx hZ hown (host := "") (Or.inl (hw _ (List.mem_of_getElem? (i := 16) rfl))) Via.refl e3 p_3 (g := (mkF m 35 #[.val (.ref x0), .val (.ref x1), .val (.int x2), .val (.int x3), .unset, .unset, .unset, .unset, .unset, .unset] [(.ref x0), (.int (n + (1 : Int32)))])) rfl rfl (hb hby d3_35)
  refine own_step (st' := T4.setTop (mkF m 38 #[.val (.ref x0), .val (.ref x1), .val (.int x2), .val (.int x3), .unset, .unset, .unset, .unset, .unset, .unset] [(.ref stt), (.int (n + (1 : Int32)))])) st4 ?_
  refine own_step (st' := T4.setTop (mkF m 39 #[.val (.ref x0), .val (.ref x1), .val (.int x2), .val (.int x3), .unset, .unset, .unset, .unset, .unset, .unset] [(.int (16 : Int32)), (.int (n + (1 : Int32)))])) (fun t k => own_len X4 hx hZ e4 p_11 (g := (mkF m 38 #[.val (.ref x0), .val (.ref x1), .val (.int x2), .val (.int x3), .unset, .unset, .unset, .unset, .unset, .unset] [(.ref stt), (.int (n + (1 : Int32)))])) rfl rfl (hb hby d3_38) t k) ?_
  refine own_step (st' := T4.setTop (mkF m 74 #[.val (.ref x0), .val (.ref x1), .val (.int x2), .val (.int x3), .unset, .unset, .unset, .unset, .unset, .unset] [])) (fun t k => XS.icmpYes X4.here hx rfl (pc0 := 39) (pc' := 74) rfl (hb hby d3_39) rfl (feq (fun q => by have := congrArg Int32.toInt q; rw [hn1, h16] at this; omega)).2 (by decide) (by decide) k) ?_
  refine own_step (st' := T4.setTop (mkF m 75 #[.val (.ref x0), .val (.ref x1), .val (.int x2), .val (.int x3), .unset, .unset, .unset, .unset, .unset, .unset] [(.ref x0)])) (fun t k => XS.aloadN X4.here hx rfl (hb hby d3_74) rfl rfl k) ?_
  obtain ⟨T5, X5, e5, st5⟩ := getF X4 hx hZ hown (host := "") (Or.inl (hw _ (List.mem_of_getElem? (i := 16) rfl))) Via.refl e4 p_3 (g := (mkF m 75 #[.val (.ref x0), .val (.ref x1), .val (.int x2), .val (.int x3), .unset, .unset, .unset, .unset, .unset, .unset] [(.ref x0)])) rfl rfl (hb hby d3_75)
  refine own_step (st' := T5.setTop (mkF m 78 #[.val (.ref x0), .val (.ref x1), .val (.int x2), .val (.int x3), .unset, .unset, .unset, .unset, .unset, .unset] [(.ref stt)])) st5 ?_
  refine own_step (st' := T5.setTop (mkF m 79 #[.val (.ref x0), .val (.ref x1), .val (.int x2), .val (.int x3), .unset, .unset, .unset, .unset, .unset, .unset] [(.ref x0), (.ref stt)])) (fun t k => XS.aloadN X5.here hx rfl (hb hby d3_78) rfl rfl k) ?_
  obtain ⟨T6, X6, e6, st6⟩ := getF X5 hx hZ hown (host := "") (Or.inl (hw _ (List.mem_of_getElem? (i := 25) rfl))) Via.refl e5 p_0 (g := (mkF m 79 #[.val (.ref x0), .val (.ref x1), .val (.int x2), .val (.int x3), .unset, .unset, .unset, .unset, .unset, .unset] [(.ref x0), (.ref stt)])) rfl rfl (hb hby d3_79)
  refine own_step (st' := T6.setTop (mkF m 82 #[.val (.ref x0), .val (.ref x1), .val (.int x2), .val (.int x3), .unset, .unset, .unset, .unset, .unset, .unset] [(.int n), (.ref stt)])) st6 ?_
  refine own_step (st' := T6.setTop (mkF m 83 #[.val (.ref x0), .val (.ref x1), .val (.int x2), .val (.int x3), .unset, .unset, .unset, .unset, .unset, .unset] [(.long S)])) (fun t k => own_ldJ X6 hx hZ e6 p_11 (j := n) (v := (.long S)) (own_in (by omega) (by rw [h16]; omega)) p_25 (g := (mkF m 82 #[.val (.ref x0), .val (.ref x1), .val (.int x2), .val (.int x3), .unset, .unset, .unset, .unset, .unset, .unset] [(.int n), (.ref stt)])) rfl rfl (hb hby d3_82) t k) ?_
  refine own_step (st' := T6.setTop (mkF m 85 #[.val (.ref x0), .val (.ref x1), .val (.int x2), .val (.int x3), .val (.long S), .second, .unset, .unset, .unset, .unset] [])) (fun t k => XS.lstore X6.here hx rfl (hb hby d3_83) rfl (l' := #[.val (.ref x0), .val (.ref x1), .val (.int x2), .val (.int x3), .val (.long S), .second, .unset, .unset, .unset, .unset]) rfl k) ?_
  refine own_step (st' := T6.setTop (mkF m 86 #[.val (.ref x0), .val (.ref x1), .val (.int x2), .val (.int x3), .val (.long S), .second, .unset, .unset, .unset, .unset] [(.int x2)])) (fun t k => XS.iloadN X6.here hx rfl (hb hby d3_85) rfl k) ?_
  refine own_step (st' := T6.setTop (mkF m 88 #[.val (.ref x0), .val (.ref x1), .val (.int x2), .val (.int x3), .val (.long S), .second, .val (.int x2), .unset, .unset, .unset] [])) (fun t k => XS.istore X6.here hx rfl (hb hby d3_86) rfl (l' := #[.val (.ref x0), .val (.ref x1), .val (.int x2), .val (.int x3), .val (.long S), .second, .val (.int x2), .unset, .unset, .unset]) rfl k) ?_
  refine own_step (st' := T6.setTop (mkF m 90 #[.val (.ref x0), .val (.ref x1), .val (.int x2), .val (.int x3), .val (.long S), .second, .val (.int x2), .unset, .unset, .unset] [(.int x2)])) (fun t k => XS.iload X6.here hx rfl (hb hby d3_88) rfl k) ?_
  refine own_step (st' := T6.setTop (mkF m 91 #[.val (.ref x0), .val (.ref x1), .val (.int x2), .val (.int x3), .val (.long S), .second, .val (.int x2), .unset, .unset, .unset] [(.int x3), (.int x2)])) (fun t k => XS.iloadN X6.here hx rfl (hb hby d3_90) rfl k) ?_
  by_cases hc7 : x2 < x3
  · refine own_step (st' := T6.setTop (mkF m 94 #[.val (.ref x0), .val (.ref x1), .val (.int x2), .val (.int x3), .val (.long S), .second, .val (.int x2), .unset, .unset, .unset] [])) (fun t k => XS.icmpNo X6.here hx rfl (hb hby d3_91) rfl (tlt hc7).2.1 k) ?_
    refine own_step (st' := T6.setTop (mkF m 96 #[.val (.ref x0), .val (.ref x1), .val (.int x2), .val (.int x3), .val (.long S), .second, .val (.int x2), .unset, .unset, .unset] [(.long S)])) (fun t k => XS.lload X6.here hx rfl (hb hby d3_94) rfl k) ?_
    refine own_step (st' := T6.setTop (mkF m 99 #[.val (.ref x0), .val (.ref x1), .val (.int x2), .val (.int x3), .val (.long S), .second, .val (.int x2), .unset, .unset, .unset] [(.long (65535 : Int64)), (.long S)])) (fun t k => X6.ldc2Long hx hown (mvT hZ (hw _ (List.mem_of_getElem? (i := 27) rfl))) (g := (mkF m 96 #[.val (.ref x0), .val (.ref x1), .val (.int x2), .val (.int x3), .val (.long S), .second, .val (.int x2), .unset, .unset, .unset] [(.long S)])) rfl (hb hby d3_96) t k) ?_
    refine own_step (st' := T6.setTop (mkF m 100 #[.val (.ref x0), .val (.ref x1), .val (.int x2), .val (.int x3), .val (.long S), .second, .val (.int x2), .unset, .unset, .unset] [(.long (S &&& (65535 : Int64)))])) (fun t k => XS.land X6.here hx rfl (hb hby d3_99) rfl k) ?_
    refine own_step (st' := T6.setTop (mkF m 101 #[.val (.ref x0), .val (.ref x1), .val (.int x2), .val (.int x3), .val (.long S), .second, .val (.int x2), .unset, .unset, .unset] [(.int ((S &&& (65535 : Int64)).toInt32))])) (fun t k => XS.l2i X6.here hx rfl (hb hby d3_100) rfl k) ?_
    refine own_step (st' := T6.setTop (mkF m 103 #[.val (.ref x0), .val (.ref x1), .val (.int x2), .val (.int x3), .val (.long S), .second, .val (.int x2), .val (.int ((S &&& (65535 : Int64)).toInt32)), .unset, .unset] [])) (fun t k => XS.istore X6.here hx rfl (hb hby d3_101) rfl (l' := #[.val (.ref x0), .val (.ref x1), .val (.int x2), .val (.int x3), .val (.long S), .second, .val (.int x2), .val (.int ((S &&& (65535 : Int64)).toInt32)), .unset, .unset]) rfl k) ?_
    refine own_step (st' := T6.setTop (mkF m 104 #[.val (.ref x0), .val (.ref x1), .val (.int x2), .val (.int x3), .val (.long S), .second, .val (.int x2), .val (.int ((S &&& (65535 : Int64)).toInt32)), .unset, .unset] [(.int x3)])) (fun t k => XS.iloadN X6.here hx rfl (hb hby d3_103) rfl k) ?_
    refine own_step (st' := T6.setTop (mkF m 106 #[.val (.ref x0), .val (.ref x1), .val (.int x2), .val (.int x3), .val (.long S), .second, .val (.int x2), .val (.int ((S &&& (65535 : Int64)).toInt32)), .unset, .unset] [(.int x2), (.int x3)])) (fun t k => XS.iload X6.here hx rfl (hb hby d3_104) rfl k) ?_
    refine own_step (st' := T6.setTop (mkF m 107 #[.val (.ref x0), .val (.ref x1), .val (.int x2), .val (.int x3), .val (.long S), .second, .val (.int x2), .val (.int ((S &&& (65535 : Int64)).toInt32)), .unset, .unset] [(.int (x3 - x2))])) (fun t k => XS.isub X6.here hx rfl (hb hby d3_106) rfl k) ?_
    refine own_step (st' := T6.setTop (mkF m 109 #[.val (.ref x0), .val (.ref x1), .val (.int x2), .val (.int x3), .val (.long S), .second, .val (.int x2), .val (.int ((S &&& (65535 : Int64)).toInt32)), .unset, .unset] [(.int (65536 : Int32)), (.int (x3 - x2))])) (fun t k => X6.ldcInt hx hown (mvT hZ (hw _ (List.mem_of_getElem? (i := 28) rfl))) (g := (mkF m 107 #[.val (.ref x0), .val (.ref x1), .val (.int x2), .val (.int x3), .val (.long S), .second, .val (.int x2), .val (.int ((S &&& (65535 : Int64)).toInt32)), .unset, .unset] [(.int (x3 - x2))])) rfl (hb hby d3_107) t k) ?_
    refine own_step (st' := T6.setTop (mkF m 111 #[.val (.ref x0), .val (.ref x1), .val (.int x2), .val (.int x3), .val (.long S), .second, .val (.int x2), .val (.int ((S &&& (65535 : Int64)).toInt32)), .unset, .unset] [(.int ((S &&& (65535 : Int64)).toInt32)), (.int (65536 : Int32)), (.int (x3 - x2))])) (fun t k => XS.iload X6.here hx rfl (hb hby d3_109) rfl k) ?_
    refine own_step (st' := T6.setTop (mkF m 112 #[.val (.ref x0), .val (.ref x1), .val (.int x2), .val (.int x3), .val (.long S), .second, .val (.int x2), .val (.int ((S &&& (65535 : Int64)).toInt32)), .unset, .unset] [(.int ((65536 : Int32) - ((S &&& (65535 : Int64)).toInt32))), (.int (x3 - x2))])) (fun t k => XS.isub X6.here hx rfl (hb hby d3_111) rfl k) ?_
    obtain ⟨_, _, ⟨T8, L8, k8, n8⟩, -, X8, ⟨Lc8, hQ8, l8, y8, z8⟩, st8⟩ := Jvm.LawKit.callS X6 hx (y := (⟨"java/lang/Math", "min", "(II)I"⟩ : MethodName)) hown (mvT hZ (hw _ (List.mem_of_getElem? (i := 29) rfl))) (mvT hZ (hw _ (List.mem_of_getElem? (i := 30) rfl))) (mvT hZ (hw _ (List.mem_of_getElem? (i := 31) rfl))) (mvT hZ (hw _ (List.mem_of_getElem? (i := 32) rfl))) (by decide) (backOf (W := 0) (rm4 l Z a0 hw [] (x3 - x2) ((65536 : Int32) - ((S &&& (65535 : Int64)).toInt32)) h0 n0 Z0) hZ (hw _ (List.mem_of_getElem? (i := 32) rfl)) (hw _ (List.mem_of_getElem? (i := 31) rfl)) (by decide) (by decide)) (g := (mkF m 112 #[.val (.ref x0), .val (.ref x1), .val (.int x2), .val (.int x3), .val (.long S), .second, .val (.int x2), .val (.int ((S &&& (65535 : Int64)).toInt32)), .unset, .unset] [(.int ((65536 : Int32) - ((S &&& (65535 : Int64)).toInt32))), (.int (x3 - x2))])) rfl (by rw [hml]; rfl) (argsL := [(.int (x3 - x2)), (.int ((65536 : Int32) - ((S &&& (65535 : Int64)).toInt32)))]) (rest := []) (lenOf pd_3 rfl) rfl (by show 2 * 0 + _ ≤ _; exact Nat.le_of_eq rfl) (hb hby d3_112) (fun _ _ => ⟨rfl, e6, (by decide : 0 + 0 ≤ _), (by decide : 0 + 0 ≤ _)⟩)
    dsimp only [Pt.U, Pt.locs, Pt.cells, Pt.slots] at X8 l8 y8 z8 st8 hQ8
    subst l8 y8 z8
    obtain ⟨rfl, N8q, e8⟩ := hQ8
    have N8 := Fr.app N0 N8q
    refine own_step (st' := T8.setTop (mkF m 115 #[.val (.ref x0), .val (.ref x1), .val (.int x2), .val (.int x3), .val (.long S), .second, .val (.int x2), .val (.int ((S &&& (65535 : Int64)).toInt32)), .unset, .unset] [(.int (if ((65536 : Int32) - ((S &&& (65535 : Int64)).toInt32)) < (x3 - x2) then ((65536 : Int32) - ((S &&& (65535 : Int64)).toInt32)) else (x3 - x2)))])) st8 ?_
    have hcc : (if ((65536 : Int32) - ((S &&& (65535 : Int64)).toInt32)) < (x3 - x2) then ((65536 : Int32) - ((S &&& (65535 : Int64)).toInt32)) else (x3 - x2)) = (x3 - x2) := if_neg (by rw [Int32.lt_iff_toInt_lt, own_sub (by decide) (by omega), show (65536 : Int32).toInt = 65536 by decide]; omega)
    rw [hcc]
    refine own_step (st' := T8.setTop (mkF m 117 #[.val (.ref x0), .val (.ref x1), .val (.int x2), .val (.int x3), .val (.long S), .second, .val (.int x2), .val (.int ((S &&& (65535 : Int64)).toInt32)), .val (.int (x3 - x2)), .unset] [])) (fun t k => XS.istore X8.here hx rfl (hb hby d3_115) rfl (l' := #[.val (.ref x0), .val (.ref x1), .val (.int x2), .val (.int x3), .val (.long S), .second, .val (.int x2), .val (.int ((S &&& (65535 : Int64)).toInt32)), .val (.int (x3 - x2)), .unset]) rfl k) ?_
    refine own_step (st' := T8.setTop (mkF m 118 #[.val (.ref x0), .val (.ref x1), .val (.int x2), .val (.int x3), .val (.long S), .second, .val (.int x2), .val (.int ((S &&& (65535 : Int64)).toInt32)), .val (.int (x3 - x2)), .unset] [(.ref x0)])) (fun t k => XS.aloadN X8.here hx rfl (hb hby d3_117) rfl rfl k) ?_
    refine own_step (st' := T8.setTop (mkF m 120 #[.val (.ref x0), .val (.ref x1), .val (.int x2), .val (.int x3), .val (.long S), .second, .val (.int x2), .val (.int ((S &&& (65535 : Int64)).toInt32)), .val (.int (x3 - x2)), .unset] [(.long S), (.ref x0)])) (fun t k => XS.lload X8.here hx rfl (hb hby d3_118) rfl k) ?_
    refine own_step (st' := T8.setTop (mkF m 122 #[.val (.ref x0), .val (.ref x1), .val (.int x2), .val (.int x3), .val (.long S), .second, .val (.int x2), .val (.int ((S &&& (65535 : Int64)).toInt32)), .val (.int (x3 - x2)), .unset] [(.int (16 : Int32)), (.long S), (.ref x0)])) (fun t k => XS.bipush X8.here hx rfl (hb hby d3_120) k) ?_
    refine own_step (st' := T8.setTop (mkF m 123 #[.val (.ref x0), .val (.ref x1), .val (.int x2), .val (.int x3), .val (.long S), .second, .val (.int x2), .val (.int ((S &&& (65535 : Int64)).toInt32)), .val (.int (x3 - x2)), .unset] [(.long ((S.toUInt64 >>> ((16 : Int32) &&& 0x3f).toInt64.toUInt64).toInt64)), (.ref x0)])) (fun t k => XS.lushr X8.here hx rfl (hb hby d3_122) rfl k) ?_
    refine own_step (st' := T8.setTop (mkF m 124 #[.val (.ref x0), .val (.ref x1), .val (.int x2), .val (.int x3), .val (.long S), .second, .val (.int x2), .val (.int ((S &&& (65535 : Int64)).toInt32)), .val (.int (x3 - x2)), .unset] [(.int (((S.toUInt64 >>> ((16 : Int32) &&& 0x3f).toInt64.toUInt64).toInt64).toInt32)), (.ref x0)])) (fun t k => XS.l2i X8.here hx rfl (hb hby d3_123) rfl k) ?_
    refine own_step (st' := T8.setTop (mkF m 126 #[.val (.ref x0), .val (.ref x1), .val (.int x2), .val (.int x3), .val (.long S), .second, .val (.int x2), .val (.int ((S &&& (65535 : Int64)).toInt32)), .val (.int (x3 - x2)), .unset] [(.int ((S &&& (65535 : Int64)).toInt32)), (.int (((S.toUInt64 >>> ((16 : Int32) &&& 0x3f).toInt64.toUInt64).toInt64).toInt32)), (.ref x0)])) (fun t k => XS.iload X8.here hx rfl (hb hby d3_124) rfl k) ?_
    refine own_step (st' := T8.setTop (mkF m 128 #[.val (.ref x0), .val (.ref x1), .val (.int x2), .val (.int x3), .val (.long S), .second, .val (.int x2), .val (.int ((S &&& (65535 : Int64)).toInt32)), .val (.int (x3 - x2)), .unset] [(.int (x3 - x2)), (.int ((S &&& (65535 : Int64)).toInt32)), (.int (((S.toUInt64 >>> ((16 : Int32) &&& 0x3f).toInt64.toUInt64).toInt64).toInt32)), (.ref x0)])) (fun t k => XS.iload X8.here hx rfl (hb hby d3_126) rfl k) ?_
    refine own_step (st' := T8.setTop (mkF m 129 #[.val (.ref x0), .val (.ref x1), .val (.int x2), .val (.int x3), .val (.long S), .second, .val (.int x2), .val (.int ((S &&& (65535 : Int64)).toInt32)), .val (.int (x3 - x2)), .unset] [(.int (((S &&& (65535 : Int64)).toInt32) + (x3 - x2))), (.int (((S.toUInt64 >>> ((16 : Int32) &&& 0x3f).toInt64.toUInt64).toInt64).toInt32)), (.ref x0)])) (fun t k => XS.iadd X8.here hx rfl (hb hby d3_128) rfl k) ?_
    obtain ⟨cq9, q9, q9'⟩ := p_4.cell
    obtain ⟨_, _, ⟨T9, L9, k9, n9⟩, -, X9, ⟨Lc9, hQ9, l9, y9, z9⟩, st9⟩ := X8.privateBack hx (y := (⟨"com/example/link_importance/linkimportance/graph/NameList", "room", "(II)[B"⟩ : MethodName)) hown (mvT hZ (hw _ (List.mem_of_getElem? (i := 33) rfl))) (mvT hZ (hw _ (List.mem_of_getElem? (i := 34) rfl))) (own_selp (y := (⟨"com/example/link_importance/linkimportance/graph/NameList", "room", "(II)[B"⟩ : MethodName)) (mvT hZ (hw _ (List.mem_of_getElem? (i := 34) rfl))) (own_nf (args := #[]) (y := (⟨"com/example/link_importance/linkimportance/graph/NameList", "append", "([BII)V"⟩ : MethodName)) rfl (mvT hZ (hw _ (List.mem_of_getElem? (i := 22) rfl))) (notFace_of_selects (args := #[]) (mvT hZ (hw _ (List.mem_of_getElem? (i := 23) rfl))))) (Cond.privateMethod_at (mvP hZ (hw _ (List.mem_of_getElem? (i := 35) rfl)) (args := #[]))) (by decide)) (Cond.privateMethod_at (mvP hZ (hw _ (List.mem_of_getElem? (i := 35) rfl)) (args := #[]))) (mvT hZ (hw _ (List.mem_of_getElem? (i := 36) rfl))) (by decide) (backOf (W := 0) (rmR3 l Z a0 hw [] x0 (((S.toUInt64 >>> ((16 : Int32) &&& 0x3f).toInt64.toUInt64).toInt64).toInt32) (((S &&& (65535 : Int64)).toInt32) + (x3 - x2)) ch kc by_ kb nb vb db h0 n0 Z0 (own_chunk hS) p_2 p_9 p_10 p_29 p_30 (by rw [own_add (x := (S &&& (65535 : Int64)).toInt32) (y := x3 - x2) ⟨by omega, by omega⟩ ⟨by omega, by omega⟩]; omega) p_6 p_7 (Ne.symm p_20) p_14) hZ (hw _ (List.mem_of_getElem? (i := 36) rfl)) (hw _ (List.mem_of_getElem? (i := 3) rfl)) (by decide) (by decide)) (g := (mkF m 129 #[.val (.ref x0), .val (.ref x1), .val (.int x2), .val (.int x3), .val (.long S), .second, .val (.int x2), .val (.int ((S &&& (65535 : Int64)).toInt32)), .val (.int (x3 - x2)), .unset] [(.int (((S &&& (65535 : Int64)).toInt32) + (x3 - x2))), (.int (((S.toUInt64 >>> ((16 : Int32) &&& 0x3f).toInt64.toUInt64).toInt64).toInt32)), (.ref x0)])) rfl (by rw [hml]; rfl) (Steps.refl _) (a := x0) (by rw [e8]; exact q9) q9' (argsL := [(.int (((S.toUInt64 >>> ((16 : Int32) &&& 0x3f).toInt64.toUInt64).toInt64).toInt32)), (.int (((S &&& (65535 : Int64)).toInt32) + (x3 - x2)))]) (rest := []) (lenOf pd_4 rfl) rfl (by show 2 * 0 + _ ≤ _; exact Nat.le_of_eq rfl) (hb hby d3_129) (fun _ _ => ⟨rfl, e8, (by decide : 0 + 1 ≤ _), (by decide : 0 + 6138 ≤ _)⟩)
    dsimp only [Pt.U, Pt.locs, Pt.cells, Pt.slots] at X9 l9 y9 z9 st9 hQ9
    subst l9 y9 z9
    obtain ⟨bz_9, kz_9, nz_9, vz_9, dz_9, rfl, N9q, K9, pq9_0, pq9_1, pq9_2, pq9_3, pq9_4, pq9_5⟩ := hQ9
    have N9 := Fr.app N8 N9q
    obtain ⟨h9, e9⟩ : ∃ z, T9.heap = z := ⟨_, rfl⟩
    rw [e9] at K9 pq9_3 pq9_4 pq9_5
    have f10 := p_0.keep K9 (ninS p_14 nin0)
    have f11 := p_1.keep K9 (ninS p_14 nin0)
    have f12 := p_2.keep K9 (ninS p_14 nin0)
    have f13 := p_3.keep K9 (ninS p_14 nin0)
    have f14 := p_4.keep K9
    have f15 := p_10.keep K9 (ninS (Ne.symm p_20) nin0)
    have f16 := p_11.keep K9 (ninS (Ne.symm p_21) nin0)
    have f17 := p_12.keep K9 (ninS p_17 nin0)
    have K18 : Keep h0 h9 [x0, ch, by_, stt] := (Keep.refl h0 [x0, ch, by_, stt]).trans K9 (allS (Or.inl (List.mem_of_getElem? (i := 1) rfl)) all0)
    have Z19 : n0 ≤ h9.size := Nat.le_trans Z0 K9.1
    refine own_step (st' := T9.setTop (mkF m 132 #[.val (.ref x0), .val (.ref x1), .val (.int x2), .val (.int x3), .val (.long S), .second, .val (.int x2), .val (.int ((S &&& (65535 : Int64)).toInt32)), .val (.int (x3 - x2)), .unset] [(.ref bz_9)])) (fun t k => st9.trans k) ?_
    have nz9_x0 : bz_9 ≠ x0 := by
      rcases pq9_0 with q | q
      · rw [q]; exact (Ne.symm p_15)
      · exact Nat.ne_of_gt (Nat.lt_of_lt_of_le p_4.lt q)
    have nz9_x1 : bz_9 ≠ x1 := by
      rcases pq9_0 with q | q
      · rw [q]; exact (Ne.symm p_18)
      · exact Nat.ne_of_gt (Nat.lt_of_lt_of_le p_12.lt q)
    have nz9_ch : bz_9 ≠ ch := by
      rcases pq9_0 with q | q
      · rw [q]; exact (Ne.symm p_20)
      · exact Nat.ne_of_gt (Nat.lt_of_lt_of_le p_9.lt q)
    have nz9_stt : bz_9 ≠ stt := by
      rcases pq9_0 with q | q
      · rw [q]; exact p_22
      · exact Nat.ne_of_gt (Nat.lt_of_lt_of_le p_11.lt q)
    have mb9 : bz_9 ∈ [x0, ch, by_, stt] ∨ h0.size ≤ bz_9 := pq9_0.elim (fun q => Or.inl (by rw [q]; simp)) Or.inr
    refine own_step (st' := T9.setTop (mkF m 134 #[.val (.ref x0), .val (.ref x1), .val (.int x2), .val (.int x3), .val (.long S), .second, .val (.int x2), .val (.int ((S &&& (65535 : Int64)).toInt32)), .val (.int (x3 - x2)), .val (.ref bz_9)] [])) (fun t k => XS.astore X9.here hx rfl (hb hby d3_132) rfl rfl (l' := #[.val (.ref x0), .val (.ref x1), .val (.int x2), .val (.int x3), .val (.long S), .second, .val (.int x2), .val (.int ((S &&& (65535 : Int64)).toInt32)), .val (.int (x3 - x2)), .val (.ref bz_9)]) rfl k) ?_
    refine own_step (st' := T9.setTop (mkF m 135 #[.val (.ref x0), .val (.ref x1), .val (.int x2), .val (.int x3), .val (.long S), .second, .val (.int x2), .val (.int ((S &&& (65535 : Int64)).toInt32)), .val (.int (x3 - x2)), .val (.ref bz_9)] [(.ref x1)])) (fun t k => XS.aloadN X9.here hx rfl (hb hby d3_134) rfl rfl k) ?_
    refine own_step (st' := T9.setTop (mkF m 137 #[.val (.ref x0), .val (.ref x1), .val (.int x2), .val (.int x3), .val (.long S), .second, .val (.int x2), .val (.int ((S &&& (65535 : Int64)).toInt32)), .val (.int (x3 - x2)), .val (.ref bz_9)] [(.int x2), (.ref x1)])) (fun t k => XS.iload X9.here hx rfl (hb hby d3_135) rfl k) ?_
    refine own_step (st' := T9.setTop (mkF m 139 #[.val (.ref x0), .val (.ref x1), .val (.int x2), .val (.int x3), .val (.long S), .second, .val (.int x2), .val (.int ((S &&& (65535 : Int64)).toInt32)), .val (.int (x3 - x2)), .val (.ref bz_9)] [(.ref bz_9), (.int x2), (.ref x1)])) (fun t k => XS.aload X9.here hx rfl (hb hby d3_137) rfl rfl k) ?_
    refine own_step (st' := T9.setTop (mkF m 141 #[.val (.ref x0), .val (.ref x1), .val (.int x2), .val (.int x3), .val (.long S), .second, .val (.int x2), .val (.int ((S &&& (65535 : Int64)).toInt32)), .val (.int (x3 - x2)), .val (.ref bz_9)] [(.int ((S &&& (65535 : Int64)).toInt32)), (.ref bz_9), (.int x2), (.ref x1)])) (fun t k => XS.iload X9.here hx rfl (hb hby d3_139) rfl k) ?_
    refine own_step (st' := T9.setTop (mkF m 143 #[.val (.ref x0), .val (.ref x1), .val (.int x2), .val (.int x3), .val (.long S), .second, .val (.int x2), .val (.int ((S &&& (65535 : Int64)).toInt32)), .val (.int (x3 - x2)), .val (.ref bz_9)] [(.int (x3 - x2)), (.int ((S &&& (65535 : Int64)).toInt32)), (.ref bz_9), (.int x2), (.ref x1)])) (fun t k => XS.iload X9.here hx rfl (hb hby d3_141) rfl k) ?_
    obtain ⟨T20, h20, L20, vd20, X20, e20, N20, K20, V20, cp20, st20⟩ := own_cp X9 hx hZ hown (hw _ (List.mem_of_getElem? (i := 37) rfl)) (hw _ (List.mem_of_getElem? (i := 40) rfl)) (hw _ (List.mem_of_getElem? (i := 38) rfl)) (hw _ (List.mem_of_getElem? (i := 39) rfl)) e9 f17 pq9_5 rfl (by omega) (by omega) (by omega) (by rw [h2048]; omega) (by have := pq9_1; rw [own_add (x := (S &&& (65535 : Int64)).toInt32) (y := x3 - x2) ⟨by omega, by omega⟩ ⟨by omega, by omega⟩] at this; omega) N9 pq9_2 (g := (mkF m 143 #[.val (.ref x0), .val (.ref x1), .val (.int x2), .val (.int x3), .val (.long S), .second, .val (.int x2), .val (.int ((S &&& (65535 : Int64)).toInt32)), .val (.int (x3 - x2)), .val (.ref bz_9)] [(.int (x3 - x2)), (.int ((S &&& (65535 : Int64)).toInt32)), (.ref bz_9), (.int x2), (.ref x1)])) rfl (by rw [hml]; rfl) rfl (hb hby d3_143) (by decide) (W := 0) (by show 2 * 0 + _ ≤ _; exact Nat.le_of_eq rfl) (by decide)
    have f21 := f10.keep K20 (ninS (Ne.symm nz9_x0) nin0)
    have f22 := f11.keep K20 (ninS (Ne.symm nz9_x0) nin0)
    have f23 := pq9_3.keep K20 (ninS (Ne.symm nz9_x0) nin0)
    have f24 := f13.keep K20 (ninS (Ne.symm nz9_x0) nin0)
    have f25 := f14.keep K20
    have f26 := f16.keep K20 (ninS (Ne.symm nz9_stt) nin0)
    have f27 := f17.keep K20 (ninS (Ne.symm nz9_x1) nin0)
    have f28 := pq9_4.keep K20 (ninS (Ne.symm nz9_ch) nin0)
    have K29 : Keep h0 h20 [x0, ch, by_, stt] := K18.trans K20 (allS mb9 all0)
    have Z30 : n0 ≤ h20.size := Nat.le_trans Z19 K20.1
    refine own_step (st' := T20.setTop (mkF m 146 #[.val (.ref x0), .val (.ref x1), .val (.int x2), .val (.int x3), .val (.long S), .second, .val (.int x2), .val (.int ((S &&& (65535 : Int64)).toInt32)), .val (.int (x3 - x2)), .val (.ref bz_9)] [])) st20 ?_
    refine own_step (st' := T20.setTop (mkF m 148 #[.val (.ref x0), .val (.ref x1), .val (.int x2), .val (.int x3), .val (.long S), .second, .val (.int x2), .val (.int ((S &&& (65535 : Int64)).toInt32)), .val (.int (x3 - x2)), .val (.ref bz_9)] [(.int x2)])) (fun t k => XS.iload X20.here hx rfl (hb hby d3_146) rfl k) ?_
    refine own_step (st' := T20.setTop (mkF m 150 #[.val (.ref x0), .val (.ref x1), .val (.int x2), .val (.int x3), .val (.long S), .second, .val (.int x2), .val (.int ((S &&& (65535 : Int64)).toInt32)), .val (.int (x3 - x2)), .val (.ref bz_9)] [(.int (x3 - x2)), (.int x2)])) (fun t k => XS.iload X20.here hx rfl (hb hby d3_148) rfl k) ?_
    refine own_step (st' := T20.setTop (mkF m 151 #[.val (.ref x0), .val (.ref x1), .val (.int x2), .val (.int x3), .val (.long S), .second, .val (.int x2), .val (.int ((S &&& (65535 : Int64)).toInt32)), .val (.int (x3 - x2)), .val (.ref bz_9)] [(.int (x2 + (x3 - x2)))])) (fun t k => XS.iadd X20.here hx rfl (hb hby d3_150) rfl k) ?_
    refine own_step (st' := T20.setTop (mkF m 153 #[.val (.ref x0), .val (.ref x1), .val (.int x2), .val (.int x3), .val (.long S), .second, .val (.int (x2 + (x3 - x2))), .val (.int ((S &&& (65535 : Int64)).toInt32)), .val (.int (x3 - x2)), .val (.ref bz_9)] [])) (fun t k => XS.istore X20.here hx rfl (hb hby d3_151) rfl (l' := #[.val (.ref x0), .val (.ref x1), .val (.int x2), .val (.int x3), .val (.long S), .second, .val (.int (x2 + (x3 - x2))), .val (.int ((S &&& (65535 : Int64)).toInt32)), .val (.int (x3 - x2)), .val (.ref bz_9)]) rfl k) ?_
    refine own_step (st' := T20.setTop (mkF m 155 #[.val (.ref x0), .val (.ref x1), .val (.int x2), .val (.int x3), .val (.long S), .second, .val (.int (x2 + (x3 - x2))), .val (.int ((S &&& (65535 : Int64)).toInt32)), .val (.int (x3 - x2)), .val (.ref bz_9)] [(.long S)])) (fun t k => XS.lload X20.here hx rfl (hb hby d3_153) rfl k) ?_
    refine own_step (st' := T20.setTop (mkF m 157 #[.val (.ref x0), .val (.ref x1), .val (.int x2), .val (.int x3), .val (.long S), .second, .val (.int (x2 + (x3 - x2))), .val (.int ((S &&& (65535 : Int64)).toInt32)), .val (.int (x3 - x2)), .val (.ref bz_9)] [(.int (x3 - x2)), (.long S)])) (fun t k => XS.iload X20.here hx rfl (hb hby d3_155) rfl k) ?_
    refine own_step (st' := T20.setTop (mkF m 158 #[.val (.ref x0), .val (.ref x1), .val (.int x2), .val (.int x3), .val (.long S), .second, .val (.int (x2 + (x3 - x2))), .val (.int ((S &&& (65535 : Int64)).toInt32)), .val (.int (x3 - x2)), .val (.ref bz_9)] [(.long ((x3 - x2).toInt64)), (.long S)])) (fun t k => XS.i2l X20.here hx rfl (hb hby d3_157) rfl k) ?_
    refine own_step (st' := T20.setTop (mkF m 159 #[.val (.ref x0), .val (.ref x1), .val (.int x2), .val (.int x3), .val (.long S), .second, .val (.int (x2 + (x3 - x2))), .val (.int ((S &&& (65535 : Int64)).toInt32)), .val (.int (x3 - x2)), .val (.ref bz_9)] [(.long (S + ((x3 - x2).toInt64)))])) (fun t k => XS.ladd X20.here hx rfl (hb hby d3_158) rfl k) ?_
    refine own_step (st' := T20.setTop (mkF m 161 #[.val (.ref x0), .val (.ref x1), .val (.int x2), .val (.int x3), .val (.long (S + ((x3 - x2).toInt64))), .second, .val (.int (x2 + (x3 - x2))), .val (.int ((S &&& (65535 : Int64)).toInt32)), .val (.int (x3 - x2)), .val (.ref bz_9)] [])) (fun t k => XS.lstore X20.here hx rfl (hb hby d3_159) rfl (l' := #[.val (.ref x0), .val (.ref x1), .val (.int x2), .val (.int x3), .val (.long (S + ((x3 - x2).toInt64))), .second, .val (.int (x2 + (x3 - x2))), .val (.int ((S &&& (65535 : Int64)).toInt32)), .val (.int (x3 - x2)), .val (.ref bz_9)]) rfl k) ?_
    refine own_step (st' := T20.setTop (mkF m 88 #[.val (.ref x0), .val (.ref x1), .val (.int x2), .val (.int x3), .val (.long (S + ((x3 - x2).toInt64))), .second, .val (.int (x2 + (x3 - x2))), .val (.int ((S &&& (65535 : Int64)).toInt32)), .val (.int (x3 - x2)), .val (.ref bz_9)] [])) (fun t k => XS.goto X20.here hx rfl (pc0 := 161) (pc' := 88) rfl (hb hby d3_161) (by decide) (by decide) k) ?_
    refine own_step (st' := T20.setTop (mkF m 90 #[.val (.ref x0), .val (.ref x1), .val (.int x2), .val (.int x3), .val (.long (S + ((x3 - x2).toInt64))), .second, .val (.int (x2 + (x3 - x2))), .val (.int ((S &&& (65535 : Int64)).toInt32)), .val (.int (x3 - x2)), .val (.ref bz_9)] [(.int (x2 + (x3 - x2)))])) (fun t k => XS.iload X20.here hx rfl (hb hby d3_88) rfl k) ?_
    refine own_step (st' := T20.setTop (mkF m 91 #[.val (.ref x0), .val (.ref x1), .val (.int x2), .val (.int x3), .val (.long (S + ((x3 - x2).toInt64))), .second, .val (.int (x2 + (x3 - x2))), .val (.int ((S &&& (65535 : Int64)).toInt32)), .val (.int (x3 - x2)), .val (.ref bz_9)] [(.int x3), (.int (x2 + (x3 - x2)))])) (fun t k => XS.iloadN X20.here hx rfl (hb hby d3_90) rfl k) ?_
    refine own_step (st' := T20.setTop (mkF m 164 #[.val (.ref x0), .val (.ref x1), .val (.int x2), .val (.int x3), .val (.long (S + ((x3 - x2).toInt64))), .second, .val (.int (x2 + (x3 - x2))), .val (.int ((S &&& (65535 : Int64)).toInt32)), .val (.int (x3 - x2)), .val (.ref bz_9)] [])) (fun t k => XS.icmpYes X20.here hx rfl (pc0 := 91) (pc' := 164) rfl (hb hby d3_91) rfl (flt (by rw [Int32.lt_iff_toInt_lt, own_add (x := x2) (y := x3 - x2) ⟨by omega, by omega⟩ ⟨by omega, by omega⟩]; omega)).2.1 (by decide) (by decide) k) ?_
    refine own_step (st' := T20.setTop (mkF m 165 #[.val (.ref x0), .val (.ref x1), .val (.int x2), .val (.int x3), .val (.long (S + ((x3 - x2).toInt64))), .second, .val (.int (x2 + (x3 - x2))), .val (.int ((S &&& (65535 : Int64)).toInt32)), .val (.int (x3 - x2)), .val (.ref bz_9)] [(.ref x0)])) (fun t k => XS.aloadN X20.here hx rfl (hb hby d3_164) rfl rfl k) ?_
    obtain ⟨T31, X31, e31, st31⟩ := getF X20 hx hZ hown (host := "") (Or.inl (hw _ (List.mem_of_getElem? (i := 16) rfl))) Via.refl e20 f24 (g := (mkF m 165 #[.val (.ref x0), .val (.ref x1), .val (.int x2), .val (.int x3), .val (.long (S + ((x3 - x2).toInt64))), .second, .val (.int (x2 + (x3 - x2))), .val (.int ((S &&& (65535 : Int64)).toInt32)), .val (.int (x3 - x2)), .val (.ref bz_9)] [(.ref x0)])) rfl rfl (hb hby d3_165)
    refine own_step (st' := T31.setTop (mkF m 168 #[.val (.ref x0), .val (.ref x1), .val (.int x2), .val (.int x3), .val (.long (S + ((x3 - x2).toInt64))), .second, .val (.int (x2 + (x3 - x2))), .val (.int ((S &&& (65535 : Int64)).toInt32)), .val (.int (x3 - x2)), .val (.ref bz_9)] [(.ref stt)])) st31 ?_
    refine own_step (st' := T31.setTop (mkF m 169 #[.val (.ref x0), .val (.ref x1), .val (.int x2), .val (.int x3), .val (.long (S + ((x3 - x2).toInt64))), .second, .val (.int (x2 + (x3 - x2))), .val (.int ((S &&& (65535 : Int64)).toInt32)), .val (.int (x3 - x2)), .val (.ref bz_9)] [(.ref x0), (.ref stt)])) (fun t k => XS.aloadN X31.here hx rfl (hb hby d3_168) rfl rfl k) ?_
    obtain ⟨T32, X32, e32, st32⟩ := getF X31 hx hZ hown (host := "") (Or.inl (hw _ (List.mem_of_getElem? (i := 25) rfl))) Via.refl e31 f21 (g := (mkF m 169 #[.val (.ref x0), .val (.ref x1), .val (.int x2), .val (.int x3), .val (.long (S + ((x3 - x2).toInt64))), .second, .val (.int (x2 + (x3 - x2))), .val (.int ((S &&& (65535 : Int64)).toInt32)), .val (.int (x3 - x2)), .val (.ref bz_9)] [(.ref x0), (.ref stt)])) rfl rfl (hb hby d3_169)
    refine own_step (st' := T32.setTop (mkF m 172 #[.val (.ref x0), .val (.ref x1), .val (.int x2), .val (.int x3), .val (.long (S + ((x3 - x2).toInt64))), .second, .val (.int (x2 + (x3 - x2))), .val (.int ((S &&& (65535 : Int64)).toInt32)), .val (.int (x3 - x2)), .val (.ref bz_9)] [(.int n), (.ref stt)])) st32 ?_
    refine own_step (st' := T32.setTop (mkF m 173 #[.val (.ref x0), .val (.ref x1), .val (.int x2), .val (.int x3), .val (.long (S + ((x3 - x2).toInt64))), .second, .val (.int (x2 + (x3 - x2))), .val (.int ((S &&& (65535 : Int64)).toInt32)), .val (.int (x3 - x2)), .val (.ref bz_9)] [(.int (1 : Int32)), (.int n), (.ref stt)])) (fun t k => XS.iconst X32.here hx rfl (hb hby d3_172) k) ?_
    refine own_step (st' := T32.setTop (mkF m 174 #[.val (.ref x0), .val (.ref x1), .val (.int x2), .val (.int x3), .val (.long (S + ((x3 - x2).toInt64))), .second, .val (.int (x2 + (x3 - x2))), .val (.int ((S &&& (65535 : Int64)).toInt32)), .val (.int (x3 - x2)), .val (.ref bz_9)] [(.int (n + (1 : Int32))), (.ref stt)])) (fun t k => XS.iadd X32.here hx rfl (hb hby d3_173) rfl k) ?_
    refine own_step (st' := T32.setTop (mkF m 176 #[.val (.ref x0), .val (.ref x1), .val (.int x2), .val (.int x3), .val (.long (S + ((x3 - x2).toInt64))), .second, .val (.int (x2 + (x3 - x2))), .val (.int ((S &&& (65535 : Int64)).toInt32)), .val (.int (x3 - x2)), .val (.ref bz_9)] [(.long (S + ((x3 - x2).toInt64))), (.int (n + (1 : Int32))), (.ref stt)])) (fun t k => XS.lload X32.here hx rfl (hb hby d3_174) rfl k) ?_
    obtain ⟨T33, h33, X33, e33, W33, V33, st33⟩ := own_stJ X32 hx hZ e32 f26 (j := (n + (1 : Int32))) (i := (n + (1 : Int32)).toNatClampNeg) (own_in (by omega) (by rw [h16]; omega)) rfl (by have := nat_of (own_ofNeg (x := n + 1) (by omega)); rw [p_26]; omega) (g := (mkF m 176 #[.val (.ref x0), .val (.ref x1), .val (.int x2), .val (.int x3), .val (.long (S + ((x3 - x2).toInt64))), .second, .val (.int (x2 + (x3 - x2))), .val (.int ((S &&& (65535 : Int64)).toInt32)), .val (.int (x3 - x2)), .val (.ref bz_9)] [(.long (S + ((x3 - x2).toInt64))), (.int (n + (1 : Int32))), (.ref stt)])) rfl rfl (hb hby d3_176)
    have V33 : Arv Z h33 stt ks .long (16 : Int32) (vss.set (n + (1 : Int32)).toNatClampNeg (.long (S + ((x3 - x2).toInt64)))) (.long (0 : Int64)) := V33
    have f34 := f21.other W33 (Or.inl p_16)
    have f35 := f22.other W33 (Or.inl p_16)
    have f36 := f23.other W33 (Or.inl p_16)
    have f37 := f24.other W33 (Or.inl p_16)
    have f38 := f25.wr W33
    have f39 := f27.other W33 p_19
    have f40 := f28.other W33 p_21
    have f41 := V20.other W33 nz9_stt
    have K42 : Keep h0 h33 [x0, ch, by_, stt] := K29.wr W33 (Or.inl (List.mem_of_getElem? (i := 3) rfl))
    have Z43 : n0 ≤ h33.size := Nat.le_trans Z30 (Keep.of_wr W33).1
    have N44 := Fr.snoc X33 N20 p_8
    refine own_step (st' := T33.setTop (mkF m 177 #[.val (.ref x0), .val (.ref x1), .val (.int x2), .val (.int x3), .val (.long (S + ((x3 - x2).toInt64))), .second, .val (.int (x2 + (x3 - x2))), .val (.int ((S &&& (65535 : Int64)).toInt32)), .val (.int (x3 - x2)), .val (.ref bz_9)] [])) st33 ?_
    refine own_step (st' := T33.setTop (mkF m 178 #[.val (.ref x0), .val (.ref x1), .val (.int x2), .val (.int x3), .val (.long (S + ((x3 - x2).toInt64))), .second, .val (.int (x2 + (x3 - x2))), .val (.int ((S &&& (65535 : Int64)).toInt32)), .val (.int (x3 - x2)), .val (.ref bz_9)] [(.ref x0)])) (fun t k => XS.aloadN X33.here hx rfl (hb hby d3_177) rfl rfl k) ?_
    refine own_step (st' := T33.setTop (mkF m 179 #[.val (.ref x0), .val (.ref x1), .val (.int x2), .val (.int x3), .val (.long (S + ((x3 - x2).toInt64))), .second, .val (.int (x2 + (x3 - x2))), .val (.int ((S &&& (65535 : Int64)).toInt32)), .val (.int (x3 - x2)), .val (.ref bz_9)] [(.ref x0), (.ref x0)])) (fun t k => XS.dup X33.here hx rfl (hb hby d3_178) rfl rfl k) ?_
    obtain ⟨T45, X45, e45, st45⟩ := getF X33 hx hZ hown (host := "") (Or.inl (hw _ (List.mem_of_getElem? (i := 25) rfl))) Via.refl e33 f34 (g := (mkF m 179 #[.val (.ref x0), .val (.ref x1), .val (.int x2), .val (.int x3), .val (.long (S + ((x3 - x2).toInt64))), .second, .val (.int (x2 + (x3 - x2))), .val (.int ((S &&& (65535 : Int64)).toInt32)), .val (.int (x3 - x2)), .val (.ref bz_9)] [(.ref x0), (.ref x0)])) rfl rfl (hb hby d3_179)
    refine own_step (st' := T45.setTop (mkF m 182 #[.val (.ref x0), .val (.ref x1), .val (.int x2), .val (.int x3), .val (.long (S + ((x3 - x2).toInt64))), .second, .val (.int (x2 + (x3 - x2))), .val (.int ((S &&& (65535 : Int64)).toInt32)), .val (.int (x3 - x2)), .val (.ref bz_9)] [(.int n), (.ref x0)])) st45 ?_
    refine own_step (st' := T45.setTop (mkF m 183 #[.val (.ref x0), .val (.ref x1), .val (.int x2), .val (.int x3), .val (.long (S + ((x3 - x2).toInt64))), .second, .val (.int (x2 + (x3 - x2))), .val (.int ((S &&& (65535 : Int64)).toInt32)), .val (.int (x3 - x2)), .val (.ref bz_9)] [(.int (1 : Int32)), (.int n), (.ref x0)])) (fun t k => XS.iconst X45.here hx rfl (hb hby d3_182) k) ?_
    refine own_step (st' := T45.setTop (mkF m 184 #[.val (.ref x0), .val (.ref x1), .val (.int x2), .val (.int x3), .val (.long (S + ((x3 - x2).toInt64))), .second, .val (.int (x2 + (x3 - x2))), .val (.int ((S &&& (65535 : Int64)).toInt32)), .val (.int (x3 - x2)), .val (.ref bz_9)] [(.int (n + (1 : Int32))), (.ref x0)])) (fun t k => XS.iadd X45.here hx rfl (hb hby d3_183) rfl k) ?_
    obtain ⟨T46, h46, X46, e46, W46, st46⟩ := putF X45 hx hZ hown (host := "") (Or.inl (hw _ (List.mem_of_getElem? (i := 25) rfl))) Via.refl e45 f34 f38 (Or.inl (hw _ (List.mem_of_getElem? (i := 26) rfl))) (hw _ (List.mem_of_getElem? (i := 2) rfl)) (ty := .int) (by decide) rfl rfl (g := (mkF m 184 #[.val (.ref x0), .val (.ref x1), .val (.int x2), .val (.int x3), .val (.long (S + ((x3 - x2).toInt64))), .second, .val (.int (x2 + (x3 - x2))), .val (.int ((S &&& (65535 : Int64)).toInt32)), .val (.int (x3 - x2)), .val (.ref bz_9)] [(.int (n + (1 : Int32))), (.ref x0)])) rfl rfl (hb hby d3_184)
    have F46 := f34.same W46
    have f47 := f35.other W46 (Or.inr (slot_ne (Or.inr (hw _ (List.mem_of_getElem? (i := 19) rfl))) (Or.inl (hw _ (List.mem_of_getElem? (i := 26) rfl))) (by decide) (t := .int) (t' := .int) (by decide) (by decide)))
    have f48 := f36.other W46 (Or.inr (slot_ne (Or.inl (hw _ (List.mem_of_getElem? (i := 14) rfl))) (Or.inl (hw _ (List.mem_of_getElem? (i := 26) rfl))) (by decide) (t := (.array (.array .byte))) (t' := .int) (by decide) (by decide)))
    have f49 := f37.other W46 (Or.inr (slot_ne (Or.inl (hw _ (List.mem_of_getElem? (i := 17) rfl))) (Or.inl (hw _ (List.mem_of_getElem? (i := 26) rfl))) (by decide) (t := (.array .long)) (t' := .int) (by decide) (by decide)))
    have f50 := f38.wr W46
    have f51 := f39.other W46 (Ne.symm p_13)
    have f52 := f40.other W46 (Ne.symm p_14)
    have f53 := f41.other W46 nz9_x0
    have f54 := V33.other W46 (Ne.symm p_16)
    have K55 : Keep h0 h46 [x0, ch, by_, stt] := K42.wr W46 (Or.inl (List.mem_of_getElem? (i := 0) rfl))
    have Z56 : n0 ≤ h46.size := Nat.le_trans Z43 (Keep.of_wr W46).1
    have N57 := Fr.snoc X46 N44 p_5
    refine own_step (st' := T46.setTop (mkF m 187 #[.val (.ref x0), .val (.ref x1), .val (.int x2), .val (.int x3), .val (.long (S + ((x3 - x2).toInt64))), .second, .val (.int (x2 + (x3 - x2))), .val (.int ((S &&& (65535 : Int64)).toInt32)), .val (.int (x3 - x2)), .val (.ref bz_9)] [])) st46 ?_
    refine own_ret X46 Bd.notSynchronized (none) (fun _ => rfl) (fun fs hr => X46.returnOut hx Bd.returns (hb hby d3_187) hr) ?_ (by decide) (by decide)
    rw [e46]
    exact ⟨bz_9, kz_9, nz_9, vd20, dz_9, rfl, N57, K55, pq9_2, nz9_x0, nz9_x1, nz9_ch, nz9_stt, (by have := pq9_1; rw [own_add (x := (S &&& (65535 : Int64)).toInt32) (y := x3 - x2) ⟨by omega, by omega⟩ ⟨by omega, by omega⟩] at this; omega), F46, f47, f48, f49, f52, f53, f54⟩
  · refine own_step (st' := T6.setTop (mkF m 164 #[.val (.ref x0), .val (.ref x1), .val (.int x2), .val (.int x3), .val (.long S), .second, .val (.int x2), .unset, .unset, .unset] [])) (fun t k => XS.icmpYes X6.here hx rfl (pc0 := 91) (pc' := 164) rfl (hb hby d3_91) rfl (flt hc7).2.1 (by decide) (by decide) k) ?_
    refine own_step (st' := T6.setTop (mkF m 165 #[.val (.ref x0), .val (.ref x1), .val (.int x2), .val (.int x3), .val (.long S), .second, .val (.int x2), .unset, .unset, .unset] [(.ref x0)])) (fun t k => XS.aloadN X6.here hx rfl (hb hby d3_164) rfl rfl k) ?_
    obtain ⟨T58, X58, e58, st58⟩ := getF X6 hx hZ hown (host := "") (Or.inl (hw _ (List.mem_of_getElem? (i := 16) rfl))) Via.refl e6 p_3 (g := (mkF m 165 #[.val (.ref x0), .val (.ref x1), .val (.int x2), .val (.int x3), .val (.long S), .second, .val (.int x2), .unset, .unset, .unset] [(.ref x0)])) rfl rfl (hb hby d3_165)
    refine own_step (st' := T58.setTop (mkF m 168 #[.val (.ref x0), .val (.ref x1), .val (.int x2), .val (.int x3), .val (.long S), .second, .val (.int x2), .unset, .unset, .unset] [(.ref stt)])) st58 ?_
    refine own_step (st' := T58.setTop (mkF m 169 #[.val (.ref x0), .val (.ref x1), .val (.int x2), .val (.int x3), .val (.long S), .second, .val (.int x2), .unset, .unset, .unset] [(.ref x0), (.ref stt)])) (fun t k => XS.aloadN X58.here hx rfl (hb hby d3_168) rfl rfl k) ?_
    obtain ⟨T59, X59, e59, st59⟩ := getF X58 hx hZ hown (host := "") (Or.inl (hw _ (List.mem_of_getElem? (i := 25) rfl))) Via.refl e58 p_0 (g := (mkF m 169 #[.val (.ref x0), .val (.ref x1), .val (.int x2), .val (.int x3), .val (.long S), .second, .val (.int x2), .unset, .unset, .unset] [(.ref x0), (.ref stt)])) rfl rfl (hb hby d3_169)
    refine own_step (st' := T59.setTop (mkF m 172 #[.val (.ref x0), .val (.ref x1), .val (.int x2), .val (.int x3), .val (.long S), .second, .val (.int x2), .unset, .unset, .unset] [(.int n), (.ref stt)])) st59 ?_
    refine own_step (st' := T59.setTop (mkF m 173 #[.val (.ref x0), .val (.ref x1), .val (.int x2), .val (.int x3), .val (.long S), .second, .val (.int x2), .unset, .unset, .unset] [(.int (1 : Int32)), (.int n), (.ref stt)])) (fun t k => XS.iconst X59.here hx rfl (hb hby d3_172) k) ?_
    refine own_step (st' := T59.setTop (mkF m 174 #[.val (.ref x0), .val (.ref x1), .val (.int x2), .val (.int x3), .val (.long S), .second, .val (.int x2), .unset, .unset, .unset] [(.int (n + (1 : Int32))), (.ref stt)])) (fun t k => XS.iadd X59.here hx rfl (hb hby d3_173) rfl k) ?_
    refine own_step (st' := T59.setTop (mkF m 176 #[.val (.ref x0), .val (.ref x1), .val (.int x2), .val (.int x3), .val (.long S), .second, .val (.int x2), .unset, .unset, .unset] [(.long S), (.int (n + (1 : Int32))), (.ref stt)])) (fun t k => XS.lload X59.here hx rfl (hb hby d3_174) rfl k) ?_
    obtain ⟨T60, h60, X60, e60, W60, V60, st60⟩ := own_stJ X59 hx hZ e59 p_11 (j := (n + (1 : Int32))) (i := (n + (1 : Int32)).toNatClampNeg) (own_in (by omega) (by rw [h16]; omega)) rfl (by have := nat_of (own_ofNeg (x := n + 1) (by omega)); rw [p_26]; omega) (g := (mkF m 176 #[.val (.ref x0), .val (.ref x1), .val (.int x2), .val (.int x3), .val (.long S), .second, .val (.int x2), .unset, .unset, .unset] [(.long S), (.int (n + (1 : Int32))), (.ref stt)])) rfl rfl (hb hby d3_176)
    have V60 : Arv Z h60 stt ks .long (16 : Int32) (vss.set (n + (1 : Int32)).toNatClampNeg (.long S)) (.long (0 : Int64)) := V60
    have f61 := p_0.other W60 (Or.inl p_16)
    have f62 := p_1.other W60 (Or.inl p_16)
    have f63 := p_2.other W60 (Or.inl p_16)
    have f64 := p_3.other W60 (Or.inl p_16)
    have f65 := p_4.wr W60
    have f66 := p_9.other W60 p_21
    have f67 := p_10.other W60 p_22
    have f68 := p_12.other W60 p_19
    have K69 : Keep h0 h60 [x0, ch, by_, stt] := (Keep.refl h0 [x0, ch, by_, stt]).wr W60 (Or.inl (List.mem_of_getElem? (i := 3) rfl))
    have Z70 : n0 ≤ h60.size := Nat.le_trans Z0 (Keep.of_wr W60).1
    have N71 := Fr.snoc X60 N0 p_8
    refine own_step (st' := T60.setTop (mkF m 177 #[.val (.ref x0), .val (.ref x1), .val (.int x2), .val (.int x3), .val (.long S), .second, .val (.int x2), .unset, .unset, .unset] [])) st60 ?_
    refine own_step (st' := T60.setTop (mkF m 178 #[.val (.ref x0), .val (.ref x1), .val (.int x2), .val (.int x3), .val (.long S), .second, .val (.int x2), .unset, .unset, .unset] [(.ref x0)])) (fun t k => XS.aloadN X60.here hx rfl (hb hby d3_177) rfl rfl k) ?_
    refine own_step (st' := T60.setTop (mkF m 179 #[.val (.ref x0), .val (.ref x1), .val (.int x2), .val (.int x3), .val (.long S), .second, .val (.int x2), .unset, .unset, .unset] [(.ref x0), (.ref x0)])) (fun t k => XS.dup X60.here hx rfl (hb hby d3_178) rfl rfl k) ?_
    obtain ⟨T72, X72, e72, st72⟩ := getF X60 hx hZ hown (host := "") (Or.inl (hw _ (List.mem_of_getElem? (i := 25) rfl))) Via.refl e60 f61 (g := (mkF m 179 #[.val (.ref x0), .val (.ref x1), .val (.int x2), .val (.int x3), .val (.long S), .second, .val (.int x2), .unset, .unset, .unset] [(.ref x0), (.ref x0)])) rfl rfl (hb hby d3_179)
    refine own_step (st' := T72.setTop (mkF m 182 #[.val (.ref x0), .val (.ref x1), .val (.int x2), .val (.int x3), .val (.long S), .second, .val (.int x2), .unset, .unset, .unset] [(.int n), (.ref x0)])) st72 ?_
    refine own_step (st' := T72.setTop (mkF m 183 #[.val (.ref x0), .val (.ref x1), .val (.int x2), .val (.int x3), .val (.long S), .second, .val (.int x2), .unset, .unset, .unset] [(.int (1 : Int32)), (.int n), (.ref x0)])) (fun t k => XS.iconst X72.here hx rfl (hb hby d3_182) k) ?_
    refine own_step (st' := T72.setTop (mkF m 184 #[.val (.ref x0), .val (.ref x1), .val (.int x2), .val (.int x3), .val (.long S), .second, .val (.int x2), .unset, .unset, .unset] [(.int (n + (1 : Int32))), (.ref x0)])) (fun t k => XS.iadd X72.here hx rfl (hb hby d3_183) rfl k) ?_
    obtain ⟨T73, h73, X73, e73, W73, st73⟩ := putF X72 hx hZ hown (host := "") (Or.inl (hw _ (List.mem_of_getElem? (i := 25) rfl))) Via.refl e72 f61 f65 (Or.inl (hw _ (List.mem_of_getElem? (i := 26) rfl))) (hw _ (List.mem_of_getElem? (i := 2) rfl)) (ty := .int) (by decide) rfl rfl (g := (mkF m 184 #[.val (.ref x0), .val (.ref x1), .val (.int x2), .val (.int x3), .val (.long S), .second, .val (.int x2), .unset, .unset, .unset] [(.int (n + (1 : Int32))), (.ref x0)])) rfl rfl (hb hby d3_184)
    have F73 := f61.same W73
    have f74 := f62.other W73 (Or.inr (slot_ne (Or.inr (hw _ (List.mem_of_getElem? (i := 19) rfl))) (Or.inl (hw _ (List.mem_of_getElem? (i := 26) rfl))) (by decide) (t := .int) (t' := .int) (by decide) (by decide)))
    have f75 := f63.other W73 (Or.inr (slot_ne (Or.inl (hw _ (List.mem_of_getElem? (i := 14) rfl))) (Or.inl (hw _ (List.mem_of_getElem? (i := 26) rfl))) (by decide) (t := (.array (.array .byte))) (t' := .int) (by decide) (by decide)))
    have f76 := f64.other W73 (Or.inr (slot_ne (Or.inl (hw _ (List.mem_of_getElem? (i := 17) rfl))) (Or.inl (hw _ (List.mem_of_getElem? (i := 26) rfl))) (by decide) (t := (.array .long)) (t' := .int) (by decide) (by decide)))
    have f77 := f65.wr W73
    have f78 := f66.other W73 (Ne.symm p_14)
    have f79 := f67.other W73 (Ne.symm p_15)
    have f80 := f68.other W73 (Ne.symm p_13)
    have f81 := V60.other W73 (Ne.symm p_16)
    have K82 : Keep h0 h73 [x0, ch, by_, stt] := K69.wr W73 (Or.inl (List.mem_of_getElem? (i := 0) rfl))
    have Z83 : n0 ≤ h73.size := Nat.le_trans Z70 (Keep.of_wr W73).1
    have N84 := Fr.snoc X73 N71 p_5
    refine own_step (st' := T73.setTop (mkF m 187 #[.val (.ref x0), .val (.ref x1), .val (.int x2), .val (.int x3), .val (.long S), .second, .val (.int x2), .unset, .unset, .unset] [])) st73 ?_
    refine own_ret X73 Bd.notSynchronized (none) (fun _ => rfl) (fun fs hr => X73.returnOut hx Bd.returns (hb hby d3_187) hr) ?_ (by decide) (by decide)
    rw [e73]
    have hSS : S = S + (x3 - x2).toInt64 := own_ext ⟨by omega, by omega⟩ hc7 S
    exact ⟨by_, kb, nb, vb, db, rfl, N84, K82, p_7, (Ne.symm p_15), (Ne.symm p_18), (Ne.symm p_20), p_22, (by omega), F73, f74, f75, f76, f78, f79, (by have q := f81; rw [hSS] at q; exact q)⟩
theorem d6_0 : decode prog_23_method_7_code 0 = .ok (.aload_n 0, 1) := by decide +kernel
theorem d6_1 : decode prog_23_method_7_code 1 = .ok (.getfield 15, 3) := by decide +kernel
theorem d6_4 : decode prog_23_method_7_code 4 = .ok (.iload_n 1, 1) := by decide +kernel
theorem d6_5 : decode prog_23_method_7_code 5 = .ok (.iconst 1, 1) := by decide +kernel
theorem d6_6 : decode prog_23_method_7_code 6 = .ok (.iadd, 1) := by decide +kernel
theorem d6_7 : decode prog_23_method_7_code 7 = .ok (.laload, 1) := by decide +kernel
theorem d6_8 : decode prog_23_method_7_code 8 = .ok (.aload_n 0, 1) := by decide +kernel
theorem d6_9 : decode prog_23_method_7_code 9 = .ok (.getfield 15, 3) := by decide +kernel
theorem d6_12 : decode prog_23_method_7_code 12 = .ok (.iload_n 1, 1) := by decide +kernel
theorem d6_13 : decode prog_23_method_7_code 13 = .ok (.laload, 1) := by decide +kernel
theorem d6_14 : decode prog_23_method_7_code 14 = .ok (.lsub, 1) := by decide +kernel
theorem d6_15 : decode prog_23_method_7_code 15 = .ok (.l2i, 1) := by decide +kernel
theorem d6_16 : decode prog_23_method_7_code 16 = .ok (.ireturn, 1) := by decide +kernel
theorem ef_6_RI (m : MethodId) (x0 : Addr) (x1 : Int32) : entryFrame m #[(.ref x0), (.int x1)] 2 = mkF m 0 #[.val (.ref x0), .val (.int x1)] [] := by first | (simp [entryFrame, mkF, argsToLocals, Value.category]; done) | rfl
def Q_rm6 (Z : State) (x0 : Addr) (x1 : Int32) (stt : Addr) (ks : ClassId) (vss : List Value) (A : Int64) (B : Int64) (h0 : Heap) (n0 : Nat) (v : Option Value) (h : Heap) (L : List Loc) : Prop := v = some (.int ((A - B).toInt32)) ∧ Fr n0 L ∧ h = h0
set_option maxRecDepth 65536 in
set_option maxHeartbeats 40000000 in
theorem rm6 (l : Launch) (Z : State) (a0 : Array Value) (hw : ∀ d ∈ tables_1, d.before a0 Z = true) (ws : List Jvm.Cond) (x0 : Addr) (x1 : Int32) (stt : Addr) (ks : ClassId) (vss : List Value) (A : Int64) (B : Int64) (h0 : Heap) (n0 : Nat) (Z0 : n0 ≤ h0.size) (p_0 : Fld Z h0 x0 "com/example/link_importance/linkimportance/graph/NameList" "starts" "[J" (.ref stt)) (p_1 : Arv Z h0 stt ks .long (16 : Int32) vss (.long (0 : Int64))) (p_2 : ¬ x1 < 0 ∧ x1 < (16 : Int32)) (p_3 : ¬ (x1 + (1 : Int32)) < 0 ∧ (x1 + (1 : Int32)) < (16 : Int32)) (p_4 : vss.getD (x1 + (1 : Int32)).toNatClampNeg (.long (0 : Int64)) = .long A) (p_5 : vss.getD x1.toNatClampNeg (.long (0 : Int64)) = .long B) :
    MetFree l (⟨"com/example/link_importance/linkimportance/graph/NameList", "length", "(I)I"⟩ : MethodName) (head1 (Jvm.Cond.code (⟨"com/example/link_importance/linkimportance/graph/NameList", "length", "(I)I"⟩ : MethodName) prog_23_method_7_code 2 (some .int) :: ws) ({ frames := 0, cells := 0, slots := 0, locals := 0 } : Room)) (fun a U => a = #[(.ref x0), (.int x1)] ∧ Z.Warmed39 U.vm ∧ U.heap = h0) (fun _ _ _ _ _ => True) (fun _ U o U' => ∃ v L, o = .returned v ∧ Q_rm6 Z x0 x1 stt ks vss A B h0 n0 v U'.heap L ∧ FrameEnd U o U' L ({ frames := 0, cells := 0, slots := 0, locals := 0 } : Room).cells ({ frames := 0, cells := 0, slots := 0, locals := 0 } : Room).slots) := by
  refine MetFree.of_bodySF (plainFor_of_name pn_0) hisR ?_
  intro p e s m args below meth c s₁ Bd hml0 hP hK
  obtain ⟨rfl, hZ, hh⟩ := hP
  have hx := Bd.exec
  have hby := Bd.bytes
  have hml : c.maxLocals = 2 := hml0
  have hown : s.vm.findClass "com/example/link_importance/linkimportance/graph/NameList" = some m.cls := findClass_of_methodNamed Bd.named
  have hnm := (name_of_methodNamed Bd.named Bd.method).1
  have X0 : Stand p l e ({ frames := 0, cells := 0, slots := 0, locals := 0 } : Room) s m #[(.ref x0), (.int x1)] below meth c s₁ [] 0 0 := Stand.of_body Bd
  have e0 : s₁.heap = h0 := by rw [← hh, Bd.state]; rfl
  have N0 := Fr.nil n0
  show own_Ends p e below s ({ frames := 0, cells := 0, slots := 0, locals := 0 } : Room).cells ({ frames := 0, cells := 0, slots := 0, locals := 0 } : Room).slots (Q_rm6 Z x0 x1 stt ks vss A B h0 n0) (s₁.setTop (entryFrame m #[(.ref x0), (.int x1)] 2))
  rw [ef_6_RI]
  refine own_step (st' := s₁.setTop (mkF m 1 #[.val (.ref x0), .val (.int x1)] [(.ref x0)])) (fun t k => XS.aloadN X0.here hx rfl (hb hby d6_0) rfl rfl k) ?_
  obtain ⟨T1, X1, e1, st1⟩ := getF X0 hx hZ hown (host := "") (Or.inl (hw _ (List.mem_of_getElem? (i := 16) rfl))) Via.refl e0 p_0 (g := (mkF m 1 #[.val (.ref x0), .val (.int x1)] [(.ref x0)])) rfl rfl (hb hby d6_1)
  refine own_step (st' := T1.setTop (mkF m 4 #[.val (.ref x0), .val (.int x1)] [(.ref stt)])) st1 ?_
  refine own_step (st' := T1.setTop (mkF m 5 #[.val (.ref x0), .val (.int x1)] [(.int x1), (.ref stt)])) (fun t k => XS.iloadN X1.here hx rfl (hb hby d6_4) rfl k) ?_
  refine own_step (st' := T1.setTop (mkF m 6 #[.val (.ref x0), .val (.int x1)] [(.int (1 : Int32)), (.int x1), (.ref stt)])) (fun t k => XS.iconst X1.here hx rfl (hb hby d6_5) k) ?_
  refine own_step (st' := T1.setTop (mkF m 7 #[.val (.ref x0), .val (.int x1)] [(.int (x1 + (1 : Int32))), (.ref stt)])) (fun t k => XS.iadd X1.here hx rfl (hb hby d6_6) rfl k) ?_
  refine own_step (st' := T1.setTop (mkF m 8 #[.val (.ref x0), .val (.int x1)] [(.long A)])) (fun t k => own_ldJ X1 hx hZ e1 p_1 (j := (x1 + (1 : Int32))) (v := (.long A)) p_3 p_4 (g := (mkF m 7 #[.val (.ref x0), .val (.int x1)] [(.int (x1 + (1 : Int32))), (.ref stt)])) rfl rfl (hb hby d6_7) t k) ?_
  refine own_step (st' := T1.setTop (mkF m 9 #[.val (.ref x0), .val (.int x1)] [(.ref x0), (.long A)])) (fun t k => XS.aloadN X1.here hx rfl (hb hby d6_8) rfl rfl k) ?_
  obtain ⟨T2, X2, e2, st2⟩ := getF X1 hx hZ hown (host := "") (Or.inl (hw _ (List.mem_of_getElem? (i := 16) rfl))) Via.refl e1 p_0 (g := (mkF m 9 #[.val (.ref x0), .val (.int x1)] [(.ref x0), (.long A)])) rfl rfl (hb hby d6_9)
  refine own_step (st' := T2.setTop (mkF m 12 #[.val (.ref x0), .val (.int x1)] [(.ref stt), (.long A)])) st2 ?_
  refine own_step (st' := T2.setTop (mkF m 13 #[.val (.ref x0), .val (.int x1)] [(.int x1), (.ref stt), (.long A)])) (fun t k => XS.iloadN X2.here hx rfl (hb hby d6_12) rfl k) ?_
  refine own_step (st' := T2.setTop (mkF m 14 #[.val (.ref x0), .val (.int x1)] [(.long B), (.long A)])) (fun t k => own_ldJ X2 hx hZ e2 p_1 (j := x1) (v := (.long B)) p_2 p_5 (g := (mkF m 13 #[.val (.ref x0), .val (.int x1)] [(.int x1), (.ref stt), (.long A)])) rfl rfl (hb hby d6_13) t k) ?_
  refine own_step (st' := T2.setTop (mkF m 15 #[.val (.ref x0), .val (.int x1)] [(.long (A - B))])) (fun t k => XS.lsub X2.here hx rfl (hb hby d6_14) rfl k) ?_
  refine own_step (st' := T2.setTop (mkF m 16 #[.val (.ref x0), .val (.int x1)] [(.int ((A - B).toInt32))])) (fun t k => XS.l2i X2.here hx rfl (hb hby d6_15) rfl k) ?_
  refine own_ret X2 Bd.notSynchronized (some (.int ((A - B).toInt32))) (fun h => by rw [Bd.returns] at h; cases h) (fun fs hr => own_retI X2 hx Bd.returns (hb hby d6_16) hr) ?_ (by decide) (by decide)
  rw [e2]
  exact ⟨rfl, N0, rfl⟩
theorem pn_1 : plainName "com/example/link_importance/linkimportance/graph/NameListLengthPinLaw" = true := by first | (simp [plainName, overriddenIn]; done) | decide +kernel
theorem ef_0_III (m : MethodId) (x0 : Int32) (x1 : Int32) (x2 : Int32) : entryFrame m #[(.int x0), (.int x1), (.int x2)] maxLocals = mkF m 0 #[.val (.int x0), .val (.int x1), .val (.int x2), .unset, .unset, .unset, .unset, .unset, .unset, .unset, .unset] [] := by first | (simp [entryFrame, mkF, argsToLocals, Value.category, maxLocals]; done) | rfl
def Q_rm0 (Z : State) (x0 : Int32) (x1 : Int32) (x2 : Int32) (h0 : Heap) (n0 : Nat) (v : Option Value) (h : Heap) (L : List Loc) : Prop := v = some (.int (1 : Int32)) ∧ Fr n0 L
set_option maxRecDepth 65536 in
set_option maxHeartbeats 40000000 in
theorem rm0 (l : Launch) (Z : State) (a0 : Array Value) (hw : ∀ d ∈ tables_1, d.before a0 Z = true) (ws : List Jvm.Cond) (x0 : Int32) (x1 : Int32) (x2 : Int32) (h0 : Heap) (n0 : Nat) (Z0 : n0 ≤ h0.size) :
    MetFree l x (head1 (Jvm.Cond.code x code maxLocals ret :: ws) room_1) (fun a U => a = #[(.int x0), (.int x1), (.int x2)] ∧ Z.Warmed39 U.vm ∧ U.heap = h0) (fun _ _ _ _ _ => True) (fun _ U o U' => ∃ v L, o = .returned v ∧ Q_rm0 Z x0 x1 x2 h0 n0 v U'.heap L ∧ FrameEnd U o U' L room_1.cells room_1.slots) := by
  refine MetFree.of_bodySF (plainFor_of_name pn_1) hisR ?_
  intro p e s m args below meth c s₁ Bd hml0 hP hK
  obtain ⟨rfl, hZ, hh⟩ := hP
  have hx := Bd.exec
  have hby := Bd.bytes
  have hml : c.maxLocals = 11 := hml0
  have hown : s.vm.findClass "com/example/link_importance/linkimportance/graph/NameListLengthPinLaw" = some m.cls := findClass_of_methodNamed Bd.named
  have hnm := (name_of_methodNamed Bd.named Bd.method).1
  have X0 : Stand p l e room_1 s m #[(.int x0), (.int x1), (.int x2)] below meth c s₁ [] 0 0 := Stand.of_body Bd
  have e0 : s₁.heap = h0 := by rw [← hh, Bd.state]; rfl
  have N0 := Fr.nil n0
  show own_Ends p e below s room_1.cells room_1.slots (Q_rm0 Z x0 x1 x2 h0 n0) (s₁.setTop (entryFrame m #[(.int x0), (.int x1), (.int x2)] maxLocals))
  rw [ef_0_III]
  refine own_step (st' := s₁.setTop (mkF m 1 #[.val (.int x0), .val (.int x1), .val (.int x2), .unset, .unset, .unset, .unset, .unset, .unset, .unset, .unset] [(.int x0)])) (fun t k => XS.iloadN X0.here hx rfl (hb hby at_0) rfl k) ?_
  refine own_step (st' := s₁.setTop (mkF m 3 #[.val (.int x0), .val (.int x1), .val (.int x2), .unset, .unset, .unset, .unset, .unset, .unset, .unset, .unset] [(.int (10 : Int32)), (.int x0)])) (fun t k => XS.bipush X0.here hx rfl (hb hby at_1) k) ?_
  refine own_step (st' := s₁.setTop (mkF m 4 #[.val (.int x0), .val (.int x1), .val (.int x2), .unset, .unset, .unset, .unset, .unset, .unset, .unset, .unset] [(.int ((x0.toUInt32 >>> ((10 : Int32) &&& 31).toUInt32).toInt32))])) (fun t k => XS.iushr X0.here hx rfl (hb hby at_3) rfl k) ?_
  refine own_step (st' := s₁.setTop (mkF m 7 #[.val (.int x0), .val (.int x1), .val (.int x2), .unset, .unset, .unset, .unset, .unset, .unset, .unset, .unset] [(.int (1023 : Int32)), (.int ((x0.toUInt32 >>> ((10 : Int32) &&& 31).toUInt32).toInt32))])) (fun t k => XS.sipush X0.here hx rfl (hb hby at_4) k) ?_
  refine own_step (st' := s₁.setTop (mkF m 8 #[.val (.int x0), .val (.int x1), .val (.int x2), .unset, .unset, .unset, .unset, .unset, .unset, .unset, .unset] [(.int (((x0.toUInt32 >>> ((10 : Int32) &&& 31).toUInt32).toInt32) &&& (1023 : Int32)))])) (fun t k => XS.iand X0.here hx rfl (hb hby at_7) rfl k) ?_
  obtain ⟨f0, e_f0⟩ : ∃ z : Int32, z = (((x0.toUInt32 >>> ((10 : Int32) &&& 31).toUInt32).toInt32) &&& (1023 : Int32)) := ⟨_, rfl⟩
  rw [← e_f0]
  refine own_step (st' := s₁.setTop (mkF m 9 #[.val (.int x0), .val (.int x1), .val (.int x2), .val (.int f0), .unset, .unset, .unset, .unset, .unset, .unset, .unset] [])) (fun t k => XS.istoreN X0.here hx rfl (hb hby at_8) rfl (l' := #[.val (.int x0), .val (.int x1), .val (.int x2), .val (.int f0), .unset, .unset, .unset, .unset, .unset, .unset, .unset]) rfl k) ?_
  refine own_step (st' := s₁.setTop (mkF m 10 #[.val (.int x0), .val (.int x1), .val (.int x2), .val (.int f0), .unset, .unset, .unset, .unset, .unset, .unset, .unset] [(.int x0)])) (fun t k => XS.iloadN X0.here hx rfl (hb hby at_9) rfl k) ?_
  refine own_step (st' := s₁.setTop (mkF m 13 #[.val (.int x0), .val (.int x1), .val (.int x2), .val (.int f0), .unset, .unset, .unset, .unset, .unset, .unset, .unset] [(.int (1023 : Int32)), (.int x0)])) (fun t k => XS.sipush X0.here hx rfl (hb hby at_10) k) ?_
  refine own_step (st' := s₁.setTop (mkF m 14 #[.val (.int x0), .val (.int x1), .val (.int x2), .val (.int f0), .unset, .unset, .unset, .unset, .unset, .unset, .unset] [(.int (x0 &&& (1023 : Int32)))])) (fun t k => XS.iand X0.here hx rfl (hb hby at_13) rfl k) ?_
  obtain ⟨l0, e_l0⟩ : ∃ z : Int32, z = (x0 &&& (1023 : Int32)) := ⟨_, rfl⟩
  rw [← e_l0]
  have hb0 : (0 ≤ f0.toInt ∧ f0.toInt ≤ 1023) ∧ 0 ≤ l0.toInt ∧ l0.toInt ≤ 1023 := by rw [e_f0, e_l0]; exact own_bounds x0
  have ha0 := own_add (x := f0) (y := l0) ⟨by omega, by omega⟩ ⟨by omega, by omega⟩
  have hS0 : 0 ≤ (0 : Int64).toInt ∧ (0 : Int64).toInt ≤ 0 := by decide
  have hS1 := own_grow (B := 0) (by decide) hS0 hb0.1 hb0.2
  have hS1 : 0 ≤ ((0 : Int64) + ((f0 + l0) - f0).toInt64).toInt ∧ ((0 : Int64) + ((f0 + l0) - f0).toInt64).toInt ≤ 1023 := hS1
  refine own_step (st' := s₁.setTop (mkF m 16 #[.val (.int x0), .val (.int x1), .val (.int x2), .val (.int f0), .val (.int l0), .unset, .unset, .unset, .unset, .unset, .unset] [])) (fun t k => XS.istore X0.here hx rfl (hb hby at_14) rfl (l' := #[.val (.int x0), .val (.int x1), .val (.int x2), .val (.int f0), .val (.int l0), .unset, .unset, .unset, .unset, .unset, .unset]) rfl k) ?_
  refine own_step (st' := s₁.setTop (mkF m 17 #[.val (.int x0), .val (.int x1), .val (.int x2), .val (.int f0), .val (.int l0), .unset, .unset, .unset, .unset, .unset, .unset] [(.int x1)])) (fun t k => XS.iloadN X0.here hx rfl (hb hby at_16) rfl k) ?_
  refine own_step (st' := s₁.setTop (mkF m 19 #[.val (.int x0), .val (.int x1), .val (.int x2), .val (.int f0), .val (.int l0), .unset, .unset, .unset, .unset, .unset, .unset] [(.int (10 : Int32)), (.int x1)])) (fun t k => XS.bipush X0.here hx rfl (hb hby at_17) k) ?_
  refine own_step (st' := s₁.setTop (mkF m 20 #[.val (.int x0), .val (.int x1), .val (.int x2), .val (.int f0), .val (.int l0), .unset, .unset, .unset, .unset, .unset, .unset] [(.int ((x1.toUInt32 >>> ((10 : Int32) &&& 31).toUInt32).toInt32))])) (fun t k => XS.iushr X0.here hx rfl (hb hby at_19) rfl k) ?_
  refine own_step (st' := s₁.setTop (mkF m 23 #[.val (.int x0), .val (.int x1), .val (.int x2), .val (.int f0), .val (.int l0), .unset, .unset, .unset, .unset, .unset, .unset] [(.int (1023 : Int32)), (.int ((x1.toUInt32 >>> ((10 : Int32) &&& 31).toUInt32).toInt32))])) (fun t k => XS.sipush X0.here hx rfl (hb hby at_20) k) ?_
  refine own_step (st' := s₁.setTop (mkF m 24 #[.val (.int x0), .val (.int x1), .val (.int x2), .val (.int f0), .val (.int l0), .unset, .unset, .unset, .unset, .unset, .unset] [(.int (((x1.toUInt32 >>> ((10 : Int32) &&& 31).toUInt32).toInt32) &&& (1023 : Int32)))])) (fun t k => XS.iand X0.here hx rfl (hb hby at_23) rfl k) ?_
  obtain ⟨f1, e_f1⟩ : ∃ z : Int32, z = (((x1.toUInt32 >>> ((10 : Int32) &&& 31).toUInt32).toInt32) &&& (1023 : Int32)) := ⟨_, rfl⟩
  rw [← e_f1]
  refine own_step (st' := s₁.setTop (mkF m 26 #[.val (.int x0), .val (.int x1), .val (.int x2), .val (.int f0), .val (.int l0), .val (.int f1), .unset, .unset, .unset, .unset, .unset] [])) (fun t k => XS.istore X0.here hx rfl (hb hby at_24) rfl (l' := #[.val (.int x0), .val (.int x1), .val (.int x2), .val (.int f0), .val (.int l0), .val (.int f1), .unset, .unset, .unset, .unset, .unset]) rfl k) ?_
  refine own_step (st' := s₁.setTop (mkF m 27 #[.val (.int x0), .val (.int x1), .val (.int x2), .val (.int f0), .val (.int l0), .val (.int f1), .unset, .unset, .unset, .unset, .unset] [(.int x1)])) (fun t k => XS.iloadN X0.here hx rfl (hb hby at_26) rfl k) ?_
  refine own_step (st' := s₁.setTop (mkF m 30 #[.val (.int x0), .val (.int x1), .val (.int x2), .val (.int f0), .val (.int l0), .val (.int f1), .unset, .unset, .unset, .unset, .unset] [(.int (1023 : Int32)), (.int x1)])) (fun t k => XS.sipush X0.here hx rfl (hb hby at_27) k) ?_
  refine own_step (st' := s₁.setTop (mkF m 31 #[.val (.int x0), .val (.int x1), .val (.int x2), .val (.int f0), .val (.int l0), .val (.int f1), .unset, .unset, .unset, .unset, .unset] [(.int (x1 &&& (1023 : Int32)))])) (fun t k => XS.iand X0.here hx rfl (hb hby at_30) rfl k) ?_
  obtain ⟨l1, e_l1⟩ : ∃ z : Int32, z = (x1 &&& (1023 : Int32)) := ⟨_, rfl⟩
  rw [← e_l1]
  have hb1 : (0 ≤ f1.toInt ∧ f1.toInt ≤ 1023) ∧ 0 ≤ l1.toInt ∧ l1.toInt ≤ 1023 := by rw [e_f1, e_l1]; exact own_bounds x1
  have ha1 := own_add (x := f1) (y := l1) ⟨by omega, by omega⟩ ⟨by omega, by omega⟩
  have hS2 := own_grow (B := 1023) (by decide) hS1 hb1.1 hb1.2
  have hS2 : 0 ≤ (((0 : Int64) + ((f0 + l0) - f0).toInt64) + ((f1 + l1) - f1).toInt64).toInt ∧ (((0 : Int64) + ((f0 + l0) - f0).toInt64) + ((f1 + l1) - f1).toInt64).toInt ≤ 2046 := hS2
  refine own_step (st' := s₁.setTop (mkF m 33 #[.val (.int x0), .val (.int x1), .val (.int x2), .val (.int f0), .val (.int l0), .val (.int f1), .val (.int l1), .unset, .unset, .unset, .unset] [])) (fun t k => XS.istore X0.here hx rfl (hb hby at_31) rfl (l' := #[.val (.int x0), .val (.int x1), .val (.int x2), .val (.int f0), .val (.int l0), .val (.int f1), .val (.int l1), .unset, .unset, .unset, .unset]) rfl k) ?_
  refine own_step (st' := s₁.setTop (mkF m 34 #[.val (.int x0), .val (.int x1), .val (.int x2), .val (.int f0), .val (.int l0), .val (.int f1), .val (.int l1), .unset, .unset, .unset, .unset] [(.int x2)])) (fun t k => XS.iloadN X0.here hx rfl (hb hby at_33) rfl k) ?_
  refine own_step (st' := s₁.setTop (mkF m 36 #[.val (.int x0), .val (.int x1), .val (.int x2), .val (.int f0), .val (.int l0), .val (.int f1), .val (.int l1), .unset, .unset, .unset, .unset] [(.int (10 : Int32)), (.int x2)])) (fun t k => XS.bipush X0.here hx rfl (hb hby at_34) k) ?_
  refine own_step (st' := s₁.setTop (mkF m 37 #[.val (.int x0), .val (.int x1), .val (.int x2), .val (.int f0), .val (.int l0), .val (.int f1), .val (.int l1), .unset, .unset, .unset, .unset] [(.int ((x2.toUInt32 >>> ((10 : Int32) &&& 31).toUInt32).toInt32))])) (fun t k => XS.iushr X0.here hx rfl (hb hby at_36) rfl k) ?_
  refine own_step (st' := s₁.setTop (mkF m 40 #[.val (.int x0), .val (.int x1), .val (.int x2), .val (.int f0), .val (.int l0), .val (.int f1), .val (.int l1), .unset, .unset, .unset, .unset] [(.int (1023 : Int32)), (.int ((x2.toUInt32 >>> ((10 : Int32) &&& 31).toUInt32).toInt32))])) (fun t k => XS.sipush X0.here hx rfl (hb hby at_37) k) ?_
  refine own_step (st' := s₁.setTop (mkF m 41 #[.val (.int x0), .val (.int x1), .val (.int x2), .val (.int f0), .val (.int l0), .val (.int f1), .val (.int l1), .unset, .unset, .unset, .unset] [(.int (((x2.toUInt32 >>> ((10 : Int32) &&& 31).toUInt32).toInt32) &&& (1023 : Int32)))])) (fun t k => XS.iand X0.here hx rfl (hb hby at_40) rfl k) ?_
  obtain ⟨f2, e_f2⟩ : ∃ z : Int32, z = (((x2.toUInt32 >>> ((10 : Int32) &&& 31).toUInt32).toInt32) &&& (1023 : Int32)) := ⟨_, rfl⟩
  rw [← e_f2]
  refine own_step (st' := s₁.setTop (mkF m 43 #[.val (.int x0), .val (.int x1), .val (.int x2), .val (.int f0), .val (.int l0), .val (.int f1), .val (.int l1), .val (.int f2), .unset, .unset, .unset] [])) (fun t k => XS.istore X0.here hx rfl (hb hby at_41) rfl (l' := #[.val (.int x0), .val (.int x1), .val (.int x2), .val (.int f0), .val (.int l0), .val (.int f1), .val (.int l1), .val (.int f2), .unset, .unset, .unset]) rfl k) ?_
  refine own_step (st' := s₁.setTop (mkF m 44 #[.val (.int x0), .val (.int x1), .val (.int x2), .val (.int f0), .val (.int l0), .val (.int f1), .val (.int l1), .val (.int f2), .unset, .unset, .unset] [(.int x2)])) (fun t k => XS.iloadN X0.here hx rfl (hb hby at_43) rfl k) ?_
  refine own_step (st' := s₁.setTop (mkF m 47 #[.val (.int x0), .val (.int x1), .val (.int x2), .val (.int f0), .val (.int l0), .val (.int f1), .val (.int l1), .val (.int f2), .unset, .unset, .unset] [(.int (1023 : Int32)), (.int x2)])) (fun t k => XS.sipush X0.here hx rfl (hb hby at_44) k) ?_
  refine own_step (st' := s₁.setTop (mkF m 48 #[.val (.int x0), .val (.int x1), .val (.int x2), .val (.int f0), .val (.int l0), .val (.int f1), .val (.int l1), .val (.int f2), .unset, .unset, .unset] [(.int (x2 &&& (1023 : Int32)))])) (fun t k => XS.iand X0.here hx rfl (hb hby at_47) rfl k) ?_
  obtain ⟨l2, e_l2⟩ : ∃ z : Int32, z = (x2 &&& (1023 : Int32)) := ⟨_, rfl⟩
  rw [← e_l2]
  have hb2 : (0 ≤ f2.toInt ∧ f2.toInt ≤ 1023) ∧ 0 ≤ l2.toInt ∧ l2.toInt ≤ 1023 := by rw [e_f2, e_l2]; exact own_bounds x2
  have ha2 := own_add (x := f2) (y := l2) ⟨by omega, by omega⟩ ⟨by omega, by omega⟩
  have hS3 := own_grow (B := 2046) (by decide) hS2 hb2.1 hb2.2
  refine own_step (st' := s₁.setTop (mkF m 50 #[.val (.int x0), .val (.int x1), .val (.int x2), .val (.int f0), .val (.int l0), .val (.int f1), .val (.int l1), .val (.int f2), .val (.int l2), .unset, .unset] [])) (fun t k => XS.istore X0.here hx rfl (hb hby at_48) rfl (l' := #[.val (.int x0), .val (.int x1), .val (.int x2), .val (.int f0), .val (.int l0), .val (.int f1), .val (.int l1), .val (.int f2), .val (.int l2), .unset, .unset]) rfl k) ?_
  refine own_step (st' := s₁.setTop (mkF m 53 #[.val (.int x0), .val (.int x1), .val (.int x2), .val (.int f0), .val (.int l0), .val (.int f1), .val (.int l1), .val (.int f2), .val (.int l2), .unset, .unset] [(.int (2048 : Int32))])) (fun t k => XS.sipush X0.here hx rfl (hb hby at_50) k) ?_
  obtain ⟨T1, h1, k1, X1, e1, E1, A1, st1⟩ := newP X0 hx hZ (hw _ (List.mem_of_getElem? (i := 0) rfl)) e0 (g := (mkF m 53 #[.val (.int x0), .val (.int x1), .val (.int x2), .val (.int f0), .val (.int l0), .val (.int f1), .val (.int l1), .val (.int f2), .val (.int l2), .unset, .unset] [(.int (2048 : Int32))])) rfl (hb hby at_53) rfl (by decide) (cap := 2048) (by decide) (by decide) (by decide) (by decide)
  obtain ⟨b1, g1⟩ : ∃ z, z = h0.size := ⟨_, rfl⟩
  rw [← g1] at A1 st1
  have g_b1 : n0 ≤ b1 := Nat.le_trans Z0 (Nat.le_of_eq g1.symm)
  have Z2 : n0 ≤ h1.size := Nat.le_trans Z0 E1.1
  have V1 : Arv Z h1 b1 k1 .byte (2048 : Int32) [] (.int (0 : Int32)) := Arv.new A1 (by decide)
  refine own_step (st' := T1.setTop (mkF m 55 #[.val (.int x0), .val (.int x1), .val (.int x2), .val (.int f0), .val (.int l0), .val (.int f1), .val (.int l1), .val (.int f2), .val (.int l2), .unset, .unset] [(.ref b1)])) st1 ?_
  refine own_step (st' := T1.setTop (mkF m 57 #[.val (.int x0), .val (.int x1), .val (.int x2), .val (.int f0), .val (.int l0), .val (.int f1), .val (.int l1), .val (.int f2), .val (.int l2), .val (.ref b1), .unset] [])) (fun t k => XS.astore X1.here hx rfl (hb hby at_55) rfl rfl (l' := #[.val (.int x0), .val (.int x1), .val (.int x2), .val (.int f0), .val (.int l0), .val (.int f1), .val (.int l1), .val (.int f2), .val (.int l2), .val (.ref b1), .unset]) rfl k) ?_
  obtain ⟨T3, h3, X3, e3, E3, A3, D3, -, st3⟩ := newO X1 hx hZ hown (hw _ (List.mem_of_getElem? (i := 1) rfl)) (hw _ (List.mem_of_getElem? (i := 2) rfl)) (hw _ (List.mem_of_getElem? (i := 3) rfl)) e1 (g := (mkF m 57 #[.val (.int x0), .val (.int x1), .val (.int x2), .val (.int f0), .val (.int l0), .val (.int f1), .val (.int l1), .val (.int f2), .val (.int l2), .val (.ref b1), .unset] [])) rfl (hb hby at_57) (by decide) (by decide)
  obtain ⟨b3, g3⟩ : ∃ z, z = h1.size := ⟨_, rfl⟩
  rw [← g3] at A3 D3 st3
  have ne4 : b1 ≠ b3 := Nat.ne_of_lt (Nat.lt_of_lt_of_le V1.lt (Nat.le_of_eq g3.symm))
  have g_b3 : n0 ≤ b3 := Nat.le_trans Z2 (Nat.le_of_eq g3.symm)
  have f5 := V1.ext E3
  have Z6 : n0 ≤ h3.size := Nat.le_trans Z2 E3.1
  have f7 : Fld Z h3 b3 "com/example/link_importance/linkimportance/graph/NameList" "chunks" "[[B" .null := D3 (Or.inl (hw _ (List.mem_of_getElem? (i := 14) rfl))) (ty := (.array (.array .byte))) (by decide)
  have f8 : Fld Z h3 b3 "com/example/link_importance/linkimportance/graph/NameList" "starts" "[J" .null := D3 (Or.inl (hw _ (List.mem_of_getElem? (i := 17) rfl))) (ty := (.array .long)) (by decide)
  have f9 : Fld Z h3 b3 "com/example/link_importance/linkimportance/graph/NameList" "maxNames" "I" (.int (0 : Int32)) := D3 (Or.inr (hw _ (List.mem_of_getElem? (i := 19) rfl))) (ty := .int) (by decide)
  have f10 : Fld Z h3 b3 "com/example/link_importance/linkimportance/graph/NameList" "size" "I" (.int (0 : Int32)) := D3 (Or.inl (hw _ (List.mem_of_getElem? (i := 26) rfl))) (ty := .int) (by decide)
  refine own_step (st' := T3.setTop (mkF m 60 #[.val (.int x0), .val (.int x1), .val (.int x2), .val (.int f0), .val (.int l0), .val (.int f1), .val (.int l1), .val (.int f2), .val (.int l2), .val (.ref b1), .unset] [(.ref b3)])) st3 ?_
  refine own_step (st' := T3.setTop (mkF m 61 #[.val (.int x0), .val (.int x1), .val (.int x2), .val (.int f0), .val (.int l0), .val (.int f1), .val (.int l1), .val (.int f2), .val (.int l2), .val (.ref b1), .unset] [(.ref b3), (.ref b3)])) (fun t k => XS.dup X3.here hx rfl (hb hby at_60) rfl rfl k) ?_
  refine own_step (st' := T3.setTop (mkF m 62 #[.val (.int x0), .val (.int x1), .val (.int x2), .val (.int f0), .val (.int l0), .val (.int f1), .val (.int l1), .val (.int f2), .val (.int l2), .val (.ref b1), .unset] [(.int (3 : Int32)), (.ref b3), (.ref b3)])) (fun t k => XS.iconst X3.here hx rfl (hb hby at_61) k) ?_
  obtain ⟨_, _, ⟨T11, L11, k11, n11⟩, -, X11, ⟨Lc11, hQ11, l11, y11, z11⟩, st11⟩ := X3.specialBack hx (y := (⟨"com/example/link_importance/linkimportance/graph/NameList", "<init>", "(I)V"⟩ : MethodName)) rfl hown (mvT hZ (hw _ (List.mem_of_getElem? (i := 4) rfl))) (mvT hZ (hw _ (List.mem_of_getElem? (i := 5) rfl))) (mvT hZ (hw _ (List.mem_of_getElem? (i := 6) rfl))) (by decide) (backOf (W := 1) (rm1 l Z a0 hw [] b3 (3 : Int32) h3 n0 Z6 f7 f8 f9 f10 A3 g_b3) hZ (hw _ (List.mem_of_getElem? (i := 6) rfl)) (hw _ (List.mem_of_getElem? (i := 3) rfl)) (by decide) (by decide)) (g := (mkF m 62 #[.val (.int x0), .val (.int x1), .val (.int x2), .val (.int f0), .val (.int l0), .val (.int f1), .val (.int l1), .val (.int f2), .val (.int l2), .val (.ref b1), .unset] [(.int (3 : Int32)), (.ref b3), (.ref b3)])) rfl (by rw [hml]; rfl) (Steps.refl _) (a := b3) (argsL := [(.int (3 : Int32))]) (rest := [(.ref b3)]) (lenOf pd_0 rfl) rfl (by show 2 * 0 + _ ≤ _; exact Nat.le_of_eq rfl) (hb hby at_62) (fun _ _ => ⟨rfl, e3, (by decide : 2 + 3 ≤ _), (by decide : 2052 + 273 ≤ _)⟩)
  dsimp only [Pt.U, Pt.locs, Pt.cells, Pt.slots] at X11 l11 y11 z11 st11 hQ11
  subst l11 y11 z11
  obtain ⟨ch_11, kc_11, by__11, kb_11, stt_11, ks_11, rfl, N11q, K11, pq11_0, pq11_1, pq11_2, pq11_3, pq11_4, pq11_5, pq11_6, pq11_7, pq11_8, pq11_9, pq11_10, pq11_11, pq11_12, pq11_13⟩ := hQ11
  have N11 := Fr.app N0 N11q
  obtain ⟨h11, e11⟩ : ∃ z, T11.heap = z := ⟨_, rfl⟩
  rw [e11] at K11 pq11_7 pq11_8 pq11_9 pq11_10 pq11_11 pq11_12 pq11_13
  have ne12 : b1 ≠ ch_11 := Nat.ne_of_lt (Nat.lt_of_lt_of_le f5.lt pq11_0)
  have ne13 : b3 ≠ ch_11 := Nat.ne_of_lt (Nat.lt_of_lt_of_le A3.lt pq11_0)
  have g_ch_11 : n0 ≤ ch_11 := Nat.le_trans Z6 pq11_0
  have ne14 : b1 ≠ by__11 := Nat.ne_of_lt (Nat.lt_of_lt_of_le f5.lt pq11_1)
  have ne15 : b3 ≠ by__11 := Nat.ne_of_lt (Nat.lt_of_lt_of_le A3.lt pq11_1)
  have g_by__11 : n0 ≤ by__11 := Nat.le_trans Z6 pq11_1
  have ne16 : b1 ≠ stt_11 := Nat.ne_of_lt (Nat.lt_of_lt_of_le f5.lt pq11_2)
  have ne17 : b3 ≠ stt_11 := Nat.ne_of_lt (Nat.lt_of_lt_of_le A3.lt pq11_2)
  have g_stt_11 : n0 ≤ stt_11 := Nat.le_trans Z6 pq11_2
  have f18 := f5.keep K11 (ninS ne4 nin0)
  have f19 := A3.keep K11
  have Z20 : n0 ≤ h11.size := Nat.le_trans Z6 K11.1
  refine own_step (st' := T11.setTop (mkF m 65 #[.val (.int x0), .val (.int x1), .val (.int x2), .val (.int f0), .val (.int l0), .val (.int f1), .val (.int l1), .val (.int f2), .val (.int l2), .val (.ref b1), .unset] [(.ref b3)])) (fun t k => st11.trans k) ?_
  refine own_step (st' := T11.setTop (mkF m 67 #[.val (.int x0), .val (.int x1), .val (.int x2), .val (.int f0), .val (.int l0), .val (.int f1), .val (.int l1), .val (.int f2), .val (.int l2), .val (.ref b1), .val (.ref b3)] [])) (fun t k => XS.astore X11.here hx rfl (hb hby at_65) rfl rfl (l' := #[.val (.int x0), .val (.int x1), .val (.int x2), .val (.int f0), .val (.int l0), .val (.int f1), .val (.int l1), .val (.int f2), .val (.int l2), .val (.ref b1), .val (.ref b3)]) rfl k) ?_
  refine own_step (st' := T11.setTop (mkF m 69 #[.val (.int x0), .val (.int x1), .val (.int x2), .val (.int f0), .val (.int l0), .val (.int f1), .val (.int l1), .val (.int f2), .val (.int l2), .val (.ref b1), .val (.ref b3)] [(.ref b3)])) (fun t k => XS.aload X11.here hx rfl (hb hby at_67) rfl rfl k) ?_
  refine own_step (st' := T11.setTop (mkF m 71 #[.val (.int x0), .val (.int x1), .val (.int x2), .val (.int f0), .val (.int l0), .val (.int f1), .val (.int l1), .val (.int f2), .val (.int l2), .val (.ref b1), .val (.ref b3)] [(.ref b1), (.ref b3)])) (fun t k => XS.aload X11.here hx rfl (hb hby at_69) rfl rfl k) ?_
  refine own_step (st' := T11.setTop (mkF m 72 #[.val (.int x0), .val (.int x1), .val (.int x2), .val (.int f0), .val (.int l0), .val (.int f1), .val (.int l1), .val (.int f2), .val (.int l2), .val (.ref b1), .val (.ref b3)] [(.int f0), (.ref b1), (.ref b3)])) (fun t k => XS.iloadN X11.here hx rfl (hb hby at_71) rfl k) ?_
  refine own_step (st' := T11.setTop (mkF m 73 #[.val (.int x0), .val (.int x1), .val (.int x2), .val (.int f0), .val (.int l0), .val (.int f1), .val (.int l1), .val (.int f2), .val (.int l2), .val (.ref b1), .val (.ref b3)] [(.int f0), (.int f0), (.ref b1), (.ref b3)])) (fun t k => XS.iloadN X11.here hx rfl (hb hby at_72) rfl k) ?_
  refine own_step (st' := T11.setTop (mkF m 75 #[.val (.int x0), .val (.int x1), .val (.int x2), .val (.int f0), .val (.int l0), .val (.int f1), .val (.int l1), .val (.int f2), .val (.int l2), .val (.ref b1), .val (.ref b3)] [(.int l0), (.int f0), (.int f0), (.ref b1), (.ref b3)])) (fun t k => XS.iload X11.here hx rfl (hb hby at_73) rfl k) ?_
  refine own_step (st' := T11.setTop (mkF m 76 #[.val (.int x0), .val (.int x1), .val (.int x2), .val (.int f0), .val (.int l0), .val (.int f1), .val (.int l1), .val (.int f2), .val (.int l2), .val (.ref b1), .val (.ref b3)] [(.int (f0 + l0)), (.int f0), (.ref b1), (.ref b3)])) (fun t k => XS.iadd X11.here hx rfl (hb hby at_75) rfl k) ?_
  obtain ⟨cq21, kq21, q21a, q21b, q21c⟩ := isOf hZ e11 f19
  obtain ⟨_, _, ⟨T21, L21, k21, n21⟩, -, X21, ⟨Lc21, hQ21, l21, y21, z21⟩, st21⟩ := X11.virtualBack hx (y := (⟨"com/example/link_importance/linkimportance/graph/NameList", "append", "([BII)V"⟩ : MethodName)) (z := (⟨"com/example/link_importance/linkimportance/graph/NameList", "append", "([BII)V"⟩ : MethodName)) hown (mvT hZ (hw _ (List.mem_of_getElem? (i := 20) rfl))) (mvT hZ (hw _ (List.mem_of_getElem? (i := 21) rfl))) (notFace_of_selects (args := #[]) (mvT hZ (hw _ (List.mem_of_getElem? (i := 23) rfl)))) (mvT hZ (hw _ (List.mem_of_getElem? (i := 23) rfl))) (mvT hZ (hw _ (List.mem_of_getElem? (i := 22) rfl))) (by decide) (backOf (W := 0) (rmA1 l Z a0 hw [] b3 b1 f0 (f0 + l0) (0 : Int32) (3 : Int32) ch_11 kc_11 by__11 kb_11 (256 : Int32) [] (.int (0 : Int32)) stt_11 ks_11 [(.long (0 : Int64)), (.long (0 : Int64)), (.long (0 : Int64)), (.long (0 : Int64)), (.long (0 : Int64)), (.long (0 : Int64)), (.long (0 : Int64)), (.long (0 : Int64)), (.long (0 : Int64)), (.long (0 : Int64)), (.long (0 : Int64)), (.long (0 : Int64)), (.long (0 : Int64)), (.long (0 : Int64)), (.long (0 : Int64)), (.long (0 : Int64))] (0 : Int64) k1 [] (.int (0 : Int32)) h11 n0 Z20 pq11_10 pq11_9 pq11_7 pq11_8 f19 g_b3 g_ch_11 g_by__11 g_stt_11 pq11_11 pq11_12 pq11_13 f18 (Ne.symm ne4) ne13 ne15 ne17 ne12 ne14 ne16 pq11_3 pq11_4 pq11_5 (by decide) ⟨by decide, by decide⟩ rfl rfl hS0 ⟨by omega, by omega, by omega, by omega⟩ pq11_6 (by decide)) hZ (hw _ (List.mem_of_getElem? (i := 24) rfl)) (hw _ (List.mem_of_getElem? (i := 3) rfl)) (by decide) (by decide)) q21a q21c (g := (mkF m 76 #[.val (.int x0), .val (.int x1), .val (.int x2), .val (.int f0), .val (.int l0), .val (.int f1), .val (.int l1), .val (.int f2), .val (.int l2), .val (.ref b1), .val (.ref b3)] [(.int (f0 + l0)), (.int f0), (.ref b1), (.ref b3)])) rfl (by rw [hml]; rfl) (Steps.refl _) (argsL := [(.ref b1), (.int f0), (.int (f0 + l0))]) (rest := []) (lenOf pd_2 rfl) rfl (by show 2 * 0 + _ ≤ _; exact Nat.le_of_eq rfl) (hb hby at_76) (fun _ _ => ⟨rfl, e11, (by decide : 5 + 1 ≤ _), (by decide : 2325 + 2046 ≤ _)⟩)
  dsimp only [Pt.U, Pt.locs, Pt.cells, Pt.slots] at X21 l21 y21 z21 st21 hQ21
  subst l21 y21 z21
  obtain ⟨bz_21, kz_21, nz_21, vz_21, dz_21, rfl, N21q, K21, pq21_0, pq21_1, pq21_2, pq21_3, pq21_4, pq21_5, pq21_6, pq21_7, pq21_8, pq21_9, pq21_10, pq21_11, pq21_12⟩ := hQ21
  have N21 := Fr.app N11 N21q
  obtain ⟨h21, e21⟩ : ∃ z, T21.heap = z := ⟨_, rfl⟩
  rw [e21] at K21 pq21_6 pq21_7 pq21_8 pq21_9 pq21_10 pq21_11 pq21_12
  have f22 := f18.keep K21 (ninS ne4 (ninS ne12 (ninS ne14 (ninS ne16 nin0))))
  have f23 := f19.keep K21
  have Z24 : n0 ≤ h21.size := Nat.le_trans Z20 K21.1
  refine own_step (st' := T21.setTop (mkF m 79 #[.val (.int x0), .val (.int x1), .val (.int x2), .val (.int f0), .val (.int l0), .val (.int f1), .val (.int l1), .val (.int f2), .val (.int l2), .val (.ref b1), .val (.ref b3)] [])) (fun t k => st21.trans k) ?_
  refine own_step (st' := T21.setTop (mkF m 81 #[.val (.int x0), .val (.int x1), .val (.int x2), .val (.int f0), .val (.int l0), .val (.int f1), .val (.int l1), .val (.int f2), .val (.int l2), .val (.ref b1), .val (.ref b3)] [(.ref b3)])) (fun t k => XS.aload X21.here hx rfl (hb hby at_79) rfl rfl k) ?_
  refine own_step (st' := T21.setTop (mkF m 83 #[.val (.int x0), .val (.int x1), .val (.int x2), .val (.int f0), .val (.int l0), .val (.int f1), .val (.int l1), .val (.int f2), .val (.int l2), .val (.ref b1), .val (.ref b3)] [(.ref b1), (.ref b3)])) (fun t k => XS.aload X21.here hx rfl (hb hby at_81) rfl rfl k) ?_
  refine own_step (st' := T21.setTop (mkF m 85 #[.val (.int x0), .val (.int x1), .val (.int x2), .val (.int f0), .val (.int l0), .val (.int f1), .val (.int l1), .val (.int f2), .val (.int l2), .val (.ref b1), .val (.ref b3)] [(.int f1), (.ref b1), (.ref b3)])) (fun t k => XS.iload X21.here hx rfl (hb hby at_83) rfl k) ?_
  refine own_step (st' := T21.setTop (mkF m 87 #[.val (.int x0), .val (.int x1), .val (.int x2), .val (.int f0), .val (.int l0), .val (.int f1), .val (.int l1), .val (.int f2), .val (.int l2), .val (.ref b1), .val (.ref b3)] [(.int f1), (.int f1), (.ref b1), (.ref b3)])) (fun t k => XS.iload X21.here hx rfl (hb hby at_85) rfl k) ?_
  refine own_step (st' := T21.setTop (mkF m 89 #[.val (.int x0), .val (.int x1), .val (.int x2), .val (.int f0), .val (.int l0), .val (.int f1), .val (.int l1), .val (.int f2), .val (.int l2), .val (.ref b1), .val (.ref b3)] [(.int l1), (.int f1), (.int f1), (.ref b1), (.ref b3)])) (fun t k => XS.iload X21.here hx rfl (hb hby at_87) rfl k) ?_
  refine own_step (st' := T21.setTop (mkF m 90 #[.val (.int x0), .val (.int x1), .val (.int x2), .val (.int f0), .val (.int l0), .val (.int f1), .val (.int l1), .val (.int f2), .val (.int l2), .val (.ref b1), .val (.ref b3)] [(.int (f1 + l1)), (.int f1), (.ref b1), (.ref b3)])) (fun t k => XS.iadd X21.here hx rfl (hb hby at_89) rfl k) ?_
  obtain ⟨cq25, kq25, q25a, q25b, q25c⟩ := isOf hZ e21 f23
  obtain ⟨_, _, ⟨T25, L25, k25, n25⟩, -, X25, ⟨Lc25, hQ25, l25, y25, z25⟩, st25⟩ := X21.virtualBack hx (y := (⟨"com/example/link_importance/linkimportance/graph/NameList", "append", "([BII)V"⟩ : MethodName)) (z := (⟨"com/example/link_importance/linkimportance/graph/NameList", "append", "([BII)V"⟩ : MethodName)) hown (mvT hZ (hw _ (List.mem_of_getElem? (i := 20) rfl))) (mvT hZ (hw _ (List.mem_of_getElem? (i := 21) rfl))) (notFace_of_selects (args := #[]) (mvT hZ (hw _ (List.mem_of_getElem? (i := 23) rfl)))) (mvT hZ (hw _ (List.mem_of_getElem? (i := 23) rfl))) (mvT hZ (hw _ (List.mem_of_getElem? (i := 22) rfl))) (by decide) (backOf (W := 0) (rmA2 l Z a0 hw [] b3 b1 f1 (f1 + l1) ((0 : Int32) + (1 : Int32)) (3 : Int32) ch_11 kc_11 bz_21 kz_21 nz_21 vz_21 dz_21 stt_11 ks_11 ([(.long (0 : Int64)), (.long (0 : Int64)), (.long (0 : Int64)), (.long (0 : Int64)), (.long (0 : Int64)), (.long (0 : Int64)), (.long (0 : Int64)), (.long (0 : Int64)), (.long (0 : Int64)), (.long (0 : Int64)), (.long (0 : Int64)), (.long (0 : Int64)), (.long (0 : Int64)), (.long (0 : Int64)), (.long (0 : Int64)), (.long (0 : Int64))].set ((0 : Int32) + (1 : Int32)).toNatClampNeg (.long ((0 : Int64) + ((f0 + l0) - f0).toInt64))) ((0 : Int64) + ((f0 + l0) - f0).toInt64) k1 [] (.int (0 : Int32)) h21 n0 Z24 pq21_6 pq21_7 pq21_8 pq21_9 f23 g_b3 g_ch_11 pq21_0 g_stt_11 pq21_10 pq21_11 pq21_12 f22 (Ne.symm ne4) ne13 (Ne.symm pq21_1) ne17 ne12 (Ne.symm pq21_2) ne16 (Ne.symm pq21_3) pq11_4 pq21_4 (by decide) ⟨by decide, by decide⟩ rfl (by simp) hS1 ⟨by omega, by omega, by omega, by omega⟩ pq11_6 pq21_5) hZ (hw _ (List.mem_of_getElem? (i := 24) rfl)) (hw _ (List.mem_of_getElem? (i := 3) rfl)) (by decide) (by decide)) q25a q25c (g := (mkF m 90 #[.val (.int x0), .val (.int x1), .val (.int x2), .val (.int f0), .val (.int l0), .val (.int f1), .val (.int l1), .val (.int f2), .val (.int l2), .val (.ref b1), .val (.ref b3)] [(.int (f1 + l1)), (.int f1), (.ref b1), (.ref b3)])) rfl (by rw [hml]; rfl) (Steps.refl _) (argsL := [(.ref b1), (.int f1), (.int (f1 + l1))]) (rest := []) (lenOf pd_2 rfl) rfl (by show 2 * 0 + _ ≤ _; exact Nat.le_of_eq rfl) (hb hby at_90) (fun _ _ => ⟨rfl, e21, (by decide : 6 + 1 ≤ _), (by decide : 4371 + 4092 ≤ _)⟩)
  dsimp only [Pt.U, Pt.locs, Pt.cells, Pt.slots] at X25 l25 y25 z25 st25 hQ25
  subst l25 y25 z25
  obtain ⟨bz_25, kz_25, nz_25, vz_25, dz_25, rfl, N25q, K25, pq25_0, pq25_1, pq25_2, pq25_3, pq25_4, pq25_5, pq25_6, pq25_7, pq25_8, pq25_9, pq25_10, pq25_11, pq25_12⟩ := hQ25
  have N25 := Fr.app N21 N25q
  obtain ⟨h25, e25⟩ : ∃ z, T25.heap = z := ⟨_, rfl⟩
  rw [e25] at K25 pq25_6 pq25_7 pq25_8 pq25_9 pq25_10 pq25_11 pq25_12
  have f26 := f22.keep K25 (ninS ne4 (ninS ne12 (ninS (Ne.symm pq21_2) (ninS ne16 nin0))))
  have f27 := f23.keep K25
  have Z28 : n0 ≤ h25.size := Nat.le_trans Z24 K25.1
  refine own_step (st' := T25.setTop (mkF m 93 #[.val (.int x0), .val (.int x1), .val (.int x2), .val (.int f0), .val (.int l0), .val (.int f1), .val (.int l1), .val (.int f2), .val (.int l2), .val (.ref b1), .val (.ref b3)] [])) (fun t k => st25.trans k) ?_
  refine own_step (st' := T25.setTop (mkF m 95 #[.val (.int x0), .val (.int x1), .val (.int x2), .val (.int f0), .val (.int l0), .val (.int f1), .val (.int l1), .val (.int f2), .val (.int l2), .val (.ref b1), .val (.ref b3)] [(.ref b3)])) (fun t k => XS.aload X25.here hx rfl (hb hby at_93) rfl rfl k) ?_
  refine own_step (st' := T25.setTop (mkF m 97 #[.val (.int x0), .val (.int x1), .val (.int x2), .val (.int f0), .val (.int l0), .val (.int f1), .val (.int l1), .val (.int f2), .val (.int l2), .val (.ref b1), .val (.ref b3)] [(.ref b1), (.ref b3)])) (fun t k => XS.aload X25.here hx rfl (hb hby at_95) rfl rfl k) ?_
  refine own_step (st' := T25.setTop (mkF m 99 #[.val (.int x0), .val (.int x1), .val (.int x2), .val (.int f0), .val (.int l0), .val (.int f1), .val (.int l1), .val (.int f2), .val (.int l2), .val (.ref b1), .val (.ref b3)] [(.int f2), (.ref b1), (.ref b3)])) (fun t k => XS.iload X25.here hx rfl (hb hby at_97) rfl k) ?_
  refine own_step (st' := T25.setTop (mkF m 101 #[.val (.int x0), .val (.int x1), .val (.int x2), .val (.int f0), .val (.int l0), .val (.int f1), .val (.int l1), .val (.int f2), .val (.int l2), .val (.ref b1), .val (.ref b3)] [(.int f2), (.int f2), (.ref b1), (.ref b3)])) (fun t k => XS.iload X25.here hx rfl (hb hby at_99) rfl k) ?_
  refine own_step (st' := T25.setTop (mkF m 103 #[.val (.int x0), .val (.int x1), .val (.int x2), .val (.int f0), .val (.int l0), .val (.int f1), .val (.int l1), .val (.int f2), .val (.int l2), .val (.ref b1), .val (.ref b3)] [(.int l2), (.int f2), (.int f2), (.ref b1), (.ref b3)])) (fun t k => XS.iload X25.here hx rfl (hb hby at_101) rfl k) ?_
  refine own_step (st' := T25.setTop (mkF m 104 #[.val (.int x0), .val (.int x1), .val (.int x2), .val (.int f0), .val (.int l0), .val (.int f1), .val (.int l1), .val (.int f2), .val (.int l2), .val (.ref b1), .val (.ref b3)] [(.int (f2 + l2)), (.int f2), (.ref b1), (.ref b3)])) (fun t k => XS.iadd X25.here hx rfl (hb hby at_103) rfl k) ?_
  obtain ⟨cq29, kq29, q29a, q29b, q29c⟩ := isOf hZ e25 f27
  obtain ⟨_, _, ⟨T29, L29, k29, n29⟩, -, X29, ⟨Lc29, hQ29, l29, y29, z29⟩, st29⟩ := X25.virtualBack hx (y := (⟨"com/example/link_importance/linkimportance/graph/NameList", "append", "([BII)V"⟩ : MethodName)) (z := (⟨"com/example/link_importance/linkimportance/graph/NameList", "append", "([BII)V"⟩ : MethodName)) hown (mvT hZ (hw _ (List.mem_of_getElem? (i := 20) rfl))) (mvT hZ (hw _ (List.mem_of_getElem? (i := 21) rfl))) (notFace_of_selects (args := #[]) (mvT hZ (hw _ (List.mem_of_getElem? (i := 23) rfl)))) (mvT hZ (hw _ (List.mem_of_getElem? (i := 23) rfl))) (mvT hZ (hw _ (List.mem_of_getElem? (i := 22) rfl))) (by decide) (backOf (W := 0) (rmA3 l Z a0 hw [] b3 b1 f2 (f2 + l2) (((0 : Int32) + (1 : Int32)) + (1 : Int32)) (3 : Int32) ch_11 kc_11 bz_25 kz_25 nz_25 vz_25 dz_25 stt_11 ks_11 (([(.long (0 : Int64)), (.long (0 : Int64)), (.long (0 : Int64)), (.long (0 : Int64)), (.long (0 : Int64)), (.long (0 : Int64)), (.long (0 : Int64)), (.long (0 : Int64)), (.long (0 : Int64)), (.long (0 : Int64)), (.long (0 : Int64)), (.long (0 : Int64)), (.long (0 : Int64)), (.long (0 : Int64)), (.long (0 : Int64)), (.long (0 : Int64))].set ((0 : Int32) + (1 : Int32)).toNatClampNeg (.long ((0 : Int64) + ((f0 + l0) - f0).toInt64))).set (((0 : Int32) + (1 : Int32)) + (1 : Int32)).toNatClampNeg (.long (((0 : Int64) + ((f0 + l0) - f0).toInt64) + ((f1 + l1) - f1).toInt64))) (((0 : Int64) + ((f0 + l0) - f0).toInt64) + ((f1 + l1) - f1).toInt64) k1 [] (.int (0 : Int32)) h25 n0 Z28 pq25_6 pq25_7 pq25_8 pq25_9 f27 g_b3 g_ch_11 pq25_0 g_stt_11 pq25_10 pq25_11 pq25_12 f26 (Ne.symm ne4) ne13 (Ne.symm pq25_1) ne17 ne12 (Ne.symm pq25_2) ne16 (Ne.symm pq25_3) pq11_4 pq25_4 (by decide) ⟨by decide, by decide⟩ rfl (by simp) hS2 ⟨by omega, by omega, by omega, by omega⟩ pq11_6 pq25_5) hZ (hw _ (List.mem_of_getElem? (i := 24) rfl)) (hw _ (List.mem_of_getElem? (i := 3) rfl)) (by decide) (by decide)) q29a q29c (g := (mkF m 104 #[.val (.int x0), .val (.int x1), .val (.int x2), .val (.int f0), .val (.int l0), .val (.int f1), .val (.int l1), .val (.int f2), .val (.int l2), .val (.ref b1), .val (.ref b3)] [(.int (f2 + l2)), (.int f2), (.ref b1), (.ref b3)])) rfl (by rw [hml]; rfl) (Steps.refl _) (argsL := [(.ref b1), (.int f2), (.int (f2 + l2))]) (rest := []) (lenOf pd_2 rfl) rfl (by show 2 * 0 + _ ≤ _; exact Nat.le_of_eq rfl) (hb hby at_104) (fun _ _ => ⟨rfl, e25, (by decide : 7 + 1 ≤ _), (by decide : 8463 + 6138 ≤ _)⟩)
  dsimp only [Pt.U, Pt.locs, Pt.cells, Pt.slots] at X29 l29 y29 z29 st29 hQ29
  subst l29 y29 z29
  obtain ⟨bz_29, kz_29, nz_29, vz_29, dz_29, rfl, N29q, K29, pq29_0, pq29_1, pq29_2, pq29_3, pq29_4, pq29_5, pq29_6, pq29_7, pq29_8, pq29_9, pq29_10, pq29_11, pq29_12⟩ := hQ29
  have N29 := Fr.app N25 N29q
  obtain ⟨h29, e29⟩ : ∃ z, T29.heap = z := ⟨_, rfl⟩
  rw [e29] at K29 pq29_6 pq29_7 pq29_8 pq29_9 pq29_10 pq29_11 pq29_12
  have f30 := f26.keep K29 (ninS ne4 (ninS ne12 (ninS (Ne.symm pq25_2) (ninS ne16 nin0))))
  have f31 := f27.keep K29
  have Z32 : n0 ≤ h29.size := Nat.le_trans Z28 K29.1
  refine own_step (st' := T29.setTop (mkF m 107 #[.val (.int x0), .val (.int x1), .val (.int x2), .val (.int f0), .val (.int l0), .val (.int f1), .val (.int l1), .val (.int f2), .val (.int l2), .val (.ref b1), .val (.ref b3)] [])) (fun t k => st29.trans k) ?_
  refine own_step (st' := T29.setTop (mkF m 109 #[.val (.int x0), .val (.int x1), .val (.int x2), .val (.int f0), .val (.int l0), .val (.int f1), .val (.int l1), .val (.int f2), .val (.int l2), .val (.ref b1), .val (.ref b3)] [(.ref b3)])) (fun t k => XS.aload X29.here hx rfl (hb hby at_107) rfl rfl k) ?_
  refine own_step (st' := T29.setTop (mkF m 110 #[.val (.int x0), .val (.int x1), .val (.int x2), .val (.int f0), .val (.int l0), .val (.int f1), .val (.int l1), .val (.int f2), .val (.int l2), .val (.ref b1), .val (.ref b3)] [(.int (0 : Int32)), (.ref b3)])) (fun t k => XS.iconst X29.here hx rfl (hb hby at_109) k) ?_
  obtain ⟨cq33, kq33, q33a, q33b, q33c⟩ := isOf hZ e29 f31
  obtain ⟨_, _, ⟨T33, L33, k33, n33⟩, -, X33, ⟨Lc33, hQ33, l33, y33, z33⟩, st33⟩ := X29.virtualBack hx (y := (⟨"com/example/link_importance/linkimportance/graph/NameList", "length", "(I)I"⟩ : MethodName)) (z := (⟨"com/example/link_importance/linkimportance/graph/NameList", "length", "(I)I"⟩ : MethodName)) hown (mvT hZ (hw _ (List.mem_of_getElem? (i := 41) rfl))) (mvT hZ (hw _ (List.mem_of_getElem? (i := 42) rfl))) (notFace_of_selects (args := #[]) (mvT hZ (hw _ (List.mem_of_getElem? (i := 44) rfl)))) (mvT hZ (hw _ (List.mem_of_getElem? (i := 44) rfl))) (mvT hZ (hw _ (List.mem_of_getElem? (i := 43) rfl))) (by decide) (backOf (W := 0) (rm6 l Z a0 hw [] b3 (0 : Int32) stt_11 ks_11 ((([(.long (0 : Int64)), (.long (0 : Int64)), (.long (0 : Int64)), (.long (0 : Int64)), (.long (0 : Int64)), (.long (0 : Int64)), (.long (0 : Int64)), (.long (0 : Int64)), (.long (0 : Int64)), (.long (0 : Int64)), (.long (0 : Int64)), (.long (0 : Int64)), (.long (0 : Int64)), (.long (0 : Int64)), (.long (0 : Int64)), (.long (0 : Int64))].set ((0 : Int32) + (1 : Int32)).toNatClampNeg (.long ((0 : Int64) + ((f0 + l0) - f0).toInt64))).set (((0 : Int32) + (1 : Int32)) + (1 : Int32)).toNatClampNeg (.long (((0 : Int64) + ((f0 + l0) - f0).toInt64) + ((f1 + l1) - f1).toInt64))).set ((((0 : Int32) + (1 : Int32)) + (1 : Int32)) + (1 : Int32)).toNatClampNeg (.long ((((0 : Int64) + ((f0 + l0) - f0).toInt64) + ((f1 + l1) - f1).toInt64) + ((f2 + l2) - f2).toInt64))) ((0 : Int64) + ((f0 + l0) - f0).toInt64) (0 : Int64) h29 n0 Z32 pq29_9 pq29_12 ⟨by decide, by decide⟩ ⟨by decide, by decide⟩ rfl rfl) hZ (hw _ (List.mem_of_getElem? (i := 45) rfl)) (hw _ (List.mem_of_getElem? (i := 3) rfl)) (by decide) (by decide)) q33a q33c (g := (mkF m 110 #[.val (.int x0), .val (.int x1), .val (.int x2), .val (.int f0), .val (.int l0), .val (.int f1), .val (.int l1), .val (.int f2), .val (.int l2), .val (.ref b1), .val (.ref b3)] [(.int (0 : Int32)), (.ref b3)])) rfl (by rw [hml]; rfl) (Steps.refl _) (argsL := [(.int (0 : Int32))]) (rest := []) (lenOf pd_6 rfl) rfl (by show 2 * 0 + _ ≤ _; exact Nat.le_of_eq rfl) (hb hby at_110) (fun _ _ => ⟨rfl, e29, (by decide : 8 + 0 ≤ _), (by decide : 14601 + 0 ≤ _)⟩)
  dsimp only [Pt.U, Pt.locs, Pt.cells, Pt.slots] at X33 l33 y33 z33 st33 hQ33
  subst l33 y33 z33
  obtain ⟨rfl, N33q, e33⟩ := hQ33
  have N33 := Fr.app N29 N33q
  refine own_step (st' := T33.setTop (mkF m 113 #[.val (.int x0), .val (.int x1), .val (.int x2), .val (.int f0), .val (.int l0), .val (.int f1), .val (.int l1), .val (.int f2), .val (.int l2), .val (.ref b1), .val (.ref b3)] [(.int ((((0 : Int64) + ((f0 + l0) - f0).toInt64) - (0 : Int64)).toInt32))])) (fun t k => st33.trans k) ?_
  refine own_step (st' := T33.setTop (mkF m 115 #[.val (.int x0), .val (.int x1), .val (.int x2), .val (.int f0), .val (.int l0), .val (.int f1), .val (.int l1), .val (.int f2), .val (.int l2), .val (.ref b1), .val (.ref b3)] [(.int l0), (.int ((((0 : Int64) + ((f0 + l0) - f0).toInt64) - (0 : Int64)).toInt32))])) (fun t k => XS.iload X33.here hx rfl (hb hby at_113) rfl k) ?_
  refine own_step (st' := T33.setTop (mkF m 118 #[.val (.int x0), .val (.int x1), .val (.int x2), .val (.int f0), .val (.int l0), .val (.int f1), .val (.int l1), .val (.int f2), .val (.int l2), .val (.ref b1), .val (.ref b3)] [])) (fun t k => XS.icmpNo X33.here hx rfl (hb hby at_115) rfl (teq (own_diff _ _ _)).2 k) ?_
  refine own_step (st' := T33.setTop (mkF m 120 #[.val (.int x0), .val (.int x1), .val (.int x2), .val (.int f0), .val (.int l0), .val (.int f1), .val (.int l1), .val (.int f2), .val (.int l2), .val (.ref b1), .val (.ref b3)] [(.ref b3)])) (fun t k => XS.aload X33.here hx rfl (hb hby at_118) rfl rfl k) ?_
  refine own_step (st' := T33.setTop (mkF m 121 #[.val (.int x0), .val (.int x1), .val (.int x2), .val (.int f0), .val (.int l0), .val (.int f1), .val (.int l1), .val (.int f2), .val (.int l2), .val (.ref b1), .val (.ref b3)] [(.int (1 : Int32)), (.ref b3)])) (fun t k => XS.iconst X33.here hx rfl (hb hby at_120) k) ?_
  obtain ⟨cq34, kq34, q34a, q34b, q34c⟩ := isOf hZ e33 f31
  obtain ⟨_, _, ⟨T34, L34, k34, n34⟩, -, X34, ⟨Lc34, hQ34, l34, y34, z34⟩, st34⟩ := X33.virtualBack hx (y := (⟨"com/example/link_importance/linkimportance/graph/NameList", "length", "(I)I"⟩ : MethodName)) (z := (⟨"com/example/link_importance/linkimportance/graph/NameList", "length", "(I)I"⟩ : MethodName)) hown (mvT hZ (hw _ (List.mem_of_getElem? (i := 41) rfl))) (mvT hZ (hw _ (List.mem_of_getElem? (i := 42) rfl))) (notFace_of_selects (args := #[]) (mvT hZ (hw _ (List.mem_of_getElem? (i := 44) rfl)))) (mvT hZ (hw _ (List.mem_of_getElem? (i := 44) rfl))) (mvT hZ (hw _ (List.mem_of_getElem? (i := 43) rfl))) (by decide) (backOf (W := 0) (rm6 l Z a0 hw [] b3 (1 : Int32) stt_11 ks_11 ((([(.long (0 : Int64)), (.long (0 : Int64)), (.long (0 : Int64)), (.long (0 : Int64)), (.long (0 : Int64)), (.long (0 : Int64)), (.long (0 : Int64)), (.long (0 : Int64)), (.long (0 : Int64)), (.long (0 : Int64)), (.long (0 : Int64)), (.long (0 : Int64)), (.long (0 : Int64)), (.long (0 : Int64)), (.long (0 : Int64)), (.long (0 : Int64))].set ((0 : Int32) + (1 : Int32)).toNatClampNeg (.long ((0 : Int64) + ((f0 + l0) - f0).toInt64))).set (((0 : Int32) + (1 : Int32)) + (1 : Int32)).toNatClampNeg (.long (((0 : Int64) + ((f0 + l0) - f0).toInt64) + ((f1 + l1) - f1).toInt64))).set ((((0 : Int32) + (1 : Int32)) + (1 : Int32)) + (1 : Int32)).toNatClampNeg (.long ((((0 : Int64) + ((f0 + l0) - f0).toInt64) + ((f1 + l1) - f1).toInt64) + ((f2 + l2) - f2).toInt64))) (((0 : Int64) + ((f0 + l0) - f0).toInt64) + ((f1 + l1) - f1).toInt64) ((0 : Int64) + ((f0 + l0) - f0).toInt64) h29 n0 Z32 pq29_9 pq29_12 ⟨by decide, by decide⟩ ⟨by decide, by decide⟩ rfl rfl) hZ (hw _ (List.mem_of_getElem? (i := 45) rfl)) (hw _ (List.mem_of_getElem? (i := 3) rfl)) (by decide) (by decide)) q34a q34c (g := (mkF m 121 #[.val (.int x0), .val (.int x1), .val (.int x2), .val (.int f0), .val (.int l0), .val (.int f1), .val (.int l1), .val (.int f2), .val (.int l2), .val (.ref b1), .val (.ref b3)] [(.int (1 : Int32)), (.ref b3)])) rfl (by rw [hml]; rfl) (Steps.refl _) (argsL := [(.int (1 : Int32))]) (rest := []) (lenOf pd_6 rfl) rfl (by show 2 * 0 + _ ≤ _; exact Nat.le_of_eq rfl) (hb hby at_121) (fun _ _ => ⟨rfl, e33, (by decide : 8 + 0 ≤ _), (by decide : 14601 + 0 ≤ _)⟩)
  dsimp only [Pt.U, Pt.locs, Pt.cells, Pt.slots] at X34 l34 y34 z34 st34 hQ34
  subst l34 y34 z34
  obtain ⟨rfl, N34q, e34⟩ := hQ34
  have N34 := Fr.app N33 N34q
  refine own_step (st' := T34.setTop (mkF m 124 #[.val (.int x0), .val (.int x1), .val (.int x2), .val (.int f0), .val (.int l0), .val (.int f1), .val (.int l1), .val (.int f2), .val (.int l2), .val (.ref b1), .val (.ref b3)] [(.int (((((0 : Int64) + ((f0 + l0) - f0).toInt64) + ((f1 + l1) - f1).toInt64) - ((0 : Int64) + ((f0 + l0) - f0).toInt64)).toInt32))])) (fun t k => st34.trans k) ?_
  refine own_step (st' := T34.setTop (mkF m 126 #[.val (.int x0), .val (.int x1), .val (.int x2), .val (.int f0), .val (.int l0), .val (.int f1), .val (.int l1), .val (.int f2), .val (.int l2), .val (.ref b1), .val (.ref b3)] [(.int l1), (.int (((((0 : Int64) + ((f0 + l0) - f0).toInt64) + ((f1 + l1) - f1).toInt64) - ((0 : Int64) + ((f0 + l0) - f0).toInt64)).toInt32))])) (fun t k => XS.iload X34.here hx rfl (hb hby at_124) rfl k) ?_
  refine own_step (st' := T34.setTop (mkF m 129 #[.val (.int x0), .val (.int x1), .val (.int x2), .val (.int f0), .val (.int l0), .val (.int f1), .val (.int l1), .val (.int f2), .val (.int l2), .val (.ref b1), .val (.ref b3)] [])) (fun t k => XS.icmpNo X34.here hx rfl (hb hby at_126) rfl (teq (own_diff _ _ _)).2 k) ?_
  refine own_step (st' := T34.setTop (mkF m 131 #[.val (.int x0), .val (.int x1), .val (.int x2), .val (.int f0), .val (.int l0), .val (.int f1), .val (.int l1), .val (.int f2), .val (.int l2), .val (.ref b1), .val (.ref b3)] [(.ref b3)])) (fun t k => XS.aload X34.here hx rfl (hb hby at_129) rfl rfl k) ?_
  refine own_step (st' := T34.setTop (mkF m 132 #[.val (.int x0), .val (.int x1), .val (.int x2), .val (.int f0), .val (.int l0), .val (.int f1), .val (.int l1), .val (.int f2), .val (.int l2), .val (.ref b1), .val (.ref b3)] [(.int (2 : Int32)), (.ref b3)])) (fun t k => XS.iconst X34.here hx rfl (hb hby at_131) k) ?_
  obtain ⟨cq35, kq35, q35a, q35b, q35c⟩ := isOf hZ e34 f31
  obtain ⟨_, _, ⟨T35, L35, k35, n35⟩, -, X35, ⟨Lc35, hQ35, l35, y35, z35⟩, st35⟩ := X34.virtualBack hx (y := (⟨"com/example/link_importance/linkimportance/graph/NameList", "length", "(I)I"⟩ : MethodName)) (z := (⟨"com/example/link_importance/linkimportance/graph/NameList", "length", "(I)I"⟩ : MethodName)) hown (mvT hZ (hw _ (List.mem_of_getElem? (i := 41) rfl))) (mvT hZ (hw _ (List.mem_of_getElem? (i := 42) rfl))) (notFace_of_selects (args := #[]) (mvT hZ (hw _ (List.mem_of_getElem? (i := 44) rfl)))) (mvT hZ (hw _ (List.mem_of_getElem? (i := 44) rfl))) (mvT hZ (hw _ (List.mem_of_getElem? (i := 43) rfl))) (by decide) (backOf (W := 0) (rm6 l Z a0 hw [] b3 (2 : Int32) stt_11 ks_11 ((([(.long (0 : Int64)), (.long (0 : Int64)), (.long (0 : Int64)), (.long (0 : Int64)), (.long (0 : Int64)), (.long (0 : Int64)), (.long (0 : Int64)), (.long (0 : Int64)), (.long (0 : Int64)), (.long (0 : Int64)), (.long (0 : Int64)), (.long (0 : Int64)), (.long (0 : Int64)), (.long (0 : Int64)), (.long (0 : Int64)), (.long (0 : Int64))].set ((0 : Int32) + (1 : Int32)).toNatClampNeg (.long ((0 : Int64) + ((f0 + l0) - f0).toInt64))).set (((0 : Int32) + (1 : Int32)) + (1 : Int32)).toNatClampNeg (.long (((0 : Int64) + ((f0 + l0) - f0).toInt64) + ((f1 + l1) - f1).toInt64))).set ((((0 : Int32) + (1 : Int32)) + (1 : Int32)) + (1 : Int32)).toNatClampNeg (.long ((((0 : Int64) + ((f0 + l0) - f0).toInt64) + ((f1 + l1) - f1).toInt64) + ((f2 + l2) - f2).toInt64))) ((((0 : Int64) + ((f0 + l0) - f0).toInt64) + ((f1 + l1) - f1).toInt64) + ((f2 + l2) - f2).toInt64) (((0 : Int64) + ((f0 + l0) - f0).toInt64) + ((f1 + l1) - f1).toInt64) h29 n0 Z32 pq29_9 pq29_12 ⟨by decide, by decide⟩ ⟨by decide, by decide⟩ rfl rfl) hZ (hw _ (List.mem_of_getElem? (i := 45) rfl)) (hw _ (List.mem_of_getElem? (i := 3) rfl)) (by decide) (by decide)) q35a q35c (g := (mkF m 132 #[.val (.int x0), .val (.int x1), .val (.int x2), .val (.int f0), .val (.int l0), .val (.int f1), .val (.int l1), .val (.int f2), .val (.int l2), .val (.ref b1), .val (.ref b3)] [(.int (2 : Int32)), (.ref b3)])) rfl (by rw [hml]; rfl) (Steps.refl _) (argsL := [(.int (2 : Int32))]) (rest := []) (lenOf pd_6 rfl) rfl (by show 2 * 0 + _ ≤ _; exact Nat.le_of_eq rfl) (hb hby at_132) (fun _ _ => ⟨rfl, e34, (by decide : 8 + 0 ≤ _), (by decide : 14601 + 0 ≤ _)⟩)
  dsimp only [Pt.U, Pt.locs, Pt.cells, Pt.slots] at X35 l35 y35 z35 st35 hQ35
  subst l35 y35 z35
  obtain ⟨rfl, N35q, e35⟩ := hQ35
  have N35 := Fr.app N34 N35q
  refine own_step (st' := T35.setTop (mkF m 135 #[.val (.int x0), .val (.int x1), .val (.int x2), .val (.int f0), .val (.int l0), .val (.int f1), .val (.int l1), .val (.int f2), .val (.int l2), .val (.ref b1), .val (.ref b3)] [(.int ((((((0 : Int64) + ((f0 + l0) - f0).toInt64) + ((f1 + l1) - f1).toInt64) + ((f2 + l2) - f2).toInt64) - (((0 : Int64) + ((f0 + l0) - f0).toInt64) + ((f1 + l1) - f1).toInt64)).toInt32))])) (fun t k => st35.trans k) ?_
  refine own_step (st' := T35.setTop (mkF m 137 #[.val (.int x0), .val (.int x1), .val (.int x2), .val (.int f0), .val (.int l0), .val (.int f1), .val (.int l1), .val (.int f2), .val (.int l2), .val (.ref b1), .val (.ref b3)] [(.int l2), (.int ((((((0 : Int64) + ((f0 + l0) - f0).toInt64) + ((f1 + l1) - f1).toInt64) + ((f2 + l2) - f2).toInt64) - (((0 : Int64) + ((f0 + l0) - f0).toInt64) + ((f1 + l1) - f1).toInt64)).toInt32))])) (fun t k => XS.iload X35.here hx rfl (hb hby at_135) rfl k) ?_
  refine own_step (st' := T35.setTop (mkF m 140 #[.val (.int x0), .val (.int x1), .val (.int x2), .val (.int f0), .val (.int l0), .val (.int f1), .val (.int l1), .val (.int f2), .val (.int l2), .val (.ref b1), .val (.ref b3)] [])) (fun t k => XS.icmpNo X35.here hx rfl (hb hby at_137) rfl (teq (own_diff _ _ _)).2 k) ?_
  refine own_step (st' := T35.setTop (mkF m 141 #[.val (.int x0), .val (.int x1), .val (.int x2), .val (.int f0), .val (.int l0), .val (.int f1), .val (.int l1), .val (.int f2), .val (.int l2), .val (.ref b1), .val (.ref b3)] [(.int (1 : Int32))])) (fun t k => XS.iconst X35.here hx rfl (hb hby at_140) k) ?_
  refine own_step (st' := T35.setTop (mkF m 145 #[.val (.int x0), .val (.int x1), .val (.int x2), .val (.int f0), .val (.int l0), .val (.int f1), .val (.int l1), .val (.int f2), .val (.int l2), .val (.ref b1), .val (.ref b3)] [(.int (1 : Int32))])) (fun t k => XS.goto X35.here hx rfl (pc0 := 141) (pc' := 145) rfl (hb hby at_141) (by decide) (by decide) k) ?_
  refine own_ret X35 Bd.notSynchronized (some (.int (1 : Int32))) (fun h => by rw [Bd.returns] at h; cases h) (fun fs hr => retN X35 hx (t := .boolean) Bd.returns (by simp) (hb hby at_145) hr) ?_ (by decide) (by decide)
  rw [e35]
  exact ⟨rfl, N35⟩
set_option maxRecDepth 65536 in
set_option maxHeartbeats 40000000 in
theorem comes_1 {Post : Tables → Env → Array Value → State → Outcome → State → Prop} (hpost : ∀ tb e args s v u, (limb_1_1.after args s (.returned v) u = true ∧ limb_1_2.after args s (.returned v) u = true ∧ True) → FrameEnd s (.returned v) u (Jvm.fieldLocs frame_1_writes args s ++ Jvm.arrayLocs frame_1_arrays args s ++ Jvm.staticLocs frame_1_statics s) 24 19072 → Post tb e args s (.returned v) u) :
    ArmFor flags0 classFile x code maxLocals ret World_1 tables_1 room_1 Calls_1 rest_1 Pre_1 Post := by
  intro l hfl _ _ p e ha hc hk s m args below hf hA hF happ hP
  obtain ⟨hcalls, hrest, hpre⟩ := hP
  obtain ⟨-, -, -, hnamed, -, -, -, hat⟩ := (Spec.applies_iff hf).mp happ
  obtain ⟨hg, hn⟩ := and_e (Cond.before_iff.mp (show (Jvm.Cond.and given_1 narrow_1).before args s = true from hpre))
  obtain ⟨hcount, hg0⟩ := and_e hg
  obtain ⟨ha0, hg1⟩ := and_e hg0
  obtain ⟨ha1, hg2⟩ := and_e hg1
  obtain ⟨w0, w1, w2, rfl⟩ : ∃ w0 w1 w2 : Value, args = #[w0, w1, w2] := by
    have hs : args.size = 3 := by simpa [Cond.value, given_1] using hcount
    obtain ⟨L⟩ := args
    match L, hs with
    | [w0, w1, w2], _ => exact ⟨w0, w1, w2, rfl⟩
  have hw := fun d (hd : d ∈ tables_1) => atoms_spec (ws := Jvm.Cond.code x code maxLocals ret :: tables_1) hat d (List.mem_cons_of_mem _ hd)
  have hfit : Fit s := fun {y c} hc i hi => by
    obtain ⟨ha, rfl⟩ := Array.getElem?_eq_some_iff.mp hc
    have q := List.all_eq_true.mp ((Array.all_eq_true_iff_forall_mem.mp hF) _ (Array.getElem_mem ha)) i (List.mem_range.mpr hi)
    simpa [Array.getElem?_eq_getElem hi] using q
  obtain ⟨i0, ei0⟩ := is_v ha0
  obtain rfl : w0 = (.int i0) := Option.some.inj ei0
  obtain ⟨i1, ei1⟩ := is_v ha1
  obtain rfl : w1 = (.int i1) := Option.some.inj ei1
  obtain ⟨i2, ei2⟩ := is_v hg2
  obtain rfl : w2 = (.int i2) := Option.some.inj ei2
  obtain ⟨n, o, h1, h2, h3, _, L, rfl, ⟨rfl, N⟩, hq⟩ := rm0 l s _ hw tables_1 i0 i1 i2 s.heap s.heap.size (Nat.le_refl _) p e ha hc hk s m _ below hf ((Spec.applies_iff_loose hf).mp happ).1 ⟨rfl, State.Warmed39.refl s, rfl⟩ trivial
  refine ⟨n, _, h1, h2, h3, hpost _ _ _ _ _ _ ⟨Cond.after_iff.mpr rfl, Cond.after_iff.mpr (eq_i res_at (Term.int_eval (1)) rfl), trivial⟩ ⟨hq.1, hq.2.1, (hq.2.2.sift fun y hy => Or.inr (N y hy)).mono (by decide) (by decide)⟩⟩
theorem main_1_1 : Claimed_1_1 := comes_1 fun _ _ _ _ _ _ h hF => ⟨h.1, hF⟩
theorem main_1_2 : Claimed_1_2 := comes_1 fun _ _ _ _ _ _ h hF => ⟨h.2.1, hF⟩
end Jvm.Pilot.@@N@@
namespace Jvm.Pilot.@@N@@
open Jvm Jvm.ClassFile Sem Op Lib Jvm.Free Jvm.Stand Jvm.Pilot.@@N@@.Jvm.D
/-! MADE BY PROGRAM (witnessworld.py) out of the Statement's table words and the real class files: 15 classes; the members and pool entries that the words name. The judged class is class 1, her method 1. -/
namespace start1
open Jvm.ClassFile
def u (s : String) : CpInfo := .utf8 (stringToUtf16 s)
/-- a pool by its gaps: so many unusable entries, then the entry; so many at the end -/
def gap : Nat → List CpInfo → List CpInfo
  | 0, r => r
  | n + 1, r => .unusable :: gap n r
def poolList (es : List (Nat × CpInfo)) (last : Nat) : List CpInfo := es.foldr (fun e r => gap e.1 (e.2 :: r)) (gap last [])
def pool (es : List (Nat × CpInfo)) (last : Nat) : Array CpInfo := ⟨poolList es last⟩
def fileOf (pool : Array CpInfo) (this : Nat) (attrs : Array Attribute := #[]) (ms : Array MethodInfo := #[]) (fl : Nat := 33) (sup : Nat := 0) (ifs : Array Nat := #[]) (fds : Array FieldInfo := #[]) : ClassFile where
  minorVersion := 0
  majorVersion := 65
  constantPool := pool
  accessFlags := fl
  thisClass := this
  superClass := sup
  interfaces := ifs
  fields := fds
  methods := ms
  attributes := attrs
def plain (name : String) (sup : Option ClassId) : Class where
  name := name
  kind := .ordinary
  loader := none
  accessFlags := 33
  super := sup
  interfaces := #[]
  cf := none
  fields := #[]
  methods := #[]
  instanceTypes := #[]
  staticTypes := #[]
  resolved := #[]
  callSites := []
  init := .initialized
  statics := none
  mirror := none

def pool0 : Array CpInfo := pool [(5, u "<init>"), (0, u "()V"), (1, .class_ 10), (1, u "java/lang/Object")] 113

def k0c0 : Code := { maxStack := 0, maxLocals := 1, code := object_method_1_code, exceptionTable := #[], attributes := #[] }
def k0m0 : Method := { name := "<init>", desc := "()V", sig := { parameters := [], returnType := none }, accessFlags := 1, code := some k0c0 }
/-- java/lang/Object -/
def k0 : Class := { plain "java/lang/Object" none with
  accessFlags := 33
  interfaces := #[]
  cf := some (fileOf pool0 8 #[] #[{ accessFlags := 1, nameIndex := 5, descriptorIndex := 6, attributes := #[] }] 33 0 #[] #[])
  fields := #[]
  methods := #[k0m0]
  instanceTypes := #[]
  staticTypes := #[]
  resolved := Array.replicate 124 none
  statics := none }

def pool1 : Array CpInfo := pool [(2, .class_ 4), (1, u "java/lang/Object"), (0, u "<init>"), (0, u "()V"), (0, .class_ 8), (0, u "com/example/link_importance/linkimportance/graph/NameList"), (0, .methodref 7 10), (0, .nameAndType 5 11), (0, u "(I)V"), (0, .methodref 7 13), (0, .nameAndType 14 15), (0, u "append"), (0, u "([BII)V"), (0, .methodref 7 17), (0, .nameAndType 18 19), (0, u "length"), (0, u "(I)I"), (0, .class_ 21), (0, u "com/example/link_importance/linkimportance/graph/NameListLengthPinLaw"), (2, u "law"), (0, u "(III)Z")] 5

def k1m0 : Method := { name := "<init>", desc := "()V", sig := { parameters := [], returnType := none }, accessFlags := 1, code := none }
def k1c1 : Code := { maxStack := 5, maxLocals := 11, code := code, exceptionTable := #[], attributes := #[] }
def k1m1 : Method := { name := "law", desc := "(III)Z", sig := { parameters := [.int, .int, .int], returnType := some .boolean }, accessFlags := 9, code := some k1c1 }
/-- com/example/link_importance/linkimportance/graph/NameListLengthPinLaw -/
def k1 : Class := { plain "com/example/link_importance/linkimportance/graph/NameListLengthPinLaw" (some 0) with
  accessFlags := 49
  interfaces := #[]
  cf := some (fileOf pool1 20 #[] #[{ accessFlags := 1, nameIndex := 5, descriptorIndex := 6, attributes := #[] }, { accessFlags := 9, nameIndex := 24, descriptorIndex := 25, attributes := #[] }] 49 2 #[] #[])
  fields := #[]
  methods := #[k1m0, k1m1]
  instanceTypes := #[]
  staticTypes := #[]
  resolved := Array.replicate 31 none
  statics := none }

def pool2 : Array CpInfo := pool [(1, .class_ 2), (0, u "com/example/link_importance/linkimportance/graph/NameList"), (0, .methodref 4 5), (0, .class_ 6), (0, .nameAndType 7 8), (0, u "java/lang/Object"), (0, u "<init>"), (0, u "()V"), (0, .class_ 10), (0, u "[B"), (0, .fieldref 1 12), (0, .nameAndType 13 14), (0, u "chunks"), (0, u "[[B"), (0, .fieldref 1 16), (0, .nameAndType 17 18), (0, u "starts"), (0, u "[J"), (0, .fieldref 1 20), (0, .nameAndType 21 22), (0, u "maxNames"), (0, u "I"), (8, .fieldref 1 32), (0, .nameAndType 33 22), (0, u "size"), (24, u "length"), (0, u "(I)I"), (13, .long 2), (2, .class_ 78), (1, u "java/lang/Math"), (0, u "min"), (2, .class_ 84), (1, u "java/util/Arrays"), (0, u "copyOf"), (1, .long 65535), (1, .integer 65536), (0, .methodref 76 91), (0, .nameAndType 79 92), (0, u "(II)I"), (0, .methodref 1 94), (0, .nameAndType 95 96), (0, u "room"), (0, u "(II)[B"), (0, .methodref 98 99), (0, .class_ 100), (0, .nameAndType 101 102), (0, u "java/lang/System"), (0, u "arraycopy"), (0, u "(Ljava/lang/Object;ILjava/lang/Object;II)V"), (6, .methodref 76 110), (0, .nameAndType 111 92), (0, u "max"), (0, .methodref 82 113), (0, .nameAndType 85 114), (0, u "([BI)[B"), (0, u "CHUNK_BITS"), (2, u "CHUNK_BYTES"), (0, u "CHUNK_MASK"), (1, u "FIRST_CHUNK_BYTES"), (1, u "(I)V"), (10, u "append"), (0, u "([BII)V")] 19

def k2c0 : Code := { maxStack := 5, maxLocals := 2, code := prog_23_method_1_code, exceptionTable := #[], attributes := #[] }
def k2m0 : Method := { name := "<init>", desc := "(I)V", sig := { parameters := [.int], returnType := none }, accessFlags := 0, code := some k2c0 }
def k2c1 : Code := { maxStack := 4, maxLocals := 2, code := prog_23_method_7_code, exceptionTable := #[], attributes := #[] }
def k2m1 : Method := { name := "length", desc := "(I)I", sig := { parameters := [.int], returnType := some .int }, accessFlags := 0, code := some k2c1 }
def k2c2 : Code := { maxStack := 8, maxLocals := 10, code := prog_23_method_9_code, exceptionTable := #[], attributes := #[] }
def k2m2 : Method := { name := "append", desc := "([BII)V", sig := { parameters := [(.array .byte), .int, .int], returnType := none }, accessFlags := 0, code := some k2c2 }
def k2c3 : Code := { maxStack := 5, maxLocals := 4, code := prog_23_method_12_code, exceptionTable := #[], attributes := #[] }
def k2m3 : Method := { name := "room", desc := "(II)[B", sig := { parameters := [.int, .int], returnType := some (.array .byte) }, accessFlags := 2, code := some k2c3 }
/-- com/example/link_importance/linkimportance/graph/NameList -/
def k2 : Class := { plain "com/example/link_importance/linkimportance/graph/NameList" (some 0) with
  accessFlags := 48
  interfaces := #[]
  cf := some (fileOf pool2 1 #[] #[{ accessFlags := 0, nameIndex := 7, descriptorIndex := 123, attributes := #[] }, { accessFlags := 0, nameIndex := 58, descriptorIndex := 59, attributes := #[] }, { accessFlags := 0, nameIndex := 134, descriptorIndex := 135, attributes := #[] }, { accessFlags := 2, nameIndex := 95, descriptorIndex := 96, attributes := #[] }] 48 4 #[] #[{ accessFlags := 26, nameIndex := 115, descriptorIndex := 22, attributes := #[] }, { accessFlags := 26, nameIndex := 118, descriptorIndex := 22, attributes := #[] }, { accessFlags := 26, nameIndex := 119, descriptorIndex := 22, attributes := #[] }, { accessFlags := 26, nameIndex := 121, descriptorIndex := 22, attributes := #[] }, { accessFlags := 18, nameIndex := 21, descriptorIndex := 22, attributes := #[] }, { accessFlags := 2, nameIndex := 13, descriptorIndex := 14, attributes := #[] }, { accessFlags := 2, nameIndex := 17, descriptorIndex := 18, attributes := #[] }, { accessFlags := 2, nameIndex := 33, descriptorIndex := 22, attributes := #[] }])
  fields := #[{ name := "CHUNK_BITS", type := .int, accessFlags := 26, slot := 0, constantValue := 0 }, { name := "CHUNK_BYTES", type := .int, accessFlags := 26, slot := 1, constantValue := 0 }, { name := "CHUNK_MASK", type := .int, accessFlags := 26, slot := 2, constantValue := 0 }, { name := "FIRST_CHUNK_BYTES", type := .int, accessFlags := 26, slot := 3, constantValue := 0 }, { name := "maxNames", type := .int, accessFlags := 18, slot := 0, constantValue := 0 }, { name := "chunks", type := (.array (.array .byte)), accessFlags := 2, slot := 1, constantValue := 0 }, { name := "starts", type := (.array .long), accessFlags := 2, slot := 2, constantValue := 0 }, { name := "size", type := .int, accessFlags := 2, slot := 3, constantValue := 0 }]
  methods := #[k2m0, k2m1, k2m2, k2m3]
  instanceTypes := #[.int, (.array (.array .byte)), (.array .long), .int]
  staticTypes := #[.int, .int, .int, .int]
  resolved := Array.replicate 155 none
  statics := none }

def pool3 : Array CpInfo := pool [(1, .class_ 2), (0, u "java/lang/Math"), (1, .class_ 6), (1, u "java/lang/Object"), (0, u "<init>"), (0, u "()V"), (89, .class_ 100), (1, u "java/lang/Math$RandomNumberGeneratorHolder"), (71, u "negativeZeroFloatBits"), (0, u "J"), (2, u "negativeZeroDoubleBits"), (21, u "max"), (2, u "min"), (43, u "$assertionsDisabled"), (0, u "Z"), (88, u "(II)I"), (2, u "twoToTheDoubleScaleDown"), (0, u "D"), (4, u "twoToTheDoubleScaleUp"), (9, u "E"), (3, u "PI"), (2, u "TAU"), (2, u "DEGREES_TO_RADIANS"), (0, u "RADIANS_TO_DEGREES")] 94

def k3m0 : Method := { name := "<init>", desc := "()V", sig := { parameters := [], returnType := none }, accessFlags := 2, code := none }
def k3c1 : Code := { maxStack := 2, maxLocals := 2, code := jdk_29_method_65_code, exceptionTable := #[], attributes := #[] }
def k3m1 : Method := { name := "max", desc := "(II)I", sig := { parameters := [.int, .int], returnType := some .int }, accessFlags := 9, code := some k3c1 }
def k3c2 : Code := { maxStack := 2, maxLocals := 2, code := jdk_29_method_69_code, exceptionTable := #[], attributes := #[] }
def k3m2 : Method := { name := "min", desc := "(II)I", sig := { parameters := [.int, .int], returnType := some .int }, accessFlags := 9, code := some k3c2 }
/-- java/lang/Math -/
def k3 : Class := { plain "java/lang/Math" (some 0) with
  accessFlags := 49
  interfaces := #[]
  cf := some (fileOf pool3 1 #[.nestMembers #[98]] #[{ accessFlags := 2, nameIndex := 7, descriptorIndex := 8, attributes := #[] }, { accessFlags := 9, nameIndex := 198, descriptorIndex := 335, attributes := #[] }, { accessFlags := 9, nameIndex := 201, descriptorIndex := 335, attributes := #[] }] 49 4 #[] #[{ accessFlags := 25, nameIndex := 354, descriptorIndex := 339, attributes := #[] }, { accessFlags := 25, nameIndex := 358, descriptorIndex := 339, attributes := #[] }, { accessFlags := 25, nameIndex := 361, descriptorIndex := 339, attributes := #[] }, { accessFlags := 26, nameIndex := 364, descriptorIndex := 339, attributes := #[] }, { accessFlags := 26, nameIndex := 365, descriptorIndex := 339, attributes := #[] }, { accessFlags := 26, nameIndex := 172, descriptorIndex := 173, attributes := #[] }, { accessFlags := 26, nameIndex := 176, descriptorIndex := 173, attributes := #[] }, { accessFlags := 8, nameIndex := 344, descriptorIndex := 339, attributes := #[] }, { accessFlags := 8, nameIndex := 338, descriptorIndex := 339, attributes := #[] }, { accessFlags := 4120, nameIndex := 245, descriptorIndex := 246, attributes := #[] }])
  fields := #[{ name := "E", type := .double, accessFlags := 25, slot := 0, constantValue := 0 }, { name := "PI", type := .double, accessFlags := 25, slot := 1, constantValue := 0 }, { name := "TAU", type := .double, accessFlags := 25, slot := 2, constantValue := 0 }, { name := "DEGREES_TO_RADIANS", type := .double, accessFlags := 26, slot := 3, constantValue := 0 }, { name := "RADIANS_TO_DEGREES", type := .double, accessFlags := 26, slot := 4, constantValue := 0 }, { name := "negativeZeroFloatBits", type := .long, accessFlags := 26, slot := 5, constantValue := 0 }, { name := "negativeZeroDoubleBits", type := .long, accessFlags := 26, slot := 6, constantValue := 0 }, { name := "twoToTheDoubleScaleUp", type := .double, accessFlags := 8, slot := 7, constantValue := 0 }, { name := "twoToTheDoubleScaleDown", type := .double, accessFlags := 8, slot := 8, constantValue := 0 }, { name := "$assertionsDisabled", type := .boolean, accessFlags := 4120, slot := 9, constantValue := 0 }]
  methods := #[k3m0, k3m1, k3m2]
  instanceTypes := #[]
  staticTypes := #[.double, .double, .double, .double, .double, .long, .long, .double, .double, .boolean]
  resolved := Array.replicate 460 none
  statics := none }

def pool4 : Array CpInfo := pool [(2, .class_ 4), (1, u "java/lang/Object"), (0, u "<init>"), (0, u "()V"), (1, .class_ 10), (1, u "java/lang/System"), (0, u "allowSecurityManager"), (0, u "I"), (16, u "cons"), (0, u "Ljava/io/Console;"), (77, .class_ 110), (1, u "java/lang/System$CallersHolder"), (43, u "initialErrStream"), (0, u "Ljava/io/PrintStream;"), (19, u "security"), (0, u "Ljava/lang/SecurityManager;"), (31, .class_ 209), (0, u "java/lang/System$1"), (7, u "props"), (0, u "Ljava/util/Properties;"), (2, u "lineSeparator"), (0, u "Ljava/lang/String;"), (96, .class_ 321), (1, u "java/lang/System$LoggerFinder"), (5, .class_ 328), (0, u "java/lang/System$Logger"), (67, u "err"), (2, u "out"), (91, u "notSupportedJnuEncoding"), (15, u "in"), (17, u "initialIn"), (0, u "Ljava/io/InputStream;"), (35, u "bootLayer"), (0, u "Ljava/lang/ModuleLayer;"), (99, .class_ 664), (0, u "java/lang/System$2"), (9, u "NEVER"), (2, u "MAYBE"), (49, u "arraycopy"), (0, u "(Ljava/lang/Object;ILjava/lang/Object;II)V"), (72, .class_ 802), (0, u "java/lang/System$Logger$Level")] 31

def k4m0 : Method := { name := "<init>", desc := "()V", sig := { parameters := [], returnType := none }, accessFlags := 2, code := none }
def k4m1 : Method := { name := "arraycopy", desc := "(Ljava/lang/Object;ILjava/lang/Object;II)V", sig := { parameters := [(.object "java/lang/Object"), .int, (.object "java/lang/Object"), .int, .int], returnType := none }, accessFlags := 265, code := none }
/-- java/lang/System -/
def k4 : Class := { plain "java/lang/System" (some 0) with
  accessFlags := 49
  interfaces := #[]
  cf := some (fileOf pool4 8 #[.nestMembers #[319, 327, 801, 108, 663, 208]] #[{ accessFlags := 2, nameIndex := 5, descriptorIndex := 6, attributes := #[] }, { accessFlags := 265, nameIndex := 727, descriptorIndex := 728, attributes := #[] }] 49 2 #[] #[{ accessFlags := 25, nameIndex := 507, descriptorIndex := 526, attributes := #[] }, { accessFlags := 25, nameIndex := 399, descriptorIndex := 155, attributes := #[] }, { accessFlags := 25, nameIndex := 396, descriptorIndex := 155, attributes := #[] }, { accessFlags := 10, nameIndex := 525, descriptorIndex := 526, attributes := #[] }, { accessFlags := 26, nameIndex := 674, descriptorIndex := 12, attributes := #[] }, { accessFlags := 26, nameIndex := 677, descriptorIndex := 12, attributes := #[] }, { accessFlags := 10, nameIndex := 11, descriptorIndex := 12, attributes := #[] }, { accessFlags := 74, nameIndex := 175, descriptorIndex := 176, attributes := #[] }, { accessFlags := 10, nameIndex := 491, descriptorIndex := 222, attributes := #[] }, { accessFlags := 74, nameIndex := 29, descriptorIndex := 30, attributes := #[] }, { accessFlags := 74, nameIndex := 154, descriptorIndex := 155, attributes := #[] }, { accessFlags := 10, nameIndex := 217, descriptorIndex := 218, attributes := #[] }, { accessFlags := 10, nameIndex := 221, descriptorIndex := 222, attributes := #[] }, { accessFlags := 8, nameIndex := 562, descriptorIndex := 563, attributes := #[] }])
  fields := #[{ name := "in", type := (.object "java/io/InputStream"), accessFlags := 25, slot := 0, constantValue := 0 }, { name := "out", type := (.object "java/io/PrintStream"), accessFlags := 25, slot := 1, constantValue := 0 }, { name := "err", type := (.object "java/io/PrintStream"), accessFlags := 25, slot := 2, constantValue := 0 }, { name := "initialIn", type := (.object "java/io/InputStream"), accessFlags := 10, slot := 3, constantValue := 0 }, { name := "NEVER", type := .int, accessFlags := 26, slot := 4, constantValue := 0 }, { name := "MAYBE", type := .int, accessFlags := 26, slot := 5, constantValue := 0 }, { name := "allowSecurityManager", type := .int, accessFlags := 10, slot := 6, constantValue := 0 }, { name := "security", type := (.object "java/lang/SecurityManager"), accessFlags := 74, slot := 7, constantValue := 0 }, { name := "notSupportedJnuEncoding", type := (.object "java/lang/String"), accessFlags := 10, slot := 8, constantValue := 0 }, { name := "cons", type := (.object "java/io/Console"), accessFlags := 74, slot := 9, constantValue := 0 }, { name := "initialErrStream", type := (.object "java/io/PrintStream"), accessFlags := 74, slot := 10, constantValue := 0 }, { name := "props", type := (.object "java/util/Properties"), accessFlags := 10, slot := 11, constantValue := 0 }, { name := "lineSeparator", type := (.object "java/lang/String"), accessFlags := 10, slot := 12, constantValue := 0 }, { name := "bootLayer", type := (.object "java/lang/ModuleLayer"), accessFlags := 8, slot := 13, constantValue := 0 }]
  methods := #[k4m0, k4m1]
  instanceTypes := #[]
  staticTypes := #[(.object "java/io/InputStream"), (.object "java/io/PrintStream"), (.object "java/io/PrintStream"), (.object "java/io/InputStream"), .int, .int, .int, (.object "java/lang/SecurityManager"), (.object "java/lang/String"), (.object "java/io/Console"), (.object "java/io/PrintStream"), (.object "java/util/Properties"), (.object "java/lang/String"), (.object "java/lang/ModuleLayer")]
  resolved := Array.replicate 834 none
  statics := none }

def pool5 : Array CpInfo := pool [(2, .class_ 4), (1, u "java/lang/Object"), (0, u "<init>"), (0, u "()V"), (7, .class_ 16), (1, u "java/util/Arrays"), (57, .class_ 76), (1, u "java/util/Arrays$NaturalOrder"), (36, .class_ 115), (1, u "java/util/Arrays$LegacyMergeSort"), (1, u "Z"), (32, .methodref 151 152), (0, .class_ 153), (0, .nameAndType 154 155), (0, u "java/lang/System"), (0, u "arraycopy"), (0, u "(Ljava/lang/Object;ILjava/lang/Object;II)V"), (146, u "copyOf"), (1, .methodref 305 306), (0, .class_ 307), (0, .nameAndType 308 309), (0, u "java/lang/Math"), (0, u "min"), (0, u "(II)I"), (65, .class_ 376), (0, u "java/util/Arrays$ArrayList"), (68, u "$assertionsDisabled"), (269, u "MIN_ARRAY_SORT_GRAN"), (0, u "I"), (2, u "INSERTIONSORT_THRESHOLD"), (149, u "([BI)[B"), (105, .class_ 976), (0, u "java/util/Arrays$ArrayItr")] 52

def k5m0 : Method := { name := "<init>", desc := "()V", sig := { parameters := [], returnType := none }, accessFlags := 2, code := none }
def k5c1 : Code := { maxStack := 6, maxLocals := 3, code := jdk_65_method_121_code, exceptionTable := #[], attributes := #[] }
def k5m1 : Method := { name := "copyOf", desc := "([BI)[B", sig := { parameters := [(.array .byte), .int], returnType := some (.array .byte) }, accessFlags := 9, code := some k5c1 }
/-- java/util/Arrays -/
def k5 : Class := { plain "java/util/Arrays" (some 0) with
  accessFlags := 49
  interfaces := #[]
  cf := some (fileOf pool5 14 #[.nestMembers #[975, 375, 113, 74]] #[{ accessFlags := 2, nameIndex := 5, descriptorIndex := 6, attributes := #[] }, { accessFlags := 9, nameIndex := 302, descriptorIndex := 869, attributes := #[] }] 49 2 #[] #[{ accessFlags := 26, nameIndex := 715, descriptorIndex := 716, attributes := #[] }, { accessFlags := 26, nameIndex := 719, descriptorIndex := 716, attributes := #[] }, { accessFlags := 4120, nameIndex := 445, descriptorIndex := 117, attributes := #[] }])
  fields := #[{ name := "MIN_ARRAY_SORT_GRAN", type := .int, accessFlags := 26, slot := 0, constantValue := 0 }, { name := "INSERTIONSORT_THRESHOLD", type := .int, accessFlags := 26, slot := 1, constantValue := 0 }, { name := "$assertionsDisabled", type := .boolean, accessFlags := 4120, slot := 2, constantValue := 0 }]
  methods := #[k5m0, k5m1]
  instanceTypes := #[]
  staticTypes := #[.int, .int, .boolean]
  resolved := Array.replicate 1029 none
  statics := none }

def pool6 : Array CpInfo := pool [(1, u "java/lang/Cloneable"), (0, .class_ 1), (0, u "java/lang/Object"), (0, .class_ 3)] 3

/-- java/lang/Cloneable -/
def k6 : Class := { plain "java/lang/Cloneable" (some 0) with
  accessFlags := 1537
  interfaces := #[]
  cf := some (fileOf pool6 2 #[] #[] 1537 4 #[] #[])
  fields := #[]
  methods := #[]
  instanceTypes := #[]
  staticTypes := #[]
  resolved := Array.replicate 8 none
  statics := none }

def pool7 : Array CpInfo := pool [(1, u "java/io/Serializable"), (0, .class_ 1), (0, u "java/lang/Object"), (0, .class_ 3)] 3

/-- java/io/Serializable -/
def k7 : Class := { plain "java/io/Serializable" (some 0) with
  accessFlags := 1537
  interfaces := #[]
  cf := some (fileOf pool7 2 #[] #[] 1537 4 #[] #[])
  fields := #[]
  methods := #[]
  instanceTypes := #[]
  staticTypes := #[]
  resolved := Array.replicate 8 none
  statics := none }

/-- the primitive byte -/
def k8 : Class := { plain "byte" none with kind := .primitive 'B', accessFlags := 0x411 }
/-- [B -/
def k9 : Class := { plain "[B" (some 0) with kind := .array 8 .byte, interfaces := #[6, 7], accessFlags := 1041 }

/-- the primitive int -/
def k10 : Class := { plain "int" none with kind := .primitive 'I', accessFlags := 0x411 }
/-- [I -/
def k11 : Class := { plain "[I" (some 0) with kind := .array 10 .int, interfaces := #[6, 7], accessFlags := 1041 }

/-- the primitive long -/
def k12 : Class := { plain "long" none with kind := .primitive 'J', accessFlags := 0x411 }
/-- [J -/
def k13 : Class := { plain "[J" (some 0) with kind := .array 12 .long, interfaces := #[6, 7], accessFlags := 1041 }

/-- [L[B; -/
def k14 : Class := { plain "[[B" (some 0) with kind := .array 9 (.array .byte), interfaces := #[6, 7], accessFlags := 1041 }

def heap : Heap := #[{ cls := 14, slots := #[.null], vm := .none }]
def classes : Array Class := #[k0, k1, k2, k3, k4, k5, k6, k7, k8, k9, k10, k11, k12, k13, k14]
def interned : List (Array UInt16 × Addr) := []
def slotsUsed : Nat := 1
def theMethod : MethodId := ⟨1, 1⟩
def args0 : Array Value := #[.int 5, .int 7, .int 9]
def aboutOver (below : List Frame) : State where
  vm := { classes := classes, interned := interned.toArray }
  heap := heap
  slotsUsed := slotsUsed
  threads := #[{ frames := .invoking theMethod args0 :: below }]
def below0 : List Frame := [.native { method := ⟨0, 0⟩, args := #[] }]
def about1 : State := aboutOver below0
def p0 : Program := .bare "" "" ""
def e0 : Env := launch0.env 0 0 0
theorem w_frames : about1.frames = Frame.invoking theMethod args0 :: below0 := rfl
set_option maxRecDepth 65536 in
theorem w_args : argsFit about1.vm theMethod args0 = true := by decide +kernel
set_option maxRecDepth 65536 in
theorem w_heap : heapFits about1 = true := by decide +kernel
set_option maxRecDepth 65536 in
theorem w_runnable : about1.curStatus? = some .runnable := by decide +kernel
set_option maxRecDepth 65536 in
theorem w_alone : about1.alone = true := by decide +kernel
set_option maxRecDepth 65536 in
theorem w_named : about1.methodNamed? x = some theMethod := by decide +kernel
set_option maxRecDepth 65536 in
theorem w_hears : about1.hears theMethod below0 = true := by decide +kernel
set_option maxRecDepth 65536 in
theorem w_ripe : about1.ripe theMethod args0 below0 = true := by decide +kernel
theorem w_running : about1.status = .running := rfl
set_option maxRecDepth 65536 in
theorem w_room : about1.hasRoom e0.platform room_1 = true :=
  launch0.hasRoom_least _ room_1 (by decide +kernel) (by decide +kernel) (by decide +kernel) (by decide +kernel) (by decide +kernel) (by decide +kernel)
theorem allAtoms_all (ts : List Jvm.Cond) (a : Array Jvm.Value) (st : Jvm.State) : (allAtoms ts).before a st = ts.all (fun c => c.before a st) := by
  induction ts with
  | nil => rfl
  | cons c t ih =>
    show (Jvm.Cond.and c (allAtoms t)).before a st = _
    rw [Jvm.Cond.before_and, ih, List.all_cons]
def words1 : List Jvm.Cond := Jvm.Cond.code x code maxLocals ret :: tables_1
/-- a 'code' word, met by the world's own term for the bytes: nothing is compared byte by byte -/
theorem code_word {y : MethodName} {bytes : ByteArray} {mx : Nat} {rt : Option FieldType} {a : Array Value} {s : State} {m : MethodId} {meth : Method} {c : Code} (h1 : s.methodNamed? y = some m) (h2 : s.vm.method? m = some meth) (h3 : meth.code = some c) (h4 : c.code = bytes)
    (h5 : (c.maxLocals == mx && c.exceptionTable.isEmpty && decide (c.maxStack ≤ mostOperands) && decide (meth.sig.returnType = rt) && !meth.locks && decide (parseMethodDescriptor y.desc = some meth.sig)) = true) : (Jvm.Cond.code y bytes mx rt).before a s = true := by
  simp only [Bool.and_eq_true, beq_iff_eq, Bool.not_eq_true', decide_eq_true_eq] at h5
  obtain ⟨⟨⟨⟨⟨g1, g2⟩, g3⟩, g4⟩, g5⟩, g6⟩ := h5
  simp [Cond.before, Cond.holds, Cond.value, h1, h2, h3, h4, g1, g2, g3, g4, g5, g6]
def isCode : Jvm.Cond → Bool
  | .code _ _ _ _ => true
  | _ => false
theorem all_split {L : List Jvm.Cond} {P : Jvm.Cond → Bool} (h1 : L.all (fun c => isCode c || P c) = true) (h2 : ∀ c ∈ L.filter isCode, P c = true) : L.all P = true := by
  refine List.all_eq_true.mpr fun c hc => ?_
  have h := List.all_eq_true.mp h1 c hc
  rcases Bool.eq_false_or_eq_true (isCode c) with hi | hi
  · exact h2 c (List.mem_filter.mpr ⟨hc, hi⟩)
  · simpa [hi] using h
set_option maxRecDepth 65536 in
theorem w_c0 : (Jvm.Cond.code x code maxLocals ret).before args0 about1 = true := code_word (m := ⟨1, 1⟩) (meth := k1m1) (c := k1c1) (by decide +kernel) rfl rfl rfl (by decide +kernel)
set_option maxRecDepth 65536 in
theorem w_c1 : (Jvm.Cond.code ({ cls := "com/example/link_importance/linkimportance/graph/NameList", name := "<init>", desc := "(I)V" } : Jvm.MethodName) prog_23_method_1_code (2 : Nat) (Option.none : Option Jvm.ClassFile.FieldType)).before args0 about1 = true := code_word (m := ⟨2, 0⟩) (meth := k2m0) (c := k2c0) (by decide +kernel) rfl rfl rfl (by decide +kernel)
set_option maxRecDepth 65536 in
theorem w_c2 : (Jvm.Cond.code ({ cls := "java/lang/Object", name := "<init>", desc := "()V" } : Jvm.MethodName) object_method_1_code (1 : Nat) (Option.none : Option Jvm.ClassFile.FieldType)).before args0 about1 = true := code_word (m := ⟨0, 0⟩) (meth := k0m0) (c := k0c0) (by decide +kernel) rfl rfl rfl (by decide +kernel)
set_option maxRecDepth 65536 in
theorem w_c3 : (Jvm.Cond.code ({ cls := "com/example/link_importance/linkimportance/graph/NameList", name := "append", desc := "([BII)V" } : Jvm.MethodName) prog_23_method_9_code (10 : Nat) (Option.none : Option Jvm.ClassFile.FieldType)).before args0 about1 = true := code_word (m := ⟨2, 2⟩) (meth := k2m2) (c := k2c2) (by decide +kernel) rfl rfl rfl (by decide +kernel)
set_option maxRecDepth 65536 in
theorem w_c4 : (Jvm.Cond.code ({ cls := "java/lang/Math", name := "min", desc := "(II)I" } : Jvm.MethodName) jdk_29_method_69_code (2 : Nat) (Option.some Jvm.ClassFile.FieldType.int)).before args0 about1 = true := code_word (m := ⟨3, 2⟩) (meth := k3m2) (c := k3c2) (by decide +kernel) rfl rfl rfl (by decide +kernel)
set_option maxRecDepth 65536 in
theorem w_c5 : (Jvm.Cond.code ({ cls := "com/example/link_importance/linkimportance/graph/NameList", name := "room", desc := "(II)[B" } : Jvm.MethodName) prog_23_method_12_code (4 : Nat) (Option.some (Jvm.ClassFile.FieldType.array Jvm.ClassFile.FieldType.byte))).before args0 about1 = true := code_word (m := ⟨2, 3⟩) (meth := k2m3) (c := k2c3) (by decide +kernel) rfl rfl rfl (by decide +kernel)
set_option maxRecDepth 65536 in
theorem w_c6 : (Jvm.Cond.code ({ cls := "com/example/link_importance/linkimportance/graph/NameList", name := "length", desc := "(I)I" } : Jvm.MethodName) prog_23_method_7_code (2 : Nat) (Option.some Jvm.ClassFile.FieldType.int)).before args0 about1 = true := code_word (m := ⟨2, 1⟩) (meth := k2m1) (c := k2c1) (by decide +kernel) rfl rfl rfl (by decide +kernel)
set_option maxRecDepth 65536 in
theorem w_c7 : (Jvm.Cond.code ({ cls := "java/lang/Math", name := "max", desc := "(II)I" } : Jvm.MethodName) jdk_29_method_65_code (2 : Nat) (Option.some Jvm.ClassFile.FieldType.int)).before args0 about1 = true := code_word (m := ⟨3, 1⟩) (meth := k3m1) (c := k3c1) (by decide +kernel) rfl rfl rfl (by decide +kernel)
set_option maxRecDepth 65536 in
theorem w_c8 : (Jvm.Cond.code ({ cls := "java/util/Arrays", name := "copyOf", desc := "([BI)[B" } : Jvm.MethodName) jdk_65_method_121_code (3 : Nat) (Option.some (Jvm.ClassFile.FieldType.array Jvm.ClassFile.FieldType.byte))).before args0 about1 = true := code_word (m := ⟨5, 1⟩) (meth := k5m1) (c := k5c1) (by decide +kernel) rfl rfl rfl (by decide +kernel)
def codes1 : List Jvm.Cond := [Jvm.Cond.code x code maxLocals ret, Jvm.Cond.code ({ cls := "com/example/link_importance/linkimportance/graph/NameList", name := "<init>", desc := "(I)V" } : Jvm.MethodName) prog_23_method_1_code (2 : Nat) (Option.none : Option Jvm.ClassFile.FieldType), Jvm.Cond.code ({ cls := "java/lang/Object", name := "<init>", desc := "()V" } : Jvm.MethodName) object_method_1_code (1 : Nat) (Option.none : Option Jvm.ClassFile.FieldType), Jvm.Cond.code ({ cls := "com/example/link_importance/linkimportance/graph/NameList", name := "append", desc := "([BII)V" } : Jvm.MethodName) prog_23_method_9_code (10 : Nat) (Option.none : Option Jvm.ClassFile.FieldType), Jvm.Cond.code ({ cls := "java/lang/Math", name := "min", desc := "(II)I" } : Jvm.MethodName) jdk_29_method_69_code (2 : Nat) (Option.some Jvm.ClassFile.FieldType.int), Jvm.Cond.code ({ cls := "com/example/link_importance/linkimportance/graph/NameList", name := "room", desc := "(II)[B" } : Jvm.MethodName) prog_23_method_12_code (4 : Nat) (Option.some (Jvm.ClassFile.FieldType.array Jvm.ClassFile.FieldType.byte)), Jvm.Cond.code ({ cls := "com/example/link_importance/linkimportance/graph/NameList", name := "length", desc := "(I)I" } : Jvm.MethodName) prog_23_method_7_code (2 : Nat) (Option.some Jvm.ClassFile.FieldType.int), Jvm.Cond.code ({ cls := "java/lang/Math", name := "max", desc := "(II)I" } : Jvm.MethodName) jdk_29_method_65_code (2 : Nat) (Option.some Jvm.ClassFile.FieldType.int), Jvm.Cond.code ({ cls := "java/util/Arrays", name := "copyOf", desc := "([BI)[B" } : Jvm.MethodName) jdk_65_method_121_code (3 : Nat) (Option.some (Jvm.ClassFile.FieldType.array Jvm.ClassFile.FieldType.byte))]
set_option maxRecDepth 65536 in
theorem codes_eq : words1.filter isCode = codes1 := rfl
theorem w_codes : ∀ c ∈ words1.filter isCode, c.before args0 about1 = true := by
  rw [codes_eq]
  intro c hc
  simp only [codes1, List.mem_cons, List.not_mem_nil, or_false] at hc
  rcases hc with rfl | rfl | rfl | rfl | rfl | rfl | rfl | rfl | rfl
  · exact w_c0
  · exact w_c1
  · exact w_c2
  · exact w_c3
  · exact w_c4
  · exact w_c5
  · exact w_c6
  · exact w_c7
  · exact w_c8
set_option maxRecDepth 65536 in
theorem w_t1 : (words1.take 24).all (fun c => isCode c || c.before args0 about1) = true := by decide +kernel
set_option maxRecDepth 65536 in
theorem w_t2 : ((words1.drop 24).take 24).all (fun c => isCode c || c.before args0 about1) = true := by decide +kernel
set_option maxRecDepth 65536 in
theorem w_t3 : ((words1.drop 24).drop 24).all (fun c => isCode c || c.before args0 about1) = true := by decide +kernel
theorem w_tables : (allAtoms (Jvm.Cond.code x code maxLocals ret :: tables_1)).before args0 about1 = true := by
  rw [allAtoms_all]
  show words1.all (fun c => c.before args0 about1) = true
  refine all_split ?_ w_codes
  rw [← List.take_append_drop 24 words1, List.all_append, w_t1, ← List.take_append_drop 24 (words1.drop 24), List.all_append, w_t2, w_t3]
  rfl
set_option maxRecDepth 65536 in
theorem w_case : (Jvm.Cond.and given_1 narrow_1).before args0 about1 = true := by decide +kernel
theorem w_applies : (headSpec (Jvm.Cond.code x code maxLocals ret :: tables_1) room_1).applies x e0.platform about1 = true :=
  (Spec.applies_iff w_frames).mpr ⟨w_running, w_runnable, w_alone, w_named, w_hears, w_ripe, w_room, w_tables⟩
theorem atStart : AtStart classFile x code maxLocals ret World_1 tables_1 room_1 Calls_1 rest_1 Pre_1 launch0 p0 e0 about1 theMethod args0 below0 :=
  ⟨lists_1, trivial, launch0.admits_env _ _ _, launch0.least_env, fairChoices_fair.cas, fairChoices_fair.clock, w_frames, w_args, w_heap, w_applies, trivial, trivial, w_case⟩
end start1
theorem witness_1 : WitnessClaimed_1 := ⟨start1.p0, start1.e0, start1.about1, start1.theMethod, start1.args0, start1.below0, start1.atStart⟩
end Jvm.Pilot.@@N@@
