import JvmDerived
import JvmDerived.Pilot.@@N@@Statement
import JvmDerived.Pilot.@@N@@Code
set_option linter.unusedVariables false
set_option linter.unusedSimpArgs false
namespace Jvm.RoadKit
open Sem ClassFile Op Lib Jvm.Stand Jvm.Free Jvm.LawKit
section Own
variable {p : Program} {l : Launch} {e : Env} {R : Room} {s : State} {m : MethodId} {args : Array Value} {below : List Frame} {meth : Method} {c : Code} {T : State} {locs : List Loc} {cells slots : Nat} {Z : State} {h : Heap} {a : Addr} {k : ClassId} {n j : Int32} {vs : List Value} {dv : Value} {ty : FieldType}
theorem own_retI (X : Stand p l e R s m args below meth c T locs cells slots) (hx : p.tables.exec = Jvm.exec) {pc : Nat} {Ls : Array Slot} {z : Int32} {rest : List Value} (hret : meth.sig.returnType = some .int) (hd : decode c.code pc = .ok (.ireturn, 1)) {fs : List Frame}
    (hl : ∀ (f : JFrame) (acts : List Action), f.method = m → f.locked = none → f.entered = [] → (doReturn e (T.setTop f) acts (some (.int z))).1 = T.setFrames fs) : Steps p.tables e below (T.setTop (mkF m pc Ls (.int z :: rest))) (T.setFrames fs) :=
  retOut X hx hret rfl (Or.inl ⟨rfl, Or.inl rfl, _, rfl⟩) hd hl
/-- the run from st ends as the contract says -/
def own_Ends (p : Program) (e : Env) (below : List Frame) (s : State) (C S : Nat) (Q : Option Value → Heap → List Loc → Prop) (st : State) : Prop :=
  ∃ s₂ o, Steps p.tables e below st s₂ ∧ s₂.status = .running ∧ Ended s₂ below o ∧ ∃ v L, o = .returned v ∧ Q v s₂.heap L ∧ FrameEnd s o s₂ L C S
theorem own_step {C S : Nat} {Q : Option Value → Heap → List Loc → Prop} {st st' : State} (f : ∀ t, Steps p.tables e below st' t → Steps p.tables e below st t) (h : own_Ends p e below s C S Q st') : own_Ends p e below s C S Q st := by
  obtain ⟨s2, o, h1, h2⟩ := h
  exact ⟨s2, o, f _ h1, h2⟩
theorem own_sstep {st st' t : State} (f : ∀ t, Steps p.tables e below st' t → Steps p.tables e below st t) (h : Steps p.tables e below st' t) : Steps p.tables e below st t := f _ h
theorem own_ret (X : Stand p l e R s m args below meth c T locs cells slots) (hlocks : meth.locks = false) {C S : Nat} {Q : Option Value → Heap → List Loc → Prop} {g : JFrame} (v : Option Value) (hv : meth.sig.returnType = none → v = none)
    (st : ∀ fs, (∀ (f : JFrame) (acts : List Action), f.method = m → f.locked = none → f.entered = [] → (doReturn e (T.setTop f) acts v).1 = T.setFrames fs) → Steps p.tables e below (T.setTop g) (T.setFrames fs))
    (hQ : Q v T.heap locs) (hc : cells ≤ C) (hs : slots ≤ S) : own_Ends p e below s C S Q (T.setTop g) := by
  obtain ⟨fs, hr, hrun, hended, hW, hsame⟩ := X.leave (v := v) hv
  exact ⟨_, _, st fs hr, hrun, hended, _, _, rfl, hQ, ⟨_, rfl⟩, hW, hsame.mono hc hs⟩
theorem own_b1 {P : Prop} [Decidable P] (hp : P) : ¬ ((if P then (1 : Int32) else (0 : Int32)) = 0) := by rw [if_pos hp]; decide
theorem own_b1n {P : Prop} [Decidable P] (hp : ¬ P) : ¬ ((if P then (0 : Int32) else (1 : Int32)) = 0) := by rw [if_neg hp]; decide
theorem own_nar01 {P : Prop} [Decidable P] : nar .boolean (if P then (0 : Int32) else (1 : Int32)) = if P then (0 : Int32) else (1 : Int32) := by split <;> rfl
theorem own_nar10 {P : Prop} [Decidable P] : nar .boolean (if P then (1 : Int32) else (0 : Int32)) = if P then (1 : Int32) else (0 : Int32) := by split <;> rfl
theorem own_lrem {tb : Tables} [Ours tb] {target : State} {g : JFrame} (ha : At T m c below) (hx : tb.exec = Jvm.exec) (hg : g.method = m) {x y : Int64} {rest : List Value} (hd : decode c.code g.pc = .ok (.lrem, 1)) (hs : g.stack = .long y :: .long x :: rest) (hy : y ≠ 0) (hr : Steps tb e below (T.setTop { g with pc := g.pc + 1, stack := .long (x % y) :: rest }) target) : Steps tb e below (T.setTop g) target :=
  XS.lrem ha hx hg hd hs hy (by rw [lrem_mod]; exact hr)
theorem own_len (X : Stand p l e R s m args below meth c T locs cells slots) (hx : p.tables.exec = Jvm.exec) (hZ : Z.Warmed39 s.vm) (eT : T.heap = h) (A : Arv Z h a k ty n vs dv) {g : JFrame} (hg : g.method = m) {rest : List Value} (hs : g.stack = .ref a :: rest) (hd : decode c.code g.pc = .ok (.arraylength, 1)) :
    ∀ target, Steps p.tables e below (T.setTop { g with pc := g.pc + 1, stack := .int n :: rest }) target → Steps p.tables e below (T.setTop g) target := by
  obtain ⟨cl, Ar, -, S, N, -, -⟩ := A
  intro t k
  refine X.arraylength hx (by rw [eT]; exact Ar.1) (State.isArrayOf_alike hZ.alike Ar.2.1) hg hs hd t ?_
  rw [len_of S N]; exact k
theorem own_ldI (X : Stand p l e R s m args below meth c T locs cells slots) (hx : p.tables.exec = Jvm.exec) (hZ : Z.Warmed39 s.vm) (eT : T.heap = h) (A : Arv Z h a k .int n vs dv) {j : Int32} {v : Value} (hj : ¬ j < 0 ∧ j < n) (hv : vs.getD j.toNatClampNeg dv = v) {g : JFrame} (hg : g.method = m) {rest : List Value} (hs : g.stack = .int j :: .ref a :: rest) (hd : decode c.code g.pc = .ok (.iaload, 1)) :
    ∀ target, Steps p.tables e below (T.setTop { g with pc := g.pc + 1, stack := v :: rest }) target → Steps p.tables e below (T.setTop g) target := by
  obtain ⟨cl, Ar, -, S, N, H, -⟩ := A
  intro t k
  exact X.iaload hx (by rw [eT]; exact Ar.1) (State.isArrayOf_alike hZ.alike Ar.2.1) Ar.2.2 (inb_of S hj) (H.at (inb_of S hj) hv) hg hs hd t k
theorem own_ldJ (X : Stand p l e R s m args below meth c T locs cells slots) (hx : p.tables.exec = Jvm.exec) (hZ : Z.Warmed39 s.vm) (eT : T.heap = h) (A : Arv Z h a k .long n vs dv) {j : Int32} {v : Value} (hj : ¬ j < 0 ∧ j < n) (hv : vs.getD j.toNatClampNeg dv = v) {g : JFrame} (hg : g.method = m) {rest : List Value} (hs : g.stack = .int j :: .ref a :: rest) (hd : decode c.code g.pc = .ok (.laload, 1)) :
    ∀ target, Steps p.tables e below (T.setTop { g with pc := g.pc + 1, stack := v :: rest }) target → Steps p.tables e below (T.setTop g) target := by
  obtain ⟨cl, Ar, -, S, N, H, -⟩ := A
  intro t k
  exact X.laload hx (by rw [eT]; exact Ar.1) (State.isArrayOf_alike hZ.alike Ar.2.1) Ar.2.2 (inb_of S hj) (H.at (inb_of S hj) hv) hg hs hd t k
theorem own_ldC (X : Stand p l e R s m args below meth c T locs cells slots) (hx : p.tables.exec = Jvm.exec) (hZ : Z.Warmed39 s.vm) (eT : T.heap = h) (A : Arv Z h a k .char n vs dv) {j : Int32} {v : Value} (hj : ¬ j < 0 ∧ j < n) (hv : vs.getD j.toNatClampNeg dv = v) {g : JFrame} (hg : g.method = m) {rest : List Value} (hs : g.stack = .int j :: .ref a :: rest) (hd : decode c.code g.pc = .ok (.caload, 1)) :
    ∀ target, Steps p.tables e below (T.setTop { g with pc := g.pc + 1, stack := v :: rest }) target → Steps p.tables e below (T.setTop g) target := by
  obtain ⟨cl, Ar, -, S, N, H, -⟩ := A
  intro t k
  exact X.caload hx (by rw [eT]; exact Ar.1) (State.isArrayOf_alike hZ.alike Ar.2.1) Ar.2.2 (inb_of S hj) (H.at (inb_of S hj) hv) hg hs hd t k
theorem own_ldB (X : Stand p l e R s m args below meth c T locs cells slots) (hx : p.tables.exec = Jvm.exec) (hZ : Z.Warmed39 s.vm) (eT : T.heap = h) (A : Arv Z h a k .byte n vs dv) {j : Int32} {v : Value} (hj : ¬ j < 0 ∧ j < n) (hv : vs.getD j.toNatClampNeg dv = v) {g : JFrame} (hg : g.method = m) {rest : List Value} (hs : g.stack = .int j :: .ref a :: rest) (hd : decode c.code g.pc = .ok (.baload, 1)) :
    ∀ target, Steps p.tables e below (T.setTop { g with pc := g.pc + 1, stack := v :: rest }) target → Steps p.tables e below (T.setTop g) target := by
  obtain ⟨cl, Ar, -, S, N, H, -⟩ := A
  intro t k
  exact X.baloadBytes hx (by rw [eT]; exact Ar.1) (State.isArrayOf_alike hZ.alike Ar.2.1) Ar.2.2 (inb_of S hj) (H.at (inb_of S hj) hv) hg hs hd t k
theorem own_stI (X : Stand p l e R s m args below meth c T locs cells slots) (hx : p.tables.exec = Jvm.exec) (hZ : Z.Warmed39 s.vm) (eT : T.heap = h) (A : Arv Z h a k .int n vs dv) {j x : Int32} {i : Nat} (hj : ¬ j < 0 ∧ j < n) (hi : j.toNatClampNeg = i) (hl : i < vs.length) {g : JFrame} (hg : g.method = m) {rest : List Value} (hs : g.stack = .int x :: .int j :: .ref a :: rest) (hd : decode c.code g.pc = .ok (.iastore, 1)) :
    ∃ T' h', Stand p l e R s m args below meth c T' (locs ++ [⟨a, j.toNatClampNeg⟩]) cells slots ∧ T'.heap = h' ∧ Wr h h' a j.toNatClampNeg (.int x) ∧ Arv Z h' a k .int n (vs.set i (.int x)) dv ∧ ∀ target, Steps p.tables e below (T'.setTop { g with pc := g.pc + 1, stack := rest }) target → Steps p.tables e below (T.setTop g) target := by
  obtain ⟨cl, Ar, q, S, N, H, G⟩ := A
  obtain ⟨T', h', X', e', W, st⟩ := stI X hx hZ eT Ar (inb_of S hj) hg hs hd
  exact ⟨T', h', X', e', W, Arv.set Ar q S N H G rfl W i hi hl, st⟩
theorem own_stJ (X : Stand p l e R s m args below meth c T locs cells slots) (hx : p.tables.exec = Jvm.exec) (hZ : Z.Warmed39 s.vm) (eT : T.heap = h) (A : Arv Z h a k .long n vs dv) {j : Int32} {x : Int64} {i : Nat} (hj : ¬ j < 0 ∧ j < n) (hi : j.toNatClampNeg = i) (hl : i < vs.length) {g : JFrame} (hg : g.method = m) {rest : List Value} (hs : g.stack = .long x :: .int j :: .ref a :: rest) (hd : decode c.code g.pc = .ok (.lastore, 1)) :
    ∃ T' h', Stand p l e R s m args below meth c T' (locs ++ [⟨a, j.toNatClampNeg⟩]) cells slots ∧ T'.heap = h' ∧ Wr h h' a j.toNatClampNeg (.long x) ∧ Arv Z h' a k .long n (vs.set i (.long x)) dv ∧ ∀ target, Steps p.tables e below (T'.setTop { g with pc := g.pc + 1, stack := rest }) target → Steps p.tables e below (T.setTop g) target := by
  obtain ⟨cl, Ar, q, S, N, H, G⟩ := A
  obtain ⟨T', h', X', e', W, st⟩ := stJ X hx hZ eT Ar (inb_of S hj) hg hs hd
  exact ⟨T', h', X', e', W, Arv.set Ar q S N H G rfl W i hi hl, st⟩
theorem own_stB (X : Stand p l e R s m args below meth c T locs cells slots) (hx : p.tables.exec = Jvm.exec) (hZ : Z.Warmed39 s.vm) (eT : T.heap = h) (A : Arv Z h a k .byte n vs dv) {j x : Int32} {i : Nat} (hj : ¬ j < 0 ∧ j < n) (hi : j.toNatClampNeg = i) (hl : i < vs.length) {g : JFrame} (hg : g.method = m) {rest : List Value} (hs : g.stack = .int x :: .int j :: .ref a :: rest) (hd : decode c.code g.pc = .ok (.bastore, 1)) :
    ∃ T' h', Stand p l e R s m args below meth c T' (locs ++ [⟨a, j.toNatClampNeg⟩]) cells slots ∧ T'.heap = h' ∧ Wr h h' a j.toNatClampNeg (.int x.toInt8.toInt32) ∧ Arv Z h' a k .byte n (vs.set i (.int x.toInt8.toInt32)) dv ∧ ∀ target, Steps p.tables e below (T'.setTop { g with pc := g.pc + 1, stack := rest }) target → Steps p.tables e below (T.setTop g) target := by
  obtain ⟨cl, Ar, q, S, N, H, G⟩ := A
  obtain ⟨T', h', X', e', W, st⟩ := stB X hx hZ eT Ar (inb_of S hj) hg hs hd
  exact ⟨T', h', X', e', W, Arv.set Ar q S N H G (fits_nar_byte x) W i hi hl, st⟩
theorem own_stC (X : Stand p l e R s m args below meth c T locs cells slots) (hx : p.tables.exec = Jvm.exec) (hZ : Z.Warmed39 s.vm) (eT : T.heap = h) (A : Arv Z h a k .char n vs dv) {j x : Int32} {i : Nat} (hj : ¬ j < 0 ∧ j < n) (hi : j.toNatClampNeg = i) (hl : i < vs.length) {g : JFrame} (hg : g.method = m) {rest : List Value} (hs : g.stack = .int x :: .int j :: .ref a :: rest) (hd : decode c.code g.pc = .ok (.castore, 1)) :
    ∃ T' h', Stand p l e R s m args below meth c T' (locs ++ [⟨a, j.toNatClampNeg⟩]) cells slots ∧ T'.heap = h' ∧ Wr h h' a j.toNatClampNeg (.int x.toUInt32.toUInt16.toUInt32.toInt32) ∧ Arv Z h' a k .char n (vs.set i (.int x.toUInt32.toUInt16.toUInt32.toInt32)) dv ∧ ∀ target, Steps p.tables e below (T'.setTop { g with pc := g.pc + 1, stack := rest }) target → Steps p.tables e below (T.setTop g) target := by
  obtain ⟨cl, Ar, q, S, N, H, G⟩ := A
  obtain ⟨T', h', X', e', W, st⟩ := stC X hx hZ eT Ar (inb_of S hj) hg hs hd
  exact ⟨T', h', X', e', W, Arv.set Ar q S N H G (fits_nar_char x) W i hi hl, st⟩
theorem own_eqI {t : Term} {q : Int32} (hq : (Jvm.Cond.eq t (.int q)).value args s none s [] = some true) : t.eval args s none [] s = some (.int q) := by
  obtain ⟨x, y, ha, hb, k1, k2⟩ := cmp_v (Or.inl hq)
  rw [Term.int_eval] at hb
  cases hb
  obtain ⟨z, rfl⟩ := k2
  simp [Cond.value, ha, Term.eval] at hq
  rw [ha, hq]
theorem own_eqR {t u : Term} {b : Addr} (hq : (Jvm.Cond.eq t u).value args s none s [] = some true) (hu : u.eval args s none [] s = some (.ref b)) : t.eval args s none [] s = some (.ref b) := by
  obtain ⟨x, y, ha, hb, k1, k2⟩ := cmp_v (Or.inl hq)
  cases hu.symm.trans hb
  have q := gotT (eq_R ha hb k2.2 rfl) hq
  rw [ha, q]
theorem own_lenA {t : Term} {cl : Cell} {q : Int32} (ht : t.eval args s none [] s = some (.ref a)) (A : Arr s s.heap a cl ty) (hq : (Term.length t).eval args s none [] s = some (.int q)) : cl.slots.size < 2 ^ 31 ∧ cl.slots.size.toInt32 = q := by
  have ha := Arr.fin (U := s) (Vm.Alike.refl _) A
  by_cases hl : cl.slots.size < 2 ^ 31
  · rw [len_f ht ha hl] at hq
    exact ⟨hl, Value.int.inj (Option.some.inj hq)⟩
  · simp [Term.eval, ht, ha, hl] at hq
theorem own_ldR (X : Stand p l e R s m args below meth c T locs cells slots) (hx : p.tables.exec = Jvm.exec) (hZ : Z.Warmed39 s.vm) (eT : T.heap = h) (A : Arv Z h a k ty n vs dv) (hr : ty.isReference = true) {j : Int32} {v : Value} (hj : ¬ j < 0 ∧ j < n) (hv : vs.getD j.toNatClampNeg dv = v) {g : JFrame} (hg : g.method = m) {rest : List Value} (hs : g.stack = .int j :: .ref a :: rest) (hd : decode c.code g.pc = .ok (.aaload, 1)) :
    ∀ target, Steps p.tables e below (T.setTop { g with pc := g.pc + 1, stack := v :: rest }) target → Steps p.tables e below (T.setTop g) target := by
  obtain ⟨cl, Ar, -, S, N, H, -⟩ := A
  intro t k
  exact X.aaload hx (by rw [eT]; exact Ar.1) (State.isArrayOf_alike hZ.alike Ar.2.1) hr Ar.2.2 (inb_of S hj) (H.at (inb_of S hj) hv) hg hs hd t k
theorem own_nf {y y' : MethodName} (hc : y'.cls = y.cls) (w : (Jvm.Cond.instanceMethod y).before args s = true) (hn : NotFace s y) : NotFace s y' := fun r0 h0 => by
  obtain ⟨mk, methM, hnamed, -⟩ := Cond.instanceMethod_spec w
  obtain ⟨kr, h1, h2⟩ := hn mk hnamed
  have q1 := findClass_of_methodNamed hnamed
  have q2 := findClass_of_methodNamed h0
  rw [hc] at q2
  have q3 : mk.cls = r0.cls := Option.some.inj (q1.symm.trans q2)
  exact ⟨kr, q3 ▸ h1, h2⟩
theorem own_selp {y : MethodName} (w : (Jvm.Cond.instanceMethod y).before args s = true) (hn : NotFace s y) (hp : s.PrivateAt y) (hy : y.cls ≠ "java/lang/invoke/MethodHandle" ∧ y.cls ≠ "java/lang/invoke/VarHandle") : (Jvm.Cond.selects y.cls y y).before args s = true := by
  obtain ⟨mk, methM, hnamed, -⟩ := Cond.instanceMethod_spec w
  obtain ⟨kr, h1, h2⟩ := hn mk hnamed
  exact selects_self_of_private (findClass_of_methodNamed hnamed) h1 h2 hp w hy
theorem own_same {y : MethodName} (w : (Jvm.Cond.instanceMethod y).before args s = true) (hn : NotFace s y) (hy : y.cls ≠ "java/lang/invoke/MethodHandle" ∧ y.cls ≠ "java/lang/invoke/VarHandle") : (Jvm.Cond.sameMethod y.cls y.cls y.name y.desc).before args s = true := by
  obtain ⟨mk, methM, hnamed, -⟩ := Cond.instanceMethod_spec w
  obtain ⟨kr, h1, h2⟩ := hn mk hnamed
  have q1 := findClass_of_methodNamed hnamed
  have q2 := State.methodFound?_of_named hnamed hy
  have q3 : s.methodNamed? ⟨y.cls, y.name, y.desc⟩ = some mk := hnamed
  simp [Cond.before, Cond.holds, Cond.value, q1, q2, q3, h1, h2]
theorem own_stR (X : Stand p l e R s m args below meth c T locs cells slots) (hx : p.tables.exec = Jvm.exec) (hZ : Z.Warmed39 s.vm) (eT : T.heap = h) (A : Arv Z h a k ty n vs dv) (hr : ty.isReference = true) {j : Int32} {v : Value} {i : Nat} (F : Sto Z h a v) (hf : fits ty v = true) (hj : ¬ j < 0 ∧ j < n) (hi : j.toNatClampNeg = i) (hl : i < vs.length) {g : JFrame} (hg : g.method = m) {rest : List Value} (hs : g.stack = v :: .int j :: .ref a :: rest) (hd : decode c.code g.pc = .ok (.aastore, 1)) :
    ∃ T' h', Stand p l e R s m args below meth c T' (locs ++ [⟨a, j.toNatClampNeg⟩]) cells slots ∧ T'.heap = h' ∧ Wr h h' a j.toNatClampNeg v ∧ Arv Z h' a k ty n (vs.set i v) dv ∧ ∀ target, Steps p.tables e below (T'.setTop { g with pc := g.pc + 1, stack := rest }) target → Steps p.tables e below (T.setTop g) target := by
  obtain ⟨cl, Ar, q, S, N, H, G⟩ := A
  obtain ⟨T', h', X', e', W, st⟩ := stR X hx hZ eT Ar (inb_of S hj) hr F hg hs hd
  exact ⟨T', h', X', e', W, Arv.set Ar q S N H G hf W i hi hl, st⟩
theorem own_stoA {y : Addr} {C : String} {t0 : FieldType} (A : Arv Z h a k t0 n vs dv) (O : OvrA Z k ty C) (I : Ins Z h y C true) : Sto Z h a (.ref y) := by
  obtain ⟨cl, Ar, q, -⟩ := A
  exact Sto.ofVA Ar q O I
theorem own_stoV {y : Addr} {C : String} {t0 : FieldType} (A : Arv Z h a k t0 n vs dv) (O : Ovr Z k C) (I : Ins Z h y C true) : Sto Z h a (.ref y) := by
  obtain ⟨cl, Ar, q, -⟩ := A
  exact Sto.ofV Ar q O I
theorem own_getD_cp (vs vd : List Value) (dv dd : Value) (sp dp nn i : Nat) : ((vd ++ List.replicate (dp + nn) dd).take dp ++ ((List.range nn).map fun i => vs.getD (sp + i) dv) ++ (vd ++ List.replicate (dp + nn) dd).drop (dp + nn)).getD i dd = if dp ≤ i ∧ i < dp + nn then vs.getD (sp + (i - dp)) dv else vd.getD i dd := by
  have hlen : dp ≤ (vd ++ List.replicate (dp + nn) dd).length := by simp; omega
  have hpad := pad_rep vd dd (dp + nn) i
  by_cases h1 : i < dp
  · rw [if_neg (by omega), ← hpad]
    have e1 : ((vd ++ List.replicate (dp + nn) dd).take dp).length = dp := by rw [List.length_take]; omega
    rw [List.getD_eq_getElem?_getD, List.append_assoc, List.getElem?_append_left (by rw [e1]; exact h1), List.getElem?_take, if_pos h1, List.getD_eq_getElem?_getD]
  · by_cases h2 : i < dp + nn
    · rw [if_pos ⟨by omega, h2⟩]
      have e1 : ((vd ++ List.replicate (dp + nn) dd).take dp).length = dp := by rw [List.length_take]; omega
      rw [List.getD_eq_getElem?_getD, List.append_assoc, List.getElem?_append_right (by rw [e1]; omega), e1, List.getElem?_append_left (by simp; omega)]
      simp [show i - dp < nn by omega]
    · rw [if_neg (by omega), ← hpad]
      have e1 : ((vd ++ List.replicate (dp + nn) dd).take dp).length = dp := by rw [List.length_take]; omega
      rw [List.getD_eq_getElem?_getD, List.getElem?_append_right (by rw [List.length_append, e1]; simp; omega), List.getElem?_drop, List.getD_eq_getElem?_getD]
      congr 2
      rw [List.length_append, e1]; simp; omega
theorem own_cp {b : Addr} {a0 : Array Value} (X : Stand p l e R s m args below meth c T locs cells slots) (hx : p.tables.exec = Jvm.exec) (hZ : Z.Warmed39 s.vm) {own : String} {index : Nat} (hown : s.vm.findClass own = some m.cls)
    (w1 : (Cond.methodLink own index Jvm.Stand.acN).before a0 Z = true) (w2 : (Cond.native Jvm.Stand.acN).before a0 Z = true) (w3 : (Cond.static Jvm.Stand.acN).before a0 Z = true) (w4 : (Cond.initialized "java/lang/System").before a0 Z = true) (eT : T.heap = h)
    {k' : ClassId} {z z' sp dp nn : Int32} {vd : List Value} {dd : Value} (A : Arv Z h a k ty z vs dv) (B : Arv Z h b k' ty z' vd dd) (hty : refKind ty = false)
    (h1 : 0 ≤ sp.toInt) (h2 : 0 ≤ dp.toInt) (h3 : 0 ≤ nn.toInt) (h4 : sp.toInt + nn.toInt ≤ z.toInt) (h5 : dp.toInt + nn.toInt ≤ z'.toInt) {n0 : Nat} (N : Fr n0 locs) (ge : n0 ≤ b)
    {g : JFrame} (hg : g.method = m) (hsize : g.locals.size = c.maxLocals) {rest : List Value} (hs : g.stack = .int nn :: .int dp :: .ref b :: .int sp :: .ref a :: rest) (hd : decode c.code g.pc = .ok (.invokestatic index, 3))
    (hf : 1 ≤ R.frames) {W : Nat} (hW : 2 * g.monitorRoom + (rest.map fun v => v.category).sum ≤ W) (hlo : W + 18 ≤ R.locals) :
    ∃ T' h' L vd', Stand p l e R s m args below meth c T' L cells slots ∧ T'.heap = h' ∧ Fr n0 L ∧ Keep h h' [b] ∧ Arv Z h' b k' ty z' vd' dd ∧ (∀ i : Nat, vd'.getD i dd = if dp.toNatClampNeg ≤ i ∧ i < dp.toNatClampNeg + nn.toNatClampNeg then vs.getD (sp.toNatClampNeg + (i - dp.toNatClampNeg)) dv else vd.getD i dd) ∧
      ∀ target, Steps p.tables e below (T'.setTop { g with pc := g.pc + 3, stack := rest }) target → Steps p.tables e below (T.setTop g) target := by
  have e0 : (0 : Int32).toInt = 0 := by decide
  have lt : ∀ {x : Int32}, 0 ≤ x.toInt → ¬ x < 0 := fun q => by rw [Int32.lt_iff_toInt_lt]; omega
  have nz : ¬ z < 0 := lt (by omega)
  have nz' : ¬ z' < 0 := lt (by omega)
  have c1 := nat_of (lt h1); have c2 := nat_of (lt h2); have c3 := nat_of (lt h3); have c4 := nat_of nz; have c5 := nat_of nz'
  obtain ⟨T', h', L, X', e', N', K', V', st⟩ := cpA X hx hZ hown w1 w2 w3 w4 eT A (B.pad (pad_rep vd dd (dp.toNatClampNeg + nn.toNatClampNeg))) (us := _) (Or.inl ⟨rfl, hty⟩) (lt h1) (lt h2) (lt h3) (by omega) (by omega) rfl (by simp) N ge hg hsize hs hd hf hW (by exact hlo)
  exact ⟨T', h', L, _, X', e', N', K', V', fun i => own_getD_cp vs vd dv dd _ _ _ i, st⟩
/-- as backOf, the callee told besides that the tables are those of Z but warmer -/
theorem own_backH {a0 : Array Value} {y : MethodName} {bytes : ByteArray} {maxL : Nat} {ret : Option FieldType} {rm : Room} {len W : Nat} {as' : Array Value} {Q : Option Value → Heap → List Loc → Prop}
    (hM : MetFree l y (head1 [Cond.code y bytes maxL ret] rm) (fun a U => a = as' ∧ Z.WarmedH U.vm ∧ U.heap = h) (fun _ _ _ _ _ => True) (fun _ U o U' => ∃ v L, o = .returned v ∧ Q v U'.heap L ∧ FrameEnd U o U' L rm.cells rm.slots))
    (hZ : Z.WarmedH s.vm) (wc : (Cond.code y bytes maxL ret).before a0 Z = true) (wz : (Cond.initialized y.cls).before a0 Z = true) (hf : rm.frames + 1 ≤ R.frames) (hl : W + (maxL + 11) + rm.locals ≤ R.locals) :
    Back l R p e below s args y len W (fun A a => a = as' ∧ A.U.heap = h ∧ A.cells + rm.cells ≤ R.cells ∧ A.slots + rm.slots ≤ R.slots)
      (fun A _ v B => ∃ L, Q v B.U.heap L ∧ B.locs = A.locs ++ L ∧ B.cells = A.cells + rm.cells ∧ B.slots = A.slots + rm.slots) := by
  refine Back.of_free (bytes := bytes) (maxL := maxL) (ret := ret) (E := fun _ _ o t L k n => k = rm.cells ∧ n = rm.slots ∧ ∃ v, o = .returned v ∧ Q v t.heap L) hM hf hl ?_ ?_ (fun _ _ _ _ _ _ _ _ _ => trivial) ?_ ?_
  · intro m meth c A a Y hp
    have hU : Z.Warmed39 A.U.vm := wtrans hZ.wide Y.warmed
    exact ⟨by show (Cond.and _ .tt).before a A.U = true; rw [Cond.before_and, mv hU wc]; rfl, mv hU wc, mv hU wz, hp.2.2.1, hp.2.2.2⟩
  · intro m meth c A a g mk Y hp
    exact ⟨hp.1, hZ.trans Y.warmed, hp.2.1⟩
  · rintro _ _ _ _ ⟨v, L, h1, h2, h3⟩
    exact ⟨L, _, _, h3, rfl, rfl, v, h1, h2⟩
  · rintro m meth c A a g mk v t L k n Y hp _ _ ⟨e1, e2, v', e3, e4⟩
    cases e3; subst e1 e2; exact ⟨L, e4, rfl, rfl, rfl⟩
end Own
end Jvm.RoadKit
namespace Jvm.RoadKit
open Sem ClassFile Op Lib Jvm.Stand Jvm.Free Jvm.LawKit
section OwnS
variable {p : Program} {l : Launch} {e : Env} {R : Room} {s : State} {m : MethodId} {args : Array Value} {below : List Frame} {meth : Method} {c : Code} {T : State} {locs : List Loc} {cells slots : Nat} {Z : State} {h : Heap} {a0 : Array Value}
/-- as own_Ends, of a run that may have loaded a String constant cold -/
def own_EndsW (p : Program) (e : Env) (below : List Frame) (s : State) (C S : Nat) (Q : Option Value → Heap → List Loc → Prop) (st : State) : Prop :=
  ∃ s₂ o, Steps p.tables e below st s₂ ∧ s₂.status = .running ∧ Ended s₂ below o ∧ ∃ v L, o = .returned v ∧ Q v s₂.heap L ∧ ReturnedEndW s o s₂ L C S
theorem own_stepW {C S : Nat} {Q : Option Value → Heap → List Loc → Prop} {st st' : State} (f : ∀ t, Steps p.tables e below st' t → Steps p.tables e below st t) (h : own_EndsW p e below s C S Q st') : own_EndsW p e below s C S Q st := by
  obtain ⟨s2, o, h1, h2⟩ := h
  exact ⟨s2, o, f _ h1, h2⟩
theorem own_toW {C S : Nat} {Q : Option Value → Heap → List Loc → Prop} {st : State} (h : own_Ends p e below s C S Q st) : own_EndsW p e below s C S Q st := by
  obtain ⟨s2, o, h1, h2, h3, v, L, h4, h5, h6, h7, h8⟩ := h
  exact ⟨s2, o, h1, h2, h3, v, L, h4, h5, ReturnedEndW.of_narrow h6 h7 h8⟩
theorem own_retW {vm0 : Vm} (X : Stand p l e R (s.setVm vm0) m args below meth c T locs cells slots) {k0 : Nat} (hS : s.Since vm0 k0) (hk : k0 ≤ T.heap.size) (hlocks : meth.locks = false) {C S : Nat} {Q : Option Value → Heap → List Loc → Prop} {g : JFrame} (v : Option Value) (hv : meth.sig.returnType = none → v = none)
    (st : ∀ fs, (∀ (f : JFrame) (acts : List Action), f.method = m → f.locked = none → f.entered = [] → (doReturn e (T.setTop f) acts v).1 = T.setFrames fs) → Steps p.tables e below (T.setTop g) (T.setFrames fs))
    (hQ : Q v T.heap locs) (hc : cells ≤ C) (hs : slots ≤ S) : own_EndsW p e below s C S Q (T.setTop g) := by
  obtain ⟨fs, hr, hrun, hended, hE⟩ := (X.mono hc hs).leaveW hS hk (v := v) hv hlocks
  exact ⟨_, _, st fs hr, hrun, hended, _, _, rfl, hQ, hE⟩
theorem own_backS {y : MethodName} {bytes : ByteArray} {maxL : Nat} {ret : Option FieldType} {rm : Room} {len W : Nat} {as' : Array Value} {Q : Option Value → Heap → List Loc → Prop}
    (hM : MetFree l y (head1 [Cond.code y bytes maxL ret] rm) (fun a U => a = as' ∧ Z.WarmedH U.vm ∧ U.heap = h) (fun _ _ _ _ _ => True) (fun _ U o U' => ∃ v L, o = .returned v ∧ Q v U'.heap L ∧ ReturnedEndW U o U' L rm.cells rm.slots))
    (hZ : Z.WarmedH s.vm) (wc : (Cond.code y bytes maxL ret).before a0 Z = true) (wz : (Cond.initialized y.cls).before a0 Z = true) (hf : rm.frames + 1 ≤ R.frames) (hl : W + (maxL + 11) + rm.locals ≤ R.locals) :
    BackS l R p e below s args y len W (fun A a => a = as' ∧ A.U.heap = h ∧ A.cells + rm.cells ≤ R.cells ∧ A.slots + rm.slots ≤ R.slots)
      (fun A _ v B => ∃ L, Q v B.U.heap L ∧ B.locs = A.locs ++ L ∧ B.cells = A.cells + rm.cells ∧ B.slots = A.slots + rm.slots) :=
  BackS.of_freeW (bytes := bytes) (maxL := maxL) (ret := ret) (E := fun _ _ o t L k n => k = rm.cells ∧ n = rm.slots ∧ ∃ v, o = .returned v ∧ Q v t.heap L) hM hf hl
    (fun m meth c A a Y hp => have hU : Z.Warmed39 A.U.vm := wtrans hZ.wide Y.warmed
      ⟨by show (Cond.and _ .tt).before a A.U = true; rw [Cond.before_and, mv hU wc]; rfl, mv hU wc, mv hU wz, hp.2.2.1, hp.2.2.2⟩)
    (fun m meth c A a g mk Y hp => ⟨hp.1, hZ.trans Y.warmed, hp.2.1⟩) (fun _ _ _ _ _ _ _ _ _ => trivial)
    (fun _ _ _ _ ⟨v, L, h1, h2, h3⟩ => ⟨L, _, _, h3, rfl, rfl, v, h1, h2⟩)
    (fun m meth c A a g mk v t L k n Y hp _ _ ⟨e1, e2, v', e3, e4⟩ => by cases e3; subst e1 e2; exact ⟨L, e4, rfl, rfl, rfl⟩)
theorem own_held {EL : List (String × Nat)} {vm : Vm} (H : CHv Z EL Z.vm Z.heap) (hW : Z.WarmedH vm) (w : EW Z a0 EL) (E : Ext Z.heap h) : CHv Z EL vm h :=
  (CHv.later (State.Warmed39.refl Z) (show (Wst Z Z.vm Z.heap).Warmed39 vm from hW.wide) w E (Or.inl hW.interned_eq) H).1
end OwnS
end Jvm.RoadKit

namespace Jvm.Pilot.@@N@@
open Jvm Jvm.ClassFile Sem Op Lib Jvm.Free Jvm.Stand Jvm.LawKit Jvm.RoadKit Bundle Jvm.Pilot.@@N@@.Jvm.D
theorem pd_0 : parseMethodDescriptor "([C)V" = some ⟨[(.array .char)], none⟩ := by decide +kernel
theorem pd_1 : parseMethodDescriptor "([CIILjava/lang/Void;)V" = some ⟨[(.array .char), .int, .int, (.object "java/lang/Void")], none⟩ := by decide +kernel
theorem pd_2 : parseMethodDescriptor "()V" = some ⟨[], none⟩ := by decide +kernel
theorem pd_3 : parseMethodDescriptor "([CII)[B" = some ⟨[(.array .char), .int, .int], some (.array .byte)⟩ := by decide +kernel
theorem pd_4 : parseMethodDescriptor "([CI[BII)I" = some ⟨[(.array .char), .int, (.array .byte), .int, .int], some .int⟩ := by decide +kernel
theorem pd_5 : parseMethodDescriptor "([BI)B" = some ⟨[(.array .byte), .int], some .byte⟩ := by decide +kernel
theorem pd_6 : parseMethodDescriptor "(Lcom/example/lookahead/lookahead/core/Terminal;Ljava/lang/String;IIII)V" = some ⟨[(.object "com/example/lookahead/lookahead/core/Terminal"), (.object "java/lang/String"), .int, .int, .int, .int], none⟩ := by decide +kernel
theorem pd_7 : parseMethodDescriptor "()Ljava/lang/String;" = some ⟨[], some (.object "java/lang/String")⟩ := by decide +kernel
theorem pd_8 : parseMethodDescriptor "(II)Ljava/lang/String;" = some ⟨[.int, .int], some (.object "java/lang/String")⟩ := by decide +kernel
theorem pd_9 : parseMethodDescriptor "()I" = some ⟨[], some .int⟩ := by decide +kernel
theorem pd_10 : parseMethodDescriptor "()B" = some ⟨[], some .byte⟩ := by decide +kernel
theorem pd_11 : parseMethodDescriptor "(III)V" = some ⟨[.int, .int, .int], none⟩ := by decide +kernel
theorem pd_12 : parseMethodDescriptor "(IIILjava/util/function/BiFunction;)I" = some ⟨[.int, .int, .int, (.object "java/util/function/BiFunction")], some .int⟩ := by decide +kernel
theorem pd_13 : parseMethodDescriptor "()Z" = some ⟨[], some .boolean⟩ := by decide +kernel
theorem pd_14 : parseMethodDescriptor "([BII)Ljava/lang/String;" = some ⟨[(.array .byte), .int, .int], some (.object "java/lang/String")⟩ := by decide +kernel
theorem pd_15 : parseMethodDescriptor "(Ljava/lang/String;[CIII)Z" = some ⟨[(.object "java/lang/String"), (.array .char), .int, .int, .int], some .boolean⟩ := by decide +kernel
theorem pd_16 : parseMethodDescriptor "([BII)[B" = some ⟨[(.array .byte), .int, .int], some (.array .byte)⟩ := by decide +kernel
theorem pd_17 : parseMethodDescriptor "(II)V" = some ⟨[.int, .int], none⟩ := by decide +kernel
theorem pd_18 : parseMethodDescriptor "(II)I" = some ⟨[.int, .int], some .int⟩ := by decide +kernel
theorem pd_19 : parseMethodDescriptor "(Ljava/lang/Object;ILjava/lang/Object;II)V" = some ⟨[(.object "java/lang/Object"), .int, (.object "java/lang/Object"), .int, .int], none⟩ := by decide +kernel
theorem pd_20 : parseMethodDescriptor "([BB)V" = some ⟨[(.array .byte), .byte], none⟩ := by decide +kernel
theorem pd_21 : parseMethodDescriptor "(I)C" = some ⟨[.int], some .char⟩ := by decide +kernel
theorem pd_22 : parseMethodDescriptor "([BI)C" = some ⟨[(.array .byte), .int], some .char⟩ := by decide +kernel
theorem pd_23 : parseMethodDescriptor "(IILjava/util/function/BiFunction;)I" = some ⟨[.int, .int, (.object "java/util/function/BiFunction")], some .int⟩ := by decide +kernel
theorem own_h {a0 : Array Value} {Z : State} (hw : ∀ d ∈ tables_1, d.before a0 Z = true) {d : Jvm.Cond} (i : Nat) (h : tables_1[i]? = some d) : d.before a0 Z = true := hw _ (List.mem_of_getElem? (i := i) h)

def own_EL : List (String × Nat) := [("java/lang/StringLatin1", 151)]
theorem own_wS {a0 : Array Value} {Z : State} (hw : ∀ d ∈ tables_1, d.before a0 Z = true) : ∀ d ∈ Bundle.stringAtoms, d.before a0 Z = true := by
  intro d hd
  simp only [Bundle.stringAtoms, List.mem_cons, List.not_mem_nil, or_false] at hd
  rcases hd with rfl | rfl | rfl | rfl | rfl | rfl | rfl
  · exact (own_h hw 3 rfl)
  · exact (own_h hw 2 rfl)
  · exact (own_h hw 19 rfl)
  · exact (own_h hw 29 rfl)
  · exact (own_h hw 27 rfl)
  · exact (own_h hw 91 rfl)
  · exact (own_h hw 92 rfl)
theorem own_EW {a0 : Array Value} {Z : State} (hw : ∀ d ∈ tables_1, d.before a0 Z = true) : EW Z a0 own_EL := EW.cons (text := "") (own_h hw 90 rfl) (by decide) EW.nil
theorem own_ge {x y : Int32} (h : y.toInt ≤ x.toInt) : ¬ x < y := by rw [Int32.lt_iff_toInt_lt]; omega
theorem own_lt {x y : Int32} (h : x.toInt < y.toInt) : x < y := by rw [Int32.lt_iff_toInt_lt]; omega
theorem own_tl {x y : Int32} (h : x < y) : x.toInt < y.toInt := by rw [Int32.lt_iff_toInt_lt] at h; exact h
theorem own_tg {x y : Int32} (h : ¬ x < y) : y.toInt ≤ x.toInt := by rw [Int32.lt_iff_toInt_lt] at h; omega
theorem own_z : (0 : Int32).toInt = 0 := by decide
theorem own_nn {x : Int32} (h : 0 ≤ x.toInt) : x.toInt = (x.toNatClampNeg : Int) := nat_of (own_ge (y := 0) (by rw [own_z]; exact h))
theorem own_shr0 (n : Int32) : n >>> ((0 : Int32) &&& 31) = n := by
  have h : ((0 : Int32) &&& 31) = 0 := by decide
  rw [h]
  simp
theorem own_sub {x y : Int32} (hx : 0 ≤ x.toInt) (hy : 0 ≤ y.toInt) : (x - y).toInt = x.toInt - y.toInt := by
  have a := c_isub x y
  have b := rng32 (x - y)
  have c := rng32 x
  have d := rng32 y
  omega
theorem own_add {x y : Int32} (hx : 0 ≤ x.toInt ∧ x.toInt ≤ 1000) (hy : 0 ≤ y.toInt ∧ y.toInt ≤ 1000) : (x + y).toInt = x.toInt + y.toInt := by
  have a := c_iadd x y
  have b := rng32 (x + y)
  omega
theorem own_cc (y : Int32) : ((y &&& (255 : Int32)).toUInt32.toUInt16.toUInt32.toInt32) = (y &&& (255 : Int32)) := by
  apply Int32.toInt_inj.mp
  have a := c_mask y 255 8 (by decide) (by decide)
  have b := c_i2c (y &&& 255)
  omega
theorem own_byte {k : Int32} (h : 0 ≤ k.toInt ∧ k.toInt ≤ 255) : nar .char (((k.toInt8.toInt32).toInt8.toInt32 &&& (255 : Int32)).toUInt32.toUInt16.toUInt32.toInt32) = k := by
  rw [own_cc]
  show ((((k.toInt8.toInt32).toInt8.toInt32 &&& (255 : Int32))).toUInt32.toUInt16.toUInt32.toInt32) = k
  rw [own_cc]
  apply Int32.toInt_inj.mp
  have a := c_i2b k
  have b := c_i2b (k.toInt8.toInt32)
  have c := c_mask ((k.toInt8.toInt32).toInt8.toInt32) 255 8 (by decide) (by decide)
  omega
theorem own_nc {k : Int32} (h : 0 ≤ k.toInt ∧ k.toInt ≤ 255) : nar .char k = k := by
  show k.toUInt32.toUInt16.toUInt32.toInt32 = k
  apply Int32.toInt_inj.mp
  have b := c_i2c k
  omega
theorem own_b8 {k y : Int32} (e : k = (y &&& (255 : Int32)).toUInt32.toUInt16.toUInt32.toInt32) : 0 ≤ k.toInt ∧ k.toInt ≤ 255 := by
  rw [e, own_cc]
  have a := c_mask y 255 8 (by decide) (by decide)
  omega
theorem own_min {x1 x2 n : Int32} (h : 0 ≤ x1.toInt ∧ x1.toInt < x2.toInt ∧ x2.toInt ≤ n.toInt) : (if (x2 - x1) < (n - x1) then (x2 - x1) else (n - x1)) = x2 - x1 := by
  have a := own_sub (x := x2) (y := x1) (by omega) (by omega)
  have b := own_sub (x := n) (y := x1) (by omega) (by omega)
  by_cases q : (x2 - x1) < (n - x1)
  · rw [if_pos q]
  · rw [if_neg q]
    have := own_tg q
    exact Int32.toInt_inj.mp (by omega)
theorem own_s5 (y : Int32) : (y &&& (2147483647 : Int32)) % (5 : Int32) = (0 : Int32) ∨ (y &&& (2147483647 : Int32)) % (5 : Int32) = (1 : Int32) ∨ (y &&& (2147483647 : Int32)) % (5 : Int32) = (2 : Int32) ∨ (y &&& (2147483647 : Int32)) % (5 : Int32) = (3 : Int32) ∨ (y &&& (2147483647 : Int32)) % (5 : Int32) = (4 : Int32) := by
  have a := c_mask y 2147483647 31 (by decide) (by decide)
  have b := (c_irem (y &&& 2147483647) 5 5 (by decide)).1 (by omega)
  have e : ∀ {k : Int32}, ((y &&& (2147483647 : Int32)) % (5 : Int32)).toInt = k.toInt → ((y &&& (2147483647 : Int32)) % (5 : Int32)) = k := fun h => Int32.toInt_inj.mp h
  have d0 : (0 : Int32).toInt = 0 := by decide
  have d1 : (1 : Int32).toInt = 1 := by decide
  have d2 : (2 : Int32).toInt = 2 := by decide
  have d3 : (3 : Int32).toInt = 3 := by decide
  have d4 : (4 : Int32).toInt = 4 := by decide
  have c : ((y &&& (2147483647 : Int32)) % (5 : Int32)).toInt = 0 ∨ ((y &&& (2147483647 : Int32)) % (5 : Int32)).toInt = 1 ∨ ((y &&& (2147483647 : Int32)) % (5 : Int32)).toInt = 2 ∨ ((y &&& (2147483647 : Int32)) % (5 : Int32)).toInt = 3 ∨ ((y &&& (2147483647 : Int32)) % (5 : Int32)).toInt = 4 := by omega
  rcases c with c | c | c | c | c
  · exact Or.inl (e (c.trans d0.symm))
  · exact Or.inr (Or.inl (e (c.trans d1.symm)))
  · exact Or.inr (Or.inr (Or.inl (e (c.trans d2.symm))))
  · exact Or.inr (Or.inr (Or.inr (Or.inl (e (c.trans d3.symm)))))
  · exact Or.inr (Or.inr (Or.inr (Or.inr (e (c.trans d4.symm)))))
theorem own_lo (y : Int32) : 0 ≤ (y &&& (2147483647 : Int32)).toInt := by
  have a := c_mask y 2147483647 31 (by decide) (by decide)
  omega
theorem own_eqi {z k : Int32} {n : Int} (h : z.toInt = n) (q : k.toInt = n) : z = k := Int32.toInt_inj.mp (by omega)
theorem own_s1 (y : Int32) : (y &&& (2147483647 : Int32)) % (1 : Int32) = (0 : Int32) := by
  have b := (c_irem (y &&& 2147483647) 1 1 (by decide)).1 (own_lo y)
  exact own_eqi (n := 0) (by omega) (by decide)
theorem own_s2 (y : Int32) : (y &&& (2147483647 : Int32)) % (2 : Int32) = (0 : Int32) ∨ (y &&& (2147483647 : Int32)) % (2 : Int32) = (1 : Int32) := by
  have b := (c_irem (y &&& 2147483647) 2 2 (by decide)).1 (own_lo y)
  have c : ((y &&& (2147483647 : Int32)) % (2 : Int32)).toInt = 0 ∨ ((y &&& (2147483647 : Int32)) % (2 : Int32)).toInt = 1 := by omega
  rcases c with c | c
  · exact Or.inl (own_eqi c (by decide))
  · exact Or.inr (own_eqi c (by decide))
theorem own_s3 (y : Int32) : (y &&& (2147483647 : Int32)) % (3 : Int32) = (0 : Int32) ∨ (y &&& (2147483647 : Int32)) % (3 : Int32) = (1 : Int32) ∨ (y &&& (2147483647 : Int32)) % (3 : Int32) = (2 : Int32) := by
  have b := (c_irem (y &&& 2147483647) 3 3 (by decide)).1 (own_lo y)
  have c : ((y &&& (2147483647 : Int32)) % (3 : Int32)).toInt = 0 ∨ ((y &&& (2147483647 : Int32)) % (3 : Int32)).toInt = 1 ∨ ((y &&& (2147483647 : Int32)) % (3 : Int32)).toInt = 2 := by omega
  rcases c with c | c | c
  · exact Or.inl (own_eqi c (by decide))
  · exact Or.inr (Or.inl (own_eqi c (by decide)))
  · exact Or.inr (Or.inr (own_eqi c (by decide)))
theorem own_s4 (y : Int32) : (y &&& (2147483647 : Int32)) % (4 : Int32) = (0 : Int32) ∨ (y &&& (2147483647 : Int32)) % (4 : Int32) = (1 : Int32) ∨ (y &&& (2147483647 : Int32)) % (4 : Int32) = (2 : Int32) ∨ (y &&& (2147483647 : Int32)) % (4 : Int32) = (3 : Int32) := by
  have b := (c_irem (y &&& 2147483647) 4 4 (by decide)).1 (own_lo y)
  have c : ((y &&& (2147483647 : Int32)) % (4 : Int32)).toInt = 0 ∨ ((y &&& (2147483647 : Int32)) % (4 : Int32)).toInt = 1 ∨ ((y &&& (2147483647 : Int32)) % (4 : Int32)).toInt = 2 ∨ ((y &&& (2147483647 : Int32)) % (4 : Int32)).toInt = 3 := by omega
  rcases c with c | c | c | c
  · exact Or.inl (own_eqi c (by decide))
  · exact Or.inr (Or.inl (own_eqi c (by decide)))
  · exact Or.inr (Or.inr (Or.inl (own_eqi c (by decide))))
  · exact Or.inr (Or.inr (Or.inr (own_eqi c (by decide))))
theorem own_cpz {vd vs : List Value} {dd dv : Value} {a n : Int32} (h : ∀ i : Nat, vd.getD i dd = if (0 : Int32).toNatClampNeg ≤ i ∧ i < (0 : Int32).toNatClampNeg + n.toNatClampNeg then vs.getD (a.toNatClampNeg + (i - (0 : Int32).toNatClampNeg)) dv else ([] : List Value).getD i dd) :
    ∀ i : Nat, vd.getD i dd = if i < n.toNatClampNeg then vs.getD (a.toNatClampNeg + i) dv else dd := by
  intro i
  have z : (0 : Int32).toNatClampNeg = 0 := by decide
  have q := h i
  rw [z] at q
  simpa using q

theorem d11_0 : decode jdk_42_method_152_code 0 = .ok (.getstatic 38, 3) := by decide +kernel
theorem d11_3 : decode jdk_42_method_152_code 3 = .ok (.ifCond .eq 10, 3) := by decide +kernel
theorem d11_6 : decode jdk_42_method_152_code 6 = .ok (.aload_n 0, 1) := by decide +kernel
theorem d11_7 : decode jdk_42_method_152_code 7 = .ok (.getfield 15, 3) := by decide +kernel
theorem d11_10 : decode jdk_42_method_152_code 10 = .ok (.goto 4, 3) := by decide +kernel
theorem d11_14 : decode jdk_42_method_152_code 14 = .ok (.ireturn, 1) := by decide +kernel
theorem pn_4 : plainName "java/lang/String" = true := by first | (simp [plainName, overriddenIn]; done) | decide +kernel
theorem ef_11_R (m : MethodId) (x0 : Addr) : entryFrame m #[(.ref x0)] 1 = mkF m 0 #[.val (.ref x0)] [] := by first | (simp [entryFrame, mkF, argsToLocals, Value.category]; done) | rfl
def Q_rm11 (Z : State) (x0 : Addr) (cs : Int32) (h0 : Heap) (n0 : Nat) (v : Option Value) (h : Heap) (L : List Loc) : Prop := v = some (.int (0 : Int32)) ∧ Fr n0 L ∧ h = h0
set_option maxRecDepth 65536 in
set_option maxHeartbeats 40000000 in
theorem rm11 (l : Launch) (Z : State) (a0 : Array Value) (hw : ∀ d ∈ tables_1, d.before a0 Z = true) (ws : List Jvm.Cond) (x0 : Addr) (cs : Int32) (h0 : Heap) (n0 : Nat) (Z0 : n0 ≤ h0.size) (O0 : Old Z n0 h0) (p_0 : Fld Z h0 x0 "java/lang/String" "coder" "B" (.int (0 : Int32))) (p_1 : Sta Z Z.heap "java/lang/String" "COMPACT_STRINGS" "Z" (.int cs)) (p_2 : ¬ cs = (0 : Int32)) :
    MetFree l (⟨"java/lang/String", "coder", "()B"⟩ : MethodName) (head1 (Jvm.Cond.code (⟨"java/lang/String", "coder", "()B"⟩ : MethodName) jdk_42_method_152_code 1 (some .byte) :: ws) ({ frames := 0, cells := 0, slots := 0, locals := 0 } : Room)) (fun a U => a = #[(.ref x0)] ∧ Z.Warmed39 U.vm ∧ U.heap = h0) (fun _ _ _ _ _ => True) (fun _ U o U' => ∃ v L, o = .returned v ∧ Q_rm11 Z x0 cs h0 n0 v U'.heap L ∧ FrameEnd U o U' L ({ frames := 0, cells := 0, slots := 0, locals := 0 } : Room).cells ({ frames := 0, cells := 0, slots := 0, locals := 0 } : Room).slots) := by
  refine MetFree.of_bodySF (plainFor_of_name pn_4) hisR ?_
  intro p e s m args below meth c s₁ Bd hml0 hP hK
  obtain ⟨rfl, hZ, hh⟩ := hP
  have hx := Bd.exec
  have hby := Bd.bytes
  have hml : c.maxLocals = 1 := hml0
  have hown : s.vm.findClass "java/lang/String" = some m.cls := findClass_of_methodNamed Bd.named
  have hnm := (name_of_methodNamed Bd.named Bd.method).1
  have X0 : Stand p l e ({ frames := 0, cells := 0, slots := 0, locals := 0 } : Room) s m #[(.ref x0)] below meth c s₁ [] 0 0 := Stand.of_body Bd
  have e0 : s₁.heap = h0 := by rw [← hh, Bd.state]; rfl
  have N0 := Fr.nil n0
  show own_Ends p e below s ({ frames := 0, cells := 0, slots := 0, locals := 0 } : Room).cells ({ frames := 0, cells := 0, slots := 0, locals := 0 } : Room).slots (Q_rm11 Z x0 cs h0 n0) (s₁.setTop (entryFrame m #[(.ref x0)] 1))
  rw [ef_11_R]
  obtain ⟨T1, X1, e1, st1⟩ := getS2 X0 hx hZ hown (host := "") (Or.inl (own_h hw 14 rfl)) Via.refl e0 (p_1.ext O0.2) (g := (mkF m 0 #[.val (.ref x0)] [])) rfl (hb hby d11_0)
  refine own_step (st' := T1.setTop (mkF m 3 #[.val (.ref x0)] [(.int cs)])) st1 ?_
  refine own_step (st' := T1.setTop (mkF m 6 #[.val (.ref x0)] [])) (fun t k => XS.ifNo X1.here hx rfl (hb hby d11_3) rfl ((if0 _ _).trans (feq p_2).1) k) ?_
  refine own_step (st' := T1.setTop (mkF m 7 #[.val (.ref x0)] [(.ref x0)])) (fun t k => XS.aloadN X1.here hx rfl (hb hby d11_6) rfl rfl k) ?_
  obtain ⟨T2, X2, e2, st2⟩ := getF X1 hx hZ hown (host := "") (Or.inl (own_h hw 26 rfl)) Via.refl e1 p_0 (g := (mkF m 7 #[.val (.ref x0)] [(.ref x0)])) rfl rfl (hb hby d11_7)
  refine own_step (st' := T2.setTop (mkF m 10 #[.val (.ref x0)] [(.int (0 : Int32))])) st2 ?_
  refine own_step (st' := T2.setTop (mkF m 14 #[.val (.ref x0)] [(.int (0 : Int32))])) (fun t k => XS.goto X2.here hx rfl (pc0 := 10) (pc' := 14) rfl (hb hby d11_10) (by decide) (by decide) k) ?_
  refine own_ret X2 Bd.notSynchronized (some (.int (0 : Int32))) (fun h => by rw [Bd.returns] at h; cases h) (fun fs hr => retN X2 hx (t := .byte) Bd.returns (by simp) (hb hby d11_14) hr) ?_ (by decide) (by decide)
  rw [e2]
  exact ⟨rfl, N0, rfl⟩
theorem d14_0 : decode jdk_42_method_154_code 0 = .ok (.getstatic 38, 3) := by decide +kernel
theorem d14_3 : decode jdk_42_method_154_code 3 = .ok (.ifCond .eq 14, 3) := by decide +kernel
theorem d14_6 : decode jdk_42_method_154_code 6 = .ok (.aload_n 0, 1) := by decide +kernel
theorem d14_7 : decode jdk_42_method_154_code 7 = .ok (.getfield 15, 3) := by decide +kernel
theorem d14_10 : decode jdk_42_method_154_code 10 = .ok (.ifCond .ne 7, 3) := by decide +kernel
theorem d14_13 : decode jdk_42_method_154_code 13 = .ok (.iconst 1, 1) := by decide +kernel
theorem d14_14 : decode jdk_42_method_154_code 14 = .ok (.goto 4, 3) := by decide +kernel
theorem d14_18 : decode jdk_42_method_154_code 18 = .ok (.ireturn, 1) := by decide +kernel
theorem ef_14_R (m : MethodId) (x0 : Addr) : entryFrame m #[(.ref x0)] 1 = mkF m 0 #[.val (.ref x0)] [] := by first | (simp [entryFrame, mkF, argsToLocals, Value.category]; done) | rfl
def Q_rm14 (Z : State) (x0 : Addr) (cs : Int32) (h0 : Heap) (n0 : Nat) (v : Option Value) (h : Heap) (L : List Loc) : Prop := v = some (.int (1 : Int32)) ∧ Fr n0 L ∧ h = h0
set_option maxRecDepth 65536 in
set_option maxHeartbeats 40000000 in
theorem rm14 (l : Launch) (Z : State) (a0 : Array Value) (hw : ∀ d ∈ tables_1, d.before a0 Z = true) (ws : List Jvm.Cond) (x0 : Addr) (cs : Int32) (h0 : Heap) (n0 : Nat) (Z0 : n0 ≤ h0.size) (O0 : Old Z n0 h0) (p_0 : Fld Z h0 x0 "java/lang/String" "coder" "B" (.int (0 : Int32))) (p_1 : Sta Z Z.heap "java/lang/String" "COMPACT_STRINGS" "Z" (.int cs)) (p_2 : ¬ cs = (0 : Int32)) :
    MetFree l (⟨"java/lang/String", "isLatin1", "()Z"⟩ : MethodName) (head1 (Jvm.Cond.code (⟨"java/lang/String", "isLatin1", "()Z"⟩ : MethodName) jdk_42_method_154_code 1 (some .boolean) :: ws) ({ frames := 0, cells := 0, slots := 0, locals := 0 } : Room)) (fun a U => a = #[(.ref x0)] ∧ Z.Warmed39 U.vm ∧ U.heap = h0) (fun _ _ _ _ _ => True) (fun _ U o U' => ∃ v L, o = .returned v ∧ Q_rm14 Z x0 cs h0 n0 v U'.heap L ∧ FrameEnd U o U' L ({ frames := 0, cells := 0, slots := 0, locals := 0 } : Room).cells ({ frames := 0, cells := 0, slots := 0, locals := 0 } : Room).slots) := by
  refine MetFree.of_bodySF (plainFor_of_name pn_4) hisR ?_
  intro p e s m args below meth c s₁ Bd hml0 hP hK
  obtain ⟨rfl, hZ, hh⟩ := hP
  have hx := Bd.exec
  have hby := Bd.bytes
  have hml : c.maxLocals = 1 := hml0
  have hown : s.vm.findClass "java/lang/String" = some m.cls := findClass_of_methodNamed Bd.named
  have hnm := (name_of_methodNamed Bd.named Bd.method).1
  have X0 : Stand p l e ({ frames := 0, cells := 0, slots := 0, locals := 0 } : Room) s m #[(.ref x0)] below meth c s₁ [] 0 0 := Stand.of_body Bd
  have e0 : s₁.heap = h0 := by rw [← hh, Bd.state]; rfl
  have N0 := Fr.nil n0
  show own_Ends p e below s ({ frames := 0, cells := 0, slots := 0, locals := 0 } : Room).cells ({ frames := 0, cells := 0, slots := 0, locals := 0 } : Room).slots (Q_rm14 Z x0 cs h0 n0) (s₁.setTop (entryFrame m #[(.ref x0)] 1))
  rw [ef_14_R]
  obtain ⟨T1, X1, e1, st1⟩ := getS2 X0 hx hZ hown (host := "") (Or.inl (own_h hw 14 rfl)) Via.refl e0 (p_1.ext O0.2) (g := (mkF m 0 #[.val (.ref x0)] [])) rfl (hb hby d14_0)
  refine own_step (st' := T1.setTop (mkF m 3 #[.val (.ref x0)] [(.int cs)])) st1 ?_
  refine own_step (st' := T1.setTop (mkF m 6 #[.val (.ref x0)] [])) (fun t k => XS.ifNo X1.here hx rfl (hb hby d14_3) rfl ((if0 _ _).trans (feq p_2).1) k) ?_
  refine own_step (st' := T1.setTop (mkF m 7 #[.val (.ref x0)] [(.ref x0)])) (fun t k => XS.aloadN X1.here hx rfl (hb hby d14_6) rfl rfl k) ?_
  obtain ⟨T2, X2, e2, st2⟩ := getF X1 hx hZ hown (host := "") (Or.inl (own_h hw 26 rfl)) Via.refl e1 p_0 (g := (mkF m 7 #[.val (.ref x0)] [(.ref x0)])) rfl rfl (hb hby d14_7)
  refine own_step (st' := T2.setTop (mkF m 10 #[.val (.ref x0)] [(.int (0 : Int32))])) st2 ?_
  refine own_step (st' := T2.setTop (mkF m 13 #[.val (.ref x0)] [])) (fun t k => XS.ifNo X2.here hx rfl (hb hby d14_10) rfl ((if0 _ _).trans (teq (by decide)).2) k) ?_
  refine own_step (st' := T2.setTop (mkF m 14 #[.val (.ref x0)] [(.int (1 : Int32))])) (fun t k => XS.iconst X2.here hx rfl (hb hby d14_13) k) ?_
  refine own_step (st' := T2.setTop (mkF m 18 #[.val (.ref x0)] [(.int (1 : Int32))])) (fun t k => XS.goto X2.here hx rfl (pc0 := 14) (pc' := 18) rfl (hb hby d14_14) (by decide) (by decide) k) ?_
  refine own_ret X2 Bd.notSynchronized (some (.int (1 : Int32))) (fun h => by rw [Bd.returns] at h; cases h) (fun fs hr => retN X2 hx (t := .boolean) Bd.returns (by simp) (hb hby d14_18) hr) ?_ (by decide) (by decide)
  rw [e2]
  exact ⟨rfl, N0, rfl⟩
theorem d10_0 : decode jdk_42_method_54_code 0 = .ok (.aload_n 0, 1) := by decide +kernel
theorem d10_1 : decode jdk_42_method_54_code 1 = .ok (.getfield 9, 3) := by decide +kernel
theorem d10_4 : decode jdk_42_method_54_code 4 = .ok (.arraylength, 1) := by decide +kernel
theorem d10_5 : decode jdk_42_method_54_code 5 = .ok (.aload_n 0, 1) := by decide +kernel
theorem d10_6 : decode jdk_42_method_54_code 6 = .ok (.invokevirtual 335, 3) := by decide +kernel
theorem d10_9 : decode jdk_42_method_54_code 9 = .ok (.ishr, 1) := by decide +kernel
theorem d10_10 : decode jdk_42_method_54_code 10 = .ok (.ireturn, 1) := by decide +kernel
theorem ef_10_R (m : MethodId) (x0 : Addr) : entryFrame m #[(.ref x0)] 1 = mkF m 0 #[.val (.ref x0)] [] := by first | (simp [entryFrame, mkF, argsToLocals, Value.category]; done) | rfl
def Q_rm10 (Z : State) (x0 : Addr) (bv : Addr) (kv : ClassId) (n : Int32) (vs : List Value) (cs : Int32) (h0 : Heap) (n0 : Nat) (v : Option Value) (h : Heap) (L : List Loc) : Prop := v = some (.int n) ∧ Fr n0 L ∧ h = h0
set_option maxRecDepth 65536 in
set_option maxHeartbeats 40000000 in
theorem rm10 (l : Launch) (Z : State) (a0 : Array Value) (hw : ∀ d ∈ tables_1, d.before a0 Z = true) (ws : List Jvm.Cond) (x0 : Addr) (bv : Addr) (kv : ClassId) (n : Int32) (vs : List Value) (cs : Int32) (h0 : Heap) (n0 : Nat) (Z0 : n0 ≤ h0.size) (O0 : Old Z n0 h0) (p_0 : Exa Z h0 x0 "java/lang/String") (p_1 : Fld Z h0 x0 "java/lang/String" "coder" "B" (.int (0 : Int32))) (p_2 : Fld Z h0 x0 "java/lang/String" "value" "[B" (.ref bv)) (p_3 : Arv Z h0 bv kv .byte n vs (.int (0 : Int32))) (p_4 : Sta Z Z.heap "java/lang/String" "COMPACT_STRINGS" "Z" (.int cs)) (p_5 : ¬ cs = (0 : Int32)) :
    MetFree l (⟨"java/lang/String", "length", "()I"⟩ : MethodName) (head1 (Jvm.Cond.code (⟨"java/lang/String", "length", "()I"⟩ : MethodName) jdk_42_method_54_code 1 (some .int) :: ws) ({ frames := 1, cells := 0, slots := 0, locals := 13 } : Room)) (fun a U => a = #[(.ref x0)] ∧ Z.Warmed39 U.vm ∧ U.heap = h0) (fun _ _ _ _ _ => True) (fun _ U o U' => ∃ v L, o = .returned v ∧ Q_rm10 Z x0 bv kv n vs cs h0 n0 v U'.heap L ∧ FrameEnd U o U' L ({ frames := 1, cells := 0, slots := 0, locals := 13 } : Room).cells ({ frames := 1, cells := 0, slots := 0, locals := 13 } : Room).slots) := by
  refine MetFree.of_bodySF (plainFor_of_name pn_4) hisR ?_
  intro p e s m args below meth c s₁ Bd hml0 hP hK
  obtain ⟨rfl, hZ, hh⟩ := hP
  have hx := Bd.exec
  have hby := Bd.bytes
  have hml : c.maxLocals = 1 := hml0
  have hown : s.vm.findClass "java/lang/String" = some m.cls := findClass_of_methodNamed Bd.named
  have hnm := (name_of_methodNamed Bd.named Bd.method).1
  have X0 : Stand p l e ({ frames := 1, cells := 0, slots := 0, locals := 13 } : Room) s m #[(.ref x0)] below meth c s₁ [] 0 0 := Stand.of_body Bd
  have e0 : s₁.heap = h0 := by rw [← hh, Bd.state]; rfl
  have N0 := Fr.nil n0
  show own_Ends p e below s ({ frames := 1, cells := 0, slots := 0, locals := 13 } : Room).cells ({ frames := 1, cells := 0, slots := 0, locals := 13 } : Room).slots (Q_rm10 Z x0 bv kv n vs cs h0 n0) (s₁.setTop (entryFrame m #[(.ref x0)] 1))
  rw [ef_10_R]
  refine own_step (st' := s₁.setTop (mkF m 1 #[.val (.ref x0)] [(.ref x0)])) (fun t k => XS.aloadN X0.here hx rfl (hb hby d10_0) rfl rfl k) ?_
  obtain ⟨T1, X1, e1, st1⟩ := getF X0 hx hZ hown (host := "") (Or.inl (own_h hw 28 rfl)) Via.refl e0 p_2 (g := (mkF m 1 #[.val (.ref x0)] [(.ref x0)])) rfl rfl (hb hby d10_1)
  refine own_step (st' := T1.setTop (mkF m 4 #[.val (.ref x0)] [(.ref bv)])) st1 ?_
  refine own_step (st' := T1.setTop (mkF m 5 #[.val (.ref x0)] [(.int n)])) (fun t k => own_len X1 hx hZ e1 p_3 (g := (mkF m 4 #[.val (.ref x0)] [(.ref bv)])) rfl rfl (hb hby d10_4) t k) ?_
  refine own_step (st' := T1.setTop (mkF m 6 #[.val (.ref x0)] [(.ref x0), (.int n)])) (fun t k => XS.aloadN X1.here hx rfl (hb hby d10_5) rfl rfl k) ?_
  obtain ⟨cq2, kq2, q2a, q2b, q2c⟩ := isOf hZ e1 p_0
  obtain ⟨_, _, ⟨T2, L2, k2, n2⟩, -, X2, ⟨Lc2, hQ2, l2, y2, z2⟩, st2⟩ := X1.virtualBack hx (y := (⟨"java/lang/String", "coder", "()B"⟩ : MethodName)) (z := (⟨"java/lang/String", "coder", "()B"⟩ : MethodName)) hown (mvT hZ (own_h hw 68 rfl)) (mvT hZ (own_h hw 69 rfl)) (notFace_of_selects (args := #[]) (mvT hZ (own_h hw 71 rfl))) (mvT hZ (own_h hw 71 rfl)) (mvT hZ (own_h hw 70 rfl)) (by decide) (backOf (W := 1) (rm11 l Z a0 hw [] x0 cs h0 n0 Z0 O0 p_1 p_4 p_5) hZ (own_h hw 72 rfl) (own_h hw 3 rfl) (by decide) (by decide)) q2a q2c (g := (mkF m 6 #[.val (.ref x0)] [(.ref x0), (.int n)])) rfl (by rw [hml]; rfl) (Steps.refl _) (argsL := []) (rest := [(.int n)]) (lenOf pd_10 rfl) rfl (by show 2 * 0 + _ ≤ _; exact Nat.le_of_eq rfl) (hb hby d10_6) (fun _ _ => ⟨rfl, e1, (by decide : 0 + 0 ≤ _), (by decide : 0 + 0 ≤ _)⟩)
  dsimp only [Pt.U, Pt.locs, Pt.cells, Pt.slots] at X2 l2 y2 z2 st2 hQ2
  subst y2 z2
  obtain ⟨rfl, N2q, e2⟩ := hQ2
  have N2 := Fr.app N0 N2q
  rw [← l2] at N2
  clear l2
  refine own_step (st' := T2.setTop (mkF m 9 #[.val (.ref x0)] [(.int (0 : Int32)), (.int n)])) (fun t k => st2.trans k) ?_
  refine own_step (st' := T2.setTop (mkF m 10 #[.val (.ref x0)] [(.int (n >>> ((0 : Int32) &&& 31)))])) (fun t k => XS.ishr X2.here hx rfl (hb hby d10_9) rfl k) ?_
  refine own_ret X2 Bd.notSynchronized (some (.int (n >>> ((0 : Int32) &&& 31)))) (fun h => by rw [Bd.returns] at h; cases h) (fun fs hr => own_retI X2 hx Bd.returns (hb hby d10_10) hr) ?_ (by decide) (by decide)
  rw [e2]
  exact ⟨(congrArg (fun z => some (Value.int z)) (own_shr0 n)), N2, rfl⟩
theorem d25_0 : decode jdk_41_method_11_code 0 = .ok (.iload_n 0, 1) := by decide +kernel
theorem d25_1 : decode jdk_41_method_11_code 1 = .ok (.ifCond .lt 8, 3) := by decide +kernel
theorem d25_4 : decode jdk_41_method_11_code 4 = .ok (.iload_n 0, 1) := by decide +kernel
theorem d25_5 : decode jdk_41_method_11_code 5 = .ok (.iload_n 1, 1) := by decide +kernel
theorem d25_6 : decode jdk_41_method_11_code 6 = .ok (.if_icmp .lt 10, 3) := by decide +kernel
theorem d25_16 : decode jdk_41_method_11_code 16 = .ok (.iload_n 0, 1) := by decide +kernel
theorem d25_17 : decode jdk_41_method_11_code 17 = .ok (.ireturn, 1) := by decide +kernel
theorem pn_8 : plainName "jdk/internal/util/Preconditions" = true := by first | (simp [plainName, overriddenIn]; done) | decide +kernel
theorem ef_25_IIR (m : MethodId) (x0 : Int32) (x1 : Int32) (x2 : Addr) : entryFrame m #[(.int x0), (.int x1), (.ref x2)] 3 = mkF m 0 #[.val (.int x0), .val (.int x1), .val (.ref x2)] [] := by first | (simp [entryFrame, mkF, argsToLocals, Value.category]; done) | rfl
def Q_rmPIR (Z : State) (x0 : Int32) (x1 : Int32) (x2 : Addr) (h0 : Heap) (n0 : Nat) (v : Option Value) (h : Heap) (L : List Loc) : Prop := v = some (.int x0) ∧ Fr n0 L ∧ h = h0
set_option maxRecDepth 65536 in
set_option maxHeartbeats 40000000 in
theorem rmPIR (l : Launch) (Z : State) (a0 : Array Value) (hw : ∀ d ∈ tables_1, d.before a0 Z = true) (ws : List Jvm.Cond) (x0 : Int32) (x1 : Int32) (x2 : Addr) (h0 : Heap) (n0 : Nat) (Z0 : n0 ≤ h0.size) (p_0 : ¬ x0 < (0 : Int32)) (p_1 : x0 < x1) :
    MetFree l (⟨"jdk/internal/util/Preconditions", "checkIndex", "(IILjava/util/function/BiFunction;)I"⟩ : MethodName) (head1 (Jvm.Cond.code (⟨"jdk/internal/util/Preconditions", "checkIndex", "(IILjava/util/function/BiFunction;)I"⟩ : MethodName) jdk_41_method_11_code 3 (some .int) :: ws) ({ frames := 0, cells := 0, slots := 0, locals := 0 } : Room)) (fun a U => a = #[(.int x0), (.int x1), (.ref x2)] ∧ Z.Warmed39 U.vm ∧ U.heap = h0) (fun _ _ _ _ _ => True) (fun _ U o U' => ∃ v L, o = .returned v ∧ Q_rmPIR Z x0 x1 x2 h0 n0 v U'.heap L ∧ FrameEnd U o U' L ({ frames := 0, cells := 0, slots := 0, locals := 0 } : Room).cells ({ frames := 0, cells := 0, slots := 0, locals := 0 } : Room).slots) := by
  refine MetFree.of_bodySF (plainFor_of_name pn_8) hisR ?_
  intro p e s m args below meth c s₁ Bd hml0 hP hK
  obtain ⟨rfl, hZ, hh⟩ := hP
  have hx := Bd.exec
  have hby := Bd.bytes
  have hml : c.maxLocals = 3 := hml0
  have hown : s.vm.findClass "jdk/internal/util/Preconditions" = some m.cls := findClass_of_methodNamed Bd.named
  have hnm := (name_of_methodNamed Bd.named Bd.method).1
  have X0 : Stand p l e ({ frames := 0, cells := 0, slots := 0, locals := 0 } : Room) s m #[(.int x0), (.int x1), (.ref x2)] below meth c s₁ [] 0 0 := Stand.of_body Bd
  have e0 : s₁.heap = h0 := by rw [← hh, Bd.state]; rfl
  have N0 := Fr.nil n0
  show own_Ends p e below s ({ frames := 0, cells := 0, slots := 0, locals := 0 } : Room).cells ({ frames := 0, cells := 0, slots := 0, locals := 0 } : Room).slots (Q_rmPIR Z x0 x1 x2 h0 n0) (s₁.setTop (entryFrame m #[(.int x0), (.int x1), (.ref x2)] 3))
  rw [ef_25_IIR]
  refine own_step (st' := s₁.setTop (mkF m 1 #[.val (.int x0), .val (.int x1), .val (.ref x2)] [(.int x0)])) (fun t k => XS.iloadN X0.here hx rfl (hb hby d25_0) rfl k) ?_
  refine own_step (st' := s₁.setTop (mkF m 4 #[.val (.int x0), .val (.int x1), .val (.ref x2)] [])) (fun t k => XS.ifNo X0.here hx rfl (hb hby d25_1) rfl ((if0 _ _).trans (flt p_0).1) k) ?_
  refine own_step (st' := s₁.setTop (mkF m 5 #[.val (.int x0), .val (.int x1), .val (.ref x2)] [(.int x0)])) (fun t k => XS.iloadN X0.here hx rfl (hb hby d25_4) rfl k) ?_
  refine own_step (st' := s₁.setTop (mkF m 6 #[.val (.int x0), .val (.int x1), .val (.ref x2)] [(.int x1), (.int x0)])) (fun t k => XS.iloadN X0.here hx rfl (hb hby d25_5) rfl k) ?_
  refine own_step (st' := s₁.setTop (mkF m 16 #[.val (.int x0), .val (.int x1), .val (.ref x2)] [])) (fun t k => XS.icmpYes X0.here hx rfl (pc0 := 6) (pc' := 16) rfl (hb hby d25_6) rfl (tlt p_1).1 (by decide) (by decide) k) ?_
  refine own_step (st' := s₁.setTop (mkF m 17 #[.val (.int x0), .val (.int x1), .val (.ref x2)] [(.int x0)])) (fun t k => XS.iloadN X0.here hx rfl (hb hby d25_16) rfl k) ?_
  refine own_ret X0 Bd.notSynchronized (some (.int x0)) (fun h => by rw [Bd.returns] at h; cases h) (fun fs hr => own_retI X0 hx Bd.returns (hb hby d25_17) hr) ?_ (by decide) (by decide)
  rw [e0]
  exact ⟨rfl, N0, rfl⟩
theorem ef_25_IIN (m : MethodId) (x0 : Int32) (x1 : Int32) : entryFrame m #[(.int x0), (.int x1), .null] 3 = mkF m 0 #[.val (.int x0), .val (.int x1), .val .null] [] := by first | (simp [entryFrame, mkF, argsToLocals, Value.category]; done) | rfl
def Q_rmPIN (Z : State) (x0 : Int32) (x1 : Int32) (h0 : Heap) (n0 : Nat) (v : Option Value) (h : Heap) (L : List Loc) : Prop := v = some (.int x0) ∧ Fr n0 L ∧ h = h0
set_option maxRecDepth 65536 in
set_option maxHeartbeats 40000000 in
theorem rmPIN (l : Launch) (Z : State) (a0 : Array Value) (hw : ∀ d ∈ tables_1, d.before a0 Z = true) (ws : List Jvm.Cond) (x0 : Int32) (x1 : Int32) (h0 : Heap) (n0 : Nat) (Z0 : n0 ≤ h0.size) (p_0 : ¬ x0 < (0 : Int32)) (p_1 : x0 < x1) :
    MetFree l (⟨"jdk/internal/util/Preconditions", "checkIndex", "(IILjava/util/function/BiFunction;)I"⟩ : MethodName) (head1 (Jvm.Cond.code (⟨"jdk/internal/util/Preconditions", "checkIndex", "(IILjava/util/function/BiFunction;)I"⟩ : MethodName) jdk_41_method_11_code 3 (some .int) :: ws) ({ frames := 0, cells := 0, slots := 0, locals := 0 } : Room)) (fun a U => a = #[(.int x0), (.int x1), .null] ∧ Z.Warmed39 U.vm ∧ U.heap = h0) (fun _ _ _ _ _ => True) (fun _ U o U' => ∃ v L, o = .returned v ∧ Q_rmPIN Z x0 x1 h0 n0 v U'.heap L ∧ FrameEnd U o U' L ({ frames := 0, cells := 0, slots := 0, locals := 0 } : Room).cells ({ frames := 0, cells := 0, slots := 0, locals := 0 } : Room).slots) := by
  refine MetFree.of_bodySF (plainFor_of_name pn_8) hisR ?_
  intro p e s m args below meth c s₁ Bd hml0 hP hK
  obtain ⟨rfl, hZ, hh⟩ := hP
  have hx := Bd.exec
  have hby := Bd.bytes
  have hml : c.maxLocals = 3 := hml0
  have hown : s.vm.findClass "jdk/internal/util/Preconditions" = some m.cls := findClass_of_methodNamed Bd.named
  have hnm := (name_of_methodNamed Bd.named Bd.method).1
  have X0 : Stand p l e ({ frames := 0, cells := 0, slots := 0, locals := 0 } : Room) s m #[(.int x0), (.int x1), .null] below meth c s₁ [] 0 0 := Stand.of_body Bd
  have e0 : s₁.heap = h0 := by rw [← hh, Bd.state]; rfl
  have N0 := Fr.nil n0
  show own_Ends p e below s ({ frames := 0, cells := 0, slots := 0, locals := 0 } : Room).cells ({ frames := 0, cells := 0, slots := 0, locals := 0 } : Room).slots (Q_rmPIN Z x0 x1 h0 n0) (s₁.setTop (entryFrame m #[(.int x0), (.int x1), .null] 3))
  rw [ef_25_IIN]
  refine own_step (st' := s₁.setTop (mkF m 1 #[.val (.int x0), .val (.int x1), .val .null] [(.int x0)])) (fun t k => XS.iloadN X0.here hx rfl (hb hby d25_0) rfl k) ?_
  refine own_step (st' := s₁.setTop (mkF m 4 #[.val (.int x0), .val (.int x1), .val .null] [])) (fun t k => XS.ifNo X0.here hx rfl (hb hby d25_1) rfl ((if0 _ _).trans (flt p_0).1) k) ?_
  refine own_step (st' := s₁.setTop (mkF m 5 #[.val (.int x0), .val (.int x1), .val .null] [(.int x0)])) (fun t k => XS.iloadN X0.here hx rfl (hb hby d25_4) rfl k) ?_
  refine own_step (st' := s₁.setTop (mkF m 6 #[.val (.int x0), .val (.int x1), .val .null] [(.int x1), (.int x0)])) (fun t k => XS.iloadN X0.here hx rfl (hb hby d25_5) rfl k) ?_
  refine own_step (st' := s₁.setTop (mkF m 16 #[.val (.int x0), .val (.int x1), .val .null] [])) (fun t k => XS.icmpYes X0.here hx rfl (pc0 := 6) (pc' := 16) rfl (hb hby d25_6) rfl (tlt p_1).1 (by decide) (by decide) k) ?_
  refine own_step (st' := s₁.setTop (mkF m 17 #[.val (.int x0), .val (.int x1), .val .null] [(.int x0)])) (fun t k => XS.iloadN X0.here hx rfl (hb hby d25_16) rfl k) ?_
  refine own_ret X0 Bd.notSynchronized (some (.int x0)) (fun h => by rw [Bd.returns] at h; cases h) (fun fs hr => own_retI X0 hx Bd.returns (hb hby d25_17) hr) ?_ (by decide) (by decide)
  rw [e0]
  exact ⟨rfl, N0, rfl⟩
theorem d13_0 : decode jdk_41_method_12_code 0 = .ok (.iload_n 0, 1) := by decide +kernel
theorem d13_1 : decode jdk_41_method_12_code 1 = .ok (.ifCond .lt 13, 3) := by decide +kernel
theorem d13_4 : decode jdk_41_method_12_code 4 = .ok (.iload_n 0, 1) := by decide +kernel
theorem d13_5 : decode jdk_41_method_12_code 5 = .ok (.iload_n 1, 1) := by decide +kernel
theorem d13_6 : decode jdk_41_method_12_code 6 = .ok (.if_icmp .gt 8, 3) := by decide +kernel
theorem d13_9 : decode jdk_41_method_12_code 9 = .ok (.iload_n 1, 1) := by decide +kernel
theorem d13_10 : decode jdk_41_method_12_code 10 = .ok (.iload_n 2, 1) := by decide +kernel
theorem d13_11 : decode jdk_41_method_12_code 11 = .ok (.if_icmp .le 11, 3) := by decide +kernel
theorem d13_22 : decode jdk_41_method_12_code 22 = .ok (.iload_n 0, 1) := by decide +kernel
theorem d13_23 : decode jdk_41_method_12_code 23 = .ok (.ireturn, 1) := by decide +kernel
theorem ef_13_IIIR (m : MethodId) (x0 : Int32) (x1 : Int32) (x2 : Int32) (x3 : Addr) : entryFrame m #[(.int x0), (.int x1), (.int x2), (.ref x3)] 4 = mkF m 0 #[.val (.int x0), .val (.int x1), .val (.int x2), .val (.ref x3)] [] := by first | (simp [entryFrame, mkF, argsToLocals, Value.category]; done) | rfl
def Q_rmPFR (Z : State) (x0 : Int32) (x1 : Int32) (x2 : Int32) (x3 : Addr) (h0 : Heap) (n0 : Nat) (v : Option Value) (h : Heap) (L : List Loc) : Prop := v = some (.int x0) ∧ Fr n0 L ∧ h = h0
set_option maxRecDepth 65536 in
set_option maxHeartbeats 40000000 in
theorem rmPFR (l : Launch) (Z : State) (a0 : Array Value) (hw : ∀ d ∈ tables_1, d.before a0 Z = true) (ws : List Jvm.Cond) (x0 : Int32) (x1 : Int32) (x2 : Int32) (x3 : Addr) (h0 : Heap) (n0 : Nat) (Z0 : n0 ≤ h0.size) (p_0 : ¬ x0 < (0 : Int32)) (p_1 : ¬ x1 < x0) (p_2 : ¬ x2 < x1) :
    MetFree l (⟨"jdk/internal/util/Preconditions", "checkFromToIndex", "(IIILjava/util/function/BiFunction;)I"⟩ : MethodName) (head1 (Jvm.Cond.code (⟨"jdk/internal/util/Preconditions", "checkFromToIndex", "(IIILjava/util/function/BiFunction;)I"⟩ : MethodName) jdk_41_method_12_code 4 (some .int) :: ws) ({ frames := 0, cells := 0, slots := 0, locals := 0 } : Room)) (fun a U => a = #[(.int x0), (.int x1), (.int x2), (.ref x3)] ∧ Z.Warmed39 U.vm ∧ U.heap = h0) (fun _ _ _ _ _ => True) (fun _ U o U' => ∃ v L, o = .returned v ∧ Q_rmPFR Z x0 x1 x2 x3 h0 n0 v U'.heap L ∧ FrameEnd U o U' L ({ frames := 0, cells := 0, slots := 0, locals := 0 } : Room).cells ({ frames := 0, cells := 0, slots := 0, locals := 0 } : Room).slots) := by
  refine MetFree.of_bodySF (plainFor_of_name pn_8) hisR ?_
  intro p e s m args below meth c s₁ Bd hml0 hP hK
  obtain ⟨rfl, hZ, hh⟩ := hP
  have hx := Bd.exec
  have hby := Bd.bytes
  have hml : c.maxLocals = 4 := hml0
  have hown : s.vm.findClass "jdk/internal/util/Preconditions" = some m.cls := findClass_of_methodNamed Bd.named
  have hnm := (name_of_methodNamed Bd.named Bd.method).1
  have X0 : Stand p l e ({ frames := 0, cells := 0, slots := 0, locals := 0 } : Room) s m #[(.int x0), (.int x1), (.int x2), (.ref x3)] below meth c s₁ [] 0 0 := Stand.of_body Bd
  have e0 : s₁.heap = h0 := by rw [← hh, Bd.state]; rfl
  have N0 := Fr.nil n0
  show own_Ends p e below s ({ frames := 0, cells := 0, slots := 0, locals := 0 } : Room).cells ({ frames := 0, cells := 0, slots := 0, locals := 0 } : Room).slots (Q_rmPFR Z x0 x1 x2 x3 h0 n0) (s₁.setTop (entryFrame m #[(.int x0), (.int x1), (.int x2), (.ref x3)] 4))
  rw [ef_13_IIIR]
  refine own_step (st' := s₁.setTop (mkF m 1 #[.val (.int x0), .val (.int x1), .val (.int x2), .val (.ref x3)] [(.int x0)])) (fun t k => XS.iloadN X0.here hx rfl (hb hby d13_0) rfl k) ?_
  refine own_step (st' := s₁.setTop (mkF m 4 #[.val (.int x0), .val (.int x1), .val (.int x2), .val (.ref x3)] [])) (fun t k => XS.ifNo X0.here hx rfl (hb hby d13_1) rfl ((if0 _ _).trans (flt p_0).1) k) ?_
  refine own_step (st' := s₁.setTop (mkF m 5 #[.val (.int x0), .val (.int x1), .val (.int x2), .val (.ref x3)] [(.int x0)])) (fun t k => XS.iloadN X0.here hx rfl (hb hby d13_4) rfl k) ?_
  refine own_step (st' := s₁.setTop (mkF m 6 #[.val (.int x0), .val (.int x1), .val (.int x2), .val (.ref x3)] [(.int x1), (.int x0)])) (fun t k => XS.iloadN X0.here hx rfl (hb hby d13_5) rfl k) ?_
  refine own_step (st' := s₁.setTop (mkF m 9 #[.val (.int x0), .val (.int x1), .val (.int x2), .val (.ref x3)] [])) (fun t k => XS.icmpNo X0.here hx rfl (hb hby d13_6) rfl (flt p_1).2.2.1 k) ?_
  refine own_step (st' := s₁.setTop (mkF m 10 #[.val (.int x0), .val (.int x1), .val (.int x2), .val (.ref x3)] [(.int x1)])) (fun t k => XS.iloadN X0.here hx rfl (hb hby d13_9) rfl k) ?_
  refine own_step (st' := s₁.setTop (mkF m 11 #[.val (.int x0), .val (.int x1), .val (.int x2), .val (.ref x3)] [(.int x2), (.int x1)])) (fun t k => XS.iloadN X0.here hx rfl (hb hby d13_10) rfl k) ?_
  refine own_step (st' := s₁.setTop (mkF m 22 #[.val (.int x0), .val (.int x1), .val (.int x2), .val (.ref x3)] [])) (fun t k => XS.icmpYes X0.here hx rfl (pc0 := 11) (pc' := 22) rfl (hb hby d13_11) rfl (flt p_2).2.2.2 (by decide) (by decide) k) ?_
  refine own_step (st' := s₁.setTop (mkF m 23 #[.val (.int x0), .val (.int x1), .val (.int x2), .val (.ref x3)] [(.int x0)])) (fun t k => XS.iloadN X0.here hx rfl (hb hby d13_22) rfl k) ?_
  refine own_ret X0 Bd.notSynchronized (some (.int x0)) (fun h => by rw [Bd.returns] at h; cases h) (fun fs hr => own_retI X0 hx Bd.returns (hb hby d13_23) hr) ?_ (by decide) (by decide)
  rw [e0]
  exact ⟨rfl, N0, rfl⟩
theorem ef_13_IIIN (m : MethodId) (x0 : Int32) (x1 : Int32) (x2 : Int32) : entryFrame m #[(.int x0), (.int x1), (.int x2), .null] 4 = mkF m 0 #[.val (.int x0), .val (.int x1), .val (.int x2), .val .null] [] := by first | (simp [entryFrame, mkF, argsToLocals, Value.category]; done) | rfl
def Q_rmPFN (Z : State) (x0 : Int32) (x1 : Int32) (x2 : Int32) (h0 : Heap) (n0 : Nat) (v : Option Value) (h : Heap) (L : List Loc) : Prop := v = some (.int x0) ∧ Fr n0 L ∧ h = h0
set_option maxRecDepth 65536 in
set_option maxHeartbeats 40000000 in
theorem rmPFN (l : Launch) (Z : State) (a0 : Array Value) (hw : ∀ d ∈ tables_1, d.before a0 Z = true) (ws : List Jvm.Cond) (x0 : Int32) (x1 : Int32) (x2 : Int32) (h0 : Heap) (n0 : Nat) (Z0 : n0 ≤ h0.size) (p_0 : ¬ x0 < (0 : Int32)) (p_1 : ¬ x1 < x0) (p_2 : ¬ x2 < x1) :
    MetFree l (⟨"jdk/internal/util/Preconditions", "checkFromToIndex", "(IIILjava/util/function/BiFunction;)I"⟩ : MethodName) (head1 (Jvm.Cond.code (⟨"jdk/internal/util/Preconditions", "checkFromToIndex", "(IIILjava/util/function/BiFunction;)I"⟩ : MethodName) jdk_41_method_12_code 4 (some .int) :: ws) ({ frames := 0, cells := 0, slots := 0, locals := 0 } : Room)) (fun a U => a = #[(.int x0), (.int x1), (.int x2), .null] ∧ Z.Warmed39 U.vm ∧ U.heap = h0) (fun _ _ _ _ _ => True) (fun _ U o U' => ∃ v L, o = .returned v ∧ Q_rmPFN Z x0 x1 x2 h0 n0 v U'.heap L ∧ FrameEnd U o U' L ({ frames := 0, cells := 0, slots := 0, locals := 0 } : Room).cells ({ frames := 0, cells := 0, slots := 0, locals := 0 } : Room).slots) := by
  refine MetFree.of_bodySF (plainFor_of_name pn_8) hisR ?_
  intro p e s m args below meth c s₁ Bd hml0 hP hK
  obtain ⟨rfl, hZ, hh⟩ := hP
  have hx := Bd.exec
  have hby := Bd.bytes
  have hml : c.maxLocals = 4 := hml0
  have hown : s.vm.findClass "jdk/internal/util/Preconditions" = some m.cls := findClass_of_methodNamed Bd.named
  have hnm := (name_of_methodNamed Bd.named Bd.method).1
  have X0 : Stand p l e ({ frames := 0, cells := 0, slots := 0, locals := 0 } : Room) s m #[(.int x0), (.int x1), (.int x2), .null] below meth c s₁ [] 0 0 := Stand.of_body Bd
  have e0 : s₁.heap = h0 := by rw [← hh, Bd.state]; rfl
  have N0 := Fr.nil n0
  show own_Ends p e below s ({ frames := 0, cells := 0, slots := 0, locals := 0 } : Room).cells ({ frames := 0, cells := 0, slots := 0, locals := 0 } : Room).slots (Q_rmPFN Z x0 x1 x2 h0 n0) (s₁.setTop (entryFrame m #[(.int x0), (.int x1), (.int x2), .null] 4))
  rw [ef_13_IIIN]
  refine own_step (st' := s₁.setTop (mkF m 1 #[.val (.int x0), .val (.int x1), .val (.int x2), .val .null] [(.int x0)])) (fun t k => XS.iloadN X0.here hx rfl (hb hby d13_0) rfl k) ?_
  refine own_step (st' := s₁.setTop (mkF m 4 #[.val (.int x0), .val (.int x1), .val (.int x2), .val .null] [])) (fun t k => XS.ifNo X0.here hx rfl (hb hby d13_1) rfl ((if0 _ _).trans (flt p_0).1) k) ?_
  refine own_step (st' := s₁.setTop (mkF m 5 #[.val (.int x0), .val (.int x1), .val (.int x2), .val .null] [(.int x0)])) (fun t k => XS.iloadN X0.here hx rfl (hb hby d13_4) rfl k) ?_
  refine own_step (st' := s₁.setTop (mkF m 6 #[.val (.int x0), .val (.int x1), .val (.int x2), .val .null] [(.int x1), (.int x0)])) (fun t k => XS.iloadN X0.here hx rfl (hb hby d13_5) rfl k) ?_
  refine own_step (st' := s₁.setTop (mkF m 9 #[.val (.int x0), .val (.int x1), .val (.int x2), .val .null] [])) (fun t k => XS.icmpNo X0.here hx rfl (hb hby d13_6) rfl (flt p_1).2.2.1 k) ?_
  refine own_step (st' := s₁.setTop (mkF m 10 #[.val (.int x0), .val (.int x1), .val (.int x2), .val .null] [(.int x1)])) (fun t k => XS.iloadN X0.here hx rfl (hb hby d13_9) rfl k) ?_
  refine own_step (st' := s₁.setTop (mkF m 11 #[.val (.int x0), .val (.int x1), .val (.int x2), .val .null] [(.int x2), (.int x1)])) (fun t k => XS.iloadN X0.here hx rfl (hb hby d13_10) rfl k) ?_
  refine own_step (st' := s₁.setTop (mkF m 22 #[.val (.int x0), .val (.int x1), .val (.int x2), .val .null] [])) (fun t k => XS.icmpYes X0.here hx rfl (pc0 := 11) (pc' := 22) rfl (hb hby d13_11) rfl (flt p_2).2.2.2 (by decide) (by decide) k) ?_
  refine own_step (st' := s₁.setTop (mkF m 23 #[.val (.int x0), .val (.int x1), .val (.int x2), .val .null] [(.int x0)])) (fun t k => XS.iloadN X0.here hx rfl (hb hby d13_22) rfl k) ?_
  refine own_ret X0 Bd.notSynchronized (some (.int x0)) (fun h => by rw [Bd.returns] at h; cases h) (fun fs hr => own_retI X0 hx Bd.returns (hb hby d13_23) hr) ?_ (by decide) (by decide)
  rw [e0]
  exact ⟨rfl, N0, rfl⟩
theorem d24_0 : decode jdk_42_method_155_code 0 = .ok (.iload_n 0, 1) := by decide +kernel
theorem d24_1 : decode jdk_42_method_155_code 1 = .ok (.iload_n 1, 1) := by decide +kernel
theorem d24_2 : decode jdk_42_method_155_code 2 = .ok (.getstatic 1053, 3) := by decide +kernel
theorem d24_5 : decode jdk_42_method_155_code 5 = .ok (.invokestatic 1059, 3) := by decide +kernel
theorem d24_8 : decode jdk_42_method_155_code 8 = .ok (.pop, 1) := by decide +kernel
theorem d24_9 : decode jdk_42_method_155_code 9 = .ok (.return_, 1) := by decide +kernel
theorem ef_24_II (m : MethodId) (x0 : Int32) (x1 : Int32) : entryFrame m #[(.int x0), (.int x1)] 2 = mkF m 0 #[.val (.int x0), .val (.int x1)] [] := by first | (simp [entryFrame, mkF, argsToLocals, Value.category]; done) | rfl
def Q_rm24 (Z : State) (x0 : Int32) (x1 : Int32) (fm : Value) (h0 : Heap) (n0 : Nat) (v : Option Value) (h : Heap) (L : List Loc) : Prop := v = none ∧ Fr n0 L ∧ h = h0
set_option maxRecDepth 65536 in
set_option maxHeartbeats 40000000 in
theorem rm24 (l : Launch) (Z : State) (a0 : Array Value) (hw : ∀ d ∈ tables_1, d.before a0 Z = true) (ws : List Jvm.Cond) (x0 : Int32) (x1 : Int32) (fm : Value) (h0 : Heap) (n0 : Nat) (Z0 : n0 ≤ h0.size) (O0 : Old Z n0 h0) (p_0 : Sta Z Z.heap "jdk/internal/util/Preconditions" "SIOOBE_FORMATTER" "Ljava/util/function/BiFunction;" fm) (p_1 : fm.isRef = true) (p_2 : ¬ x0 < (0 : Int32)) (p_3 : x0 < x1) :
    MetFree l (⟨"java/lang/String", "checkIndex", "(II)V"⟩ : MethodName) (head1 (Jvm.Cond.code (⟨"java/lang/String", "checkIndex", "(II)V"⟩ : MethodName) jdk_42_method_155_code 2 none :: ws) ({ frames := 1, cells := 0, slots := 0, locals := 14 } : Room)) (fun a U => a = #[(.int x0), (.int x1)] ∧ Z.Warmed39 U.vm ∧ U.heap = h0) (fun _ _ _ _ _ => True) (fun _ U o U' => ∃ v L, o = .returned v ∧ Q_rm24 Z x0 x1 fm h0 n0 v U'.heap L ∧ FrameEnd U o U' L ({ frames := 1, cells := 0, slots := 0, locals := 14 } : Room).cells ({ frames := 1, cells := 0, slots := 0, locals := 14 } : Room).slots) := by
  refine MetFree.of_bodySF (plainFor_of_name pn_4) hisR ?_
  intro p e s m args below meth c s₁ Bd hml0 hP hK
  obtain ⟨rfl, hZ, hh⟩ := hP
  have hx := Bd.exec
  have hby := Bd.bytes
  have hml : c.maxLocals = 2 := hml0
  have hown : s.vm.findClass "java/lang/String" = some m.cls := findClass_of_methodNamed Bd.named
  have hnm := (name_of_methodNamed Bd.named Bd.method).1
  have X0 : Stand p l e ({ frames := 1, cells := 0, slots := 0, locals := 14 } : Room) s m #[(.int x0), (.int x1)] below meth c s₁ [] 0 0 := Stand.of_body Bd
  have e0 : s₁.heap = h0 := by rw [← hh, Bd.state]; rfl
  have N0 := Fr.nil n0
  show own_Ends p e below s ({ frames := 1, cells := 0, slots := 0, locals := 14 } : Room).cells ({ frames := 1, cells := 0, slots := 0, locals := 14 } : Room).slots (Q_rm24 Z x0 x1 fm h0 n0) (s₁.setTop (entryFrame m #[(.int x0), (.int x1)] 2))
  rw [ef_24_II]
  rcases ref_cases p_1 with rfl | ⟨fa, rfl⟩
  · refine own_step (st' := s₁.setTop (mkF m 1 #[.val (.int x0), .val (.int x1)] [(.int x0)])) (fun t k => XS.iloadN X0.here hx rfl (hb hby d24_0) rfl k) ?_
    refine own_step (st' := s₁.setTop (mkF m 2 #[.val (.int x0), .val (.int x1)] [(.int x1), (.int x0)])) (fun t k => XS.iloadN X0.here hx rfl (hb hby d24_1) rfl k) ?_
    obtain ⟨T1, X1, e1, st1⟩ := getS2 X0 hx hZ hown (host := "") (Or.inl (own_h hw 76 rfl)) Via.refl e0 (p_0.ext O0.2) (g := (mkF m 2 #[.val (.int x0), .val (.int x1)] [(.int x1), (.int x0)])) rfl (hb hby d24_2)
    refine own_step (st' := T1.setTop (mkF m 5 #[.val (.int x0), .val (.int x1)] [.null, (.int x1), (.int x0)])) st1 ?_
    obtain ⟨_, _, ⟨T2, L2, k2, n2⟩, -, X2, ⟨Lc2, hQ2, l2, y2, z2⟩, st2⟩ := Jvm.LawKit.callS X1 hx (y := (⟨"jdk/internal/util/Preconditions", "checkIndex", "(IILjava/util/function/BiFunction;)I"⟩ : MethodName)) hown (mvT hZ (own_h hw 131 rfl)) (mvT hZ (own_h hw 132 rfl)) (mvT hZ (own_h hw 77 rfl)) (mvT hZ (own_h hw 133 rfl)) (by decide) (backOf (W := 0) (rmPIN l Z a0 hw [] x0 x1 h0 n0 Z0 p_2 p_3) hZ (own_h hw 133 rfl) (own_h hw 77 rfl) (by decide) (by decide)) (g := (mkF m 5 #[.val (.int x0), .val (.int x1)] [.null, (.int x1), (.int x0)])) rfl (by rw [hml]; rfl) (argsL := [(.int x0), (.int x1), .null]) (rest := []) (lenOf pd_23 rfl) rfl (by show 2 * 0 + _ ≤ _; exact Nat.le_of_eq rfl) (hb hby d24_5) (fun _ _ => ⟨rfl, e1, (by decide : 0 + 0 ≤ _), (by decide : 0 + 0 ≤ _)⟩)
    dsimp only [Pt.U, Pt.locs, Pt.cells, Pt.slots] at X2 l2 y2 z2 st2 hQ2
    subst y2 z2
    obtain ⟨rfl, N2q, e2⟩ := hQ2
    have N2 := Fr.app N0 N2q
    rw [← l2] at N2
    clear l2
    refine own_step (st' := T2.setTop (mkF m 8 #[.val (.int x0), .val (.int x1)] [(.int x0)])) st2 ?_
    refine own_step (st' := T2.setTop (mkF m 9 #[.val (.int x0), .val (.int x1)] [])) (fun t k => XS.pop X2.here hx rfl (hb hby d24_8) rfl rfl k) ?_
    refine own_ret X2 Bd.notSynchronized (none) (fun _ => rfl) (fun fs hr => X2.returnOut hx Bd.returns (hb hby d24_9) hr) ?_ (by decide) (by decide)
    rw [e2]
    exact ⟨rfl, N2, rfl⟩
  · refine own_step (st' := s₁.setTop (mkF m 1 #[.val (.int x0), .val (.int x1)] [(.int x0)])) (fun t k => XS.iloadN X0.here hx rfl (hb hby d24_0) rfl k) ?_
    refine own_step (st' := s₁.setTop (mkF m 2 #[.val (.int x0), .val (.int x1)] [(.int x1), (.int x0)])) (fun t k => XS.iloadN X0.here hx rfl (hb hby d24_1) rfl k) ?_
    obtain ⟨T3, X3, e3, st3⟩ := getS2 X0 hx hZ hown (host := "") (Or.inl (own_h hw 76 rfl)) Via.refl e0 (p_0.ext O0.2) (g := (mkF m 2 #[.val (.int x0), .val (.int x1)] [(.int x1), (.int x0)])) rfl (hb hby d24_2)
    refine own_step (st' := T3.setTop (mkF m 5 #[.val (.int x0), .val (.int x1)] [(.ref fa), (.int x1), (.int x0)])) st3 ?_
    obtain ⟨_, _, ⟨T4, L4, k4, n4⟩, -, X4, ⟨Lc4, hQ4, l4, y4, z4⟩, st4⟩ := Jvm.LawKit.callS X3 hx (y := (⟨"jdk/internal/util/Preconditions", "checkIndex", "(IILjava/util/function/BiFunction;)I"⟩ : MethodName)) hown (mvT hZ (own_h hw 131 rfl)) (mvT hZ (own_h hw 132 rfl)) (mvT hZ (own_h hw 77 rfl)) (mvT hZ (own_h hw 133 rfl)) (by decide) (backOf (W := 0) (rmPIR l Z a0 hw [] x0 x1 fa h0 n0 Z0 p_2 p_3) hZ (own_h hw 133 rfl) (own_h hw 77 rfl) (by decide) (by decide)) (g := (mkF m 5 #[.val (.int x0), .val (.int x1)] [(.ref fa), (.int x1), (.int x0)])) rfl (by rw [hml]; rfl) (argsL := [(.int x0), (.int x1), (.ref fa)]) (rest := []) (lenOf pd_23 rfl) rfl (by show 2 * 0 + _ ≤ _; exact Nat.le_of_eq rfl) (hb hby d24_5) (fun _ _ => ⟨rfl, e3, (by decide : 0 + 0 ≤ _), (by decide : 0 + 0 ≤ _)⟩)
    dsimp only [Pt.U, Pt.locs, Pt.cells, Pt.slots] at X4 l4 y4 z4 st4 hQ4
    subst y4 z4
    obtain ⟨rfl, N4q, e4⟩ := hQ4
    have N4 := Fr.app N0 N4q
    rw [← l4] at N4
    clear l4
    refine own_step (st' := T4.setTop (mkF m 8 #[.val (.int x0), .val (.int x1)] [(.int x0)])) st4 ?_
    refine own_step (st' := T4.setTop (mkF m 9 #[.val (.int x0), .val (.int x1)] [])) (fun t k => XS.pop X4.here hx rfl (hb hby d24_8) rfl rfl k) ?_
    refine own_ret X4 Bd.notSynchronized (none) (fun _ => rfl) (fun fs hr => X4.returnOut hx Bd.returns (hb hby d24_9) hr) ?_ (by decide) (by decide)
    rw [e4]
    exact ⟨rfl, N4, rfl⟩
theorem d12_0 : decode jdk_42_method_158_code 0 = .ok (.iload_n 0, 1) := by decide +kernel
theorem d12_1 : decode jdk_42_method_158_code 1 = .ok (.iload_n 1, 1) := by decide +kernel
theorem d12_2 : decode jdk_42_method_158_code 2 = .ok (.iload_n 2, 1) := by decide +kernel
theorem d12_3 : decode jdk_42_method_158_code 3 = .ok (.getstatic 1053, 3) := by decide +kernel
theorem d12_6 : decode jdk_42_method_158_code 6 = .ok (.invokestatic 1062, 3) := by decide +kernel
theorem d12_9 : decode jdk_42_method_158_code 9 = .ok (.pop, 1) := by decide +kernel
theorem d12_10 : decode jdk_42_method_158_code 10 = .ok (.return_, 1) := by decide +kernel
theorem ef_12_III (m : MethodId) (x0 : Int32) (x1 : Int32) (x2 : Int32) : entryFrame m #[(.int x0), (.int x1), (.int x2)] 3 = mkF m 0 #[.val (.int x0), .val (.int x1), .val (.int x2)] [] := by first | (simp [entryFrame, mkF, argsToLocals, Value.category]; done) | rfl
def Q_rm12 (Z : State) (x0 : Int32) (x1 : Int32) (x2 : Int32) (fm : Value) (h0 : Heap) (n0 : Nat) (v : Option Value) (h : Heap) (L : List Loc) : Prop := v = none ∧ Fr n0 L ∧ h = h0
set_option maxRecDepth 65536 in
set_option maxHeartbeats 40000000 in
theorem rm12 (l : Launch) (Z : State) (a0 : Array Value) (hw : ∀ d ∈ tables_1, d.before a0 Z = true) (ws : List Jvm.Cond) (x0 : Int32) (x1 : Int32) (x2 : Int32) (fm : Value) (h0 : Heap) (n0 : Nat) (Z0 : n0 ≤ h0.size) (O0 : Old Z n0 h0) (p_0 : Sta Z Z.heap "jdk/internal/util/Preconditions" "SIOOBE_FORMATTER" "Ljava/util/function/BiFunction;" fm) (p_1 : fm.isRef = true) (p_2 : ¬ x0 < (0 : Int32)) (p_3 : ¬ x1 < x0) (p_4 : ¬ x2 < x1) :
    MetFree l (⟨"java/lang/String", "checkBoundsBeginEnd", "(III)V"⟩ : MethodName) (head1 (Jvm.Cond.code (⟨"java/lang/String", "checkBoundsBeginEnd", "(III)V"⟩ : MethodName) jdk_42_method_158_code 3 none :: ws) ({ frames := 1, cells := 0, slots := 0, locals := 15 } : Room)) (fun a U => a = #[(.int x0), (.int x1), (.int x2)] ∧ Z.Warmed39 U.vm ∧ U.heap = h0) (fun _ _ _ _ _ => True) (fun _ U o U' => ∃ v L, o = .returned v ∧ Q_rm12 Z x0 x1 x2 fm h0 n0 v U'.heap L ∧ FrameEnd U o U' L ({ frames := 1, cells := 0, slots := 0, locals := 15 } : Room).cells ({ frames := 1, cells := 0, slots := 0, locals := 15 } : Room).slots) := by
  refine MetFree.of_bodySF (plainFor_of_name pn_4) hisR ?_
  intro p e s m args below meth c s₁ Bd hml0 hP hK
  obtain ⟨rfl, hZ, hh⟩ := hP
  have hx := Bd.exec
  have hby := Bd.bytes
  have hml : c.maxLocals = 3 := hml0
  have hown : s.vm.findClass "java/lang/String" = some m.cls := findClass_of_methodNamed Bd.named
  have hnm := (name_of_methodNamed Bd.named Bd.method).1
  have X0 : Stand p l e ({ frames := 1, cells := 0, slots := 0, locals := 15 } : Room) s m #[(.int x0), (.int x1), (.int x2)] below meth c s₁ [] 0 0 := Stand.of_body Bd
  have e0 : s₁.heap = h0 := by rw [← hh, Bd.state]; rfl
  have N0 := Fr.nil n0
  show own_Ends p e below s ({ frames := 1, cells := 0, slots := 0, locals := 15 } : Room).cells ({ frames := 1, cells := 0, slots := 0, locals := 15 } : Room).slots (Q_rm12 Z x0 x1 x2 fm h0 n0) (s₁.setTop (entryFrame m #[(.int x0), (.int x1), (.int x2)] 3))
  rw [ef_12_III]
  rcases ref_cases p_1 with rfl | ⟨fa, rfl⟩
  · refine own_step (st' := s₁.setTop (mkF m 1 #[.val (.int x0), .val (.int x1), .val (.int x2)] [(.int x0)])) (fun t k => XS.iloadN X0.here hx rfl (hb hby d12_0) rfl k) ?_
    refine own_step (st' := s₁.setTop (mkF m 2 #[.val (.int x0), .val (.int x1), .val (.int x2)] [(.int x1), (.int x0)])) (fun t k => XS.iloadN X0.here hx rfl (hb hby d12_1) rfl k) ?_
    refine own_step (st' := s₁.setTop (mkF m 3 #[.val (.int x0), .val (.int x1), .val (.int x2)] [(.int x2), (.int x1), (.int x0)])) (fun t k => XS.iloadN X0.here hx rfl (hb hby d12_2) rfl k) ?_
    obtain ⟨T1, X1, e1, st1⟩ := getS2 X0 hx hZ hown (host := "") (Or.inl (own_h hw 76 rfl)) Via.refl e0 (p_0.ext O0.2) (g := (mkF m 3 #[.val (.int x0), .val (.int x1), .val (.int x2)] [(.int x2), (.int x1), (.int x0)])) rfl (hb hby d12_3)
    refine own_step (st' := T1.setTop (mkF m 6 #[.val (.int x0), .val (.int x1), .val (.int x2)] [.null, (.int x2), (.int x1), (.int x0)])) st1 ?_
    obtain ⟨_, _, ⟨T2, L2, k2, n2⟩, -, X2, ⟨Lc2, hQ2, l2, y2, z2⟩, st2⟩ := Jvm.LawKit.callS X1 hx (y := (⟨"jdk/internal/util/Preconditions", "checkFromToIndex", "(IIILjava/util/function/BiFunction;)I"⟩ : MethodName)) hown (mvT hZ (own_h hw 78 rfl)) (mvT hZ (own_h hw 79 rfl)) (mvT hZ (own_h hw 77 rfl)) (mvT hZ (own_h hw 80 rfl)) (by decide) (backOf (W := 0) (rmPFN l Z a0 hw [] x0 x1 x2 h0 n0 Z0 p_2 p_3 p_4) hZ (own_h hw 80 rfl) (own_h hw 77 rfl) (by decide) (by decide)) (g := (mkF m 6 #[.val (.int x0), .val (.int x1), .val (.int x2)] [.null, (.int x2), (.int x1), (.int x0)])) rfl (by rw [hml]; rfl) (argsL := [(.int x0), (.int x1), (.int x2), .null]) (rest := []) (lenOf pd_12 rfl) rfl (by show 2 * 0 + _ ≤ _; exact Nat.le_of_eq rfl) (hb hby d12_6) (fun _ _ => ⟨rfl, e1, (by decide : 0 + 0 ≤ _), (by decide : 0 + 0 ≤ _)⟩)
    dsimp only [Pt.U, Pt.locs, Pt.cells, Pt.slots] at X2 l2 y2 z2 st2 hQ2
    subst y2 z2
    obtain ⟨rfl, N2q, e2⟩ := hQ2
    have N2 := Fr.app N0 N2q
    rw [← l2] at N2
    clear l2
    refine own_step (st' := T2.setTop (mkF m 9 #[.val (.int x0), .val (.int x1), .val (.int x2)] [(.int x0)])) st2 ?_
    refine own_step (st' := T2.setTop (mkF m 10 #[.val (.int x0), .val (.int x1), .val (.int x2)] [])) (fun t k => XS.pop X2.here hx rfl (hb hby d12_9) rfl rfl k) ?_
    refine own_ret X2 Bd.notSynchronized (none) (fun _ => rfl) (fun fs hr => X2.returnOut hx Bd.returns (hb hby d12_10) hr) ?_ (by decide) (by decide)
    rw [e2]
    exact ⟨rfl, N2, rfl⟩
  · refine own_step (st' := s₁.setTop (mkF m 1 #[.val (.int x0), .val (.int x1), .val (.int x2)] [(.int x0)])) (fun t k => XS.iloadN X0.here hx rfl (hb hby d12_0) rfl k) ?_
    refine own_step (st' := s₁.setTop (mkF m 2 #[.val (.int x0), .val (.int x1), .val (.int x2)] [(.int x1), (.int x0)])) (fun t k => XS.iloadN X0.here hx rfl (hb hby d12_1) rfl k) ?_
    refine own_step (st' := s₁.setTop (mkF m 3 #[.val (.int x0), .val (.int x1), .val (.int x2)] [(.int x2), (.int x1), (.int x0)])) (fun t k => XS.iloadN X0.here hx rfl (hb hby d12_2) rfl k) ?_
    obtain ⟨T3, X3, e3, st3⟩ := getS2 X0 hx hZ hown (host := "") (Or.inl (own_h hw 76 rfl)) Via.refl e0 (p_0.ext O0.2) (g := (mkF m 3 #[.val (.int x0), .val (.int x1), .val (.int x2)] [(.int x2), (.int x1), (.int x0)])) rfl (hb hby d12_3)
    refine own_step (st' := T3.setTop (mkF m 6 #[.val (.int x0), .val (.int x1), .val (.int x2)] [(.ref fa), (.int x2), (.int x1), (.int x0)])) st3 ?_
    obtain ⟨_, _, ⟨T4, L4, k4, n4⟩, -, X4, ⟨Lc4, hQ4, l4, y4, z4⟩, st4⟩ := Jvm.LawKit.callS X3 hx (y := (⟨"jdk/internal/util/Preconditions", "checkFromToIndex", "(IIILjava/util/function/BiFunction;)I"⟩ : MethodName)) hown (mvT hZ (own_h hw 78 rfl)) (mvT hZ (own_h hw 79 rfl)) (mvT hZ (own_h hw 77 rfl)) (mvT hZ (own_h hw 80 rfl)) (by decide) (backOf (W := 0) (rmPFR l Z a0 hw [] x0 x1 x2 fa h0 n0 Z0 p_2 p_3 p_4) hZ (own_h hw 80 rfl) (own_h hw 77 rfl) (by decide) (by decide)) (g := (mkF m 6 #[.val (.int x0), .val (.int x1), .val (.int x2)] [(.ref fa), (.int x2), (.int x1), (.int x0)])) rfl (by rw [hml]; rfl) (argsL := [(.int x0), (.int x1), (.int x2), (.ref fa)]) (rest := []) (lenOf pd_12 rfl) rfl (by show 2 * 0 + _ ≤ _; exact Nat.le_of_eq rfl) (hb hby d12_6) (fun _ _ => ⟨rfl, e3, (by decide : 0 + 0 ≤ _), (by decide : 0 + 0 ≤ _)⟩)
    dsimp only [Pt.U, Pt.locs, Pt.cells, Pt.slots] at X4 l4 y4 z4 st4 hQ4
    subst y4 z4
    obtain ⟨rfl, N4q, e4⟩ := hQ4
    have N4 := Fr.app N0 N4q
    rw [← l4] at N4
    clear l4
    refine own_step (st' := T4.setTop (mkF m 9 #[.val (.int x0), .val (.int x1), .val (.int x2)] [(.int x0)])) st4 ?_
    refine own_step (st' := T4.setTop (mkF m 10 #[.val (.int x0), .val (.int x1), .val (.int x2)] [])) (fun t k => XS.pop X4.here hx rfl (hb hby d12_9) rfl rfl k) ?_
    refine own_ret X4 Bd.notSynchronized (none) (fun _ => rfl) (fun fs hr => X4.returnOut hx Bd.returns (hb hby d12_10) hr) ?_ (by decide) (by decide)
    rw [e4]
    exact ⟨rfl, N4, rfl⟩
theorem d23_0 : decode jdk_43_method_2_code 0 = .ok (.iload_n 1, 1) := by decide +kernel
theorem d23_1 : decode jdk_43_method_2_code 1 = .ok (.aload_n 0, 1) := by decide +kernel
theorem d23_2 : decode jdk_43_method_2_code 2 = .ok (.arraylength, 1) := by decide +kernel
theorem d23_3 : decode jdk_43_method_2_code 3 = .ok (.invokestatic 9, 3) := by decide +kernel
theorem d23_6 : decode jdk_43_method_2_code 6 = .ok (.aload_n 0, 1) := by decide +kernel
theorem d23_7 : decode jdk_43_method_2_code 7 = .ok (.iload_n 1, 1) := by decide +kernel
theorem d23_8 : decode jdk_43_method_2_code 8 = .ok (.baload, 1) := by decide +kernel
theorem d23_9 : decode jdk_43_method_2_code 9 = .ok (.sipush 255, 3) := by decide +kernel
theorem d23_12 : decode jdk_43_method_2_code 12 = .ok (.iand, 1) := by decide +kernel
theorem d23_13 : decode jdk_43_method_2_code 13 = .ok (.i2c, 1) := by decide +kernel
theorem d23_14 : decode jdk_43_method_2_code 14 = .ok (.ireturn, 1) := by decide +kernel
theorem pn_5 : plainName "java/lang/StringLatin1" = true := by first | (simp [plainName, overriddenIn]; done) | decide +kernel
theorem ef_23_RI (m : MethodId) (x0 : Addr) (x1 : Int32) : entryFrame m #[(.ref x0), (.int x1)] 2 = mkF m 0 #[.val (.ref x0), .val (.int x1)] [] := by first | (simp [entryFrame, mkF, argsToLocals, Value.category]; done) | rfl
def Q_rm23 (Z : State) (x0 : Addr) (x1 : Int32) (k : ClassId) (n : Int32) (vs : List Value) (w : Int32) (ch : Int32) (fm : Value) (h0 : Heap) (n0 : Nat) (v : Option Value) (h : Heap) (L : List Loc) : Prop := v = some (.int ch) ∧ Fr n0 L ∧ h = h0
set_option maxRecDepth 65536 in
set_option maxHeartbeats 40000000 in
theorem rm23 (l : Launch) (Z : State) (a0 : Array Value) (hw : ∀ d ∈ tables_1, d.before a0 Z = true) (ws : List Jvm.Cond) (x0 : Addr) (x1 : Int32) (k : ClassId) (n : Int32) (vs : List Value) (w : Int32) (ch : Int32) (fm : Value) (h0 : Heap) (n0 : Nat) (Z0 : n0 ≤ h0.size) (O0 : Old Z n0 h0) (p_0 : Arv Z h0 x0 k .byte n vs (.int (0 : Int32))) (p_1 : ¬ x1 < (0 : Int32)) (p_2 : x1 < n) (p_3 : vs.getD x1.toNatClampNeg (.int (0 : Int32)) = .int w) (p_4 : nar .char ((w &&& (255 : Int32)).toUInt32.toUInt16.toUInt32.toInt32) = ch) (p_5 : Sta Z Z.heap "jdk/internal/util/Preconditions" "SIOOBE_FORMATTER" "Ljava/util/function/BiFunction;" fm) (p_6 : fm.isRef = true) :
    MetFree l (⟨"java/lang/StringLatin1", "charAt", "([BI)C"⟩ : MethodName) (head1 (Jvm.Cond.code (⟨"java/lang/StringLatin1", "charAt", "([BI)C"⟩ : MethodName) jdk_43_method_2_code 2 (some .char) :: ws) ({ frames := 2, cells := 0, slots := 0, locals := 27 } : Room)) (fun a U => a = #[(.ref x0), (.int x1)] ∧ Z.Warmed39 U.vm ∧ U.heap = h0) (fun _ _ _ _ _ => True) (fun _ U o U' => ∃ v L, o = .returned v ∧ Q_rm23 Z x0 x1 k n vs w ch fm h0 n0 v U'.heap L ∧ FrameEnd U o U' L ({ frames := 2, cells := 0, slots := 0, locals := 27 } : Room).cells ({ frames := 2, cells := 0, slots := 0, locals := 27 } : Room).slots) := by
  refine MetFree.of_bodySF (plainFor_of_name pn_5) hisR ?_
  intro p e s m args below meth c s₁ Bd hml0 hP hK
  obtain ⟨rfl, hZ, hh⟩ := hP
  have hx := Bd.exec
  have hby := Bd.bytes
  have hml : c.maxLocals = 2 := hml0
  have hown : s.vm.findClass "java/lang/StringLatin1" = some m.cls := findClass_of_methodNamed Bd.named
  have hnm := (name_of_methodNamed Bd.named Bd.method).1
  have X0 : Stand p l e ({ frames := 2, cells := 0, slots := 0, locals := 27 } : Room) s m #[(.ref x0), (.int x1)] below meth c s₁ [] 0 0 := Stand.of_body Bd
  have e0 : s₁.heap = h0 := by rw [← hh, Bd.state]; rfl
  have N0 := Fr.nil n0
  show own_Ends p e below s ({ frames := 2, cells := 0, slots := 0, locals := 27 } : Room).cells ({ frames := 2, cells := 0, slots := 0, locals := 27 } : Room).slots (Q_rm23 Z x0 x1 k n vs w ch fm h0 n0) (s₁.setTop (entryFrame m #[(.ref x0), (.int x1)] 2))
  rw [ef_23_RI]
  refine own_step (st' := s₁.setTop (mkF m 1 #[.val (.ref x0), .val (.int x1)] [(.int x1)])) (fun t k => XS.iloadN X0.here hx rfl (hb hby d23_0) rfl k) ?_
  refine own_step (st' := s₁.setTop (mkF m 2 #[.val (.ref x0), .val (.int x1)] [(.ref x0), (.int x1)])) (fun t k => XS.aloadN X0.here hx rfl (hb hby d23_1) rfl rfl k) ?_
  refine own_step (st' := s₁.setTop (mkF m 3 #[.val (.ref x0), .val (.int x1)] [(.int n), (.int x1)])) (fun t k => own_len X0 hx hZ e0 p_0 (g := (mkF m 2 #[.val (.ref x0), .val (.int x1)] [(.ref x0), (.int x1)])) rfl rfl (hb hby d23_2) t k) ?_
  obtain ⟨_, _, ⟨T1, L1, k1, n1⟩, -, X1, ⟨Lc1, hQ1, l1, y1, z1⟩, st1⟩ := Jvm.LawKit.callS X0 hx (y := (⟨"java/lang/String", "checkIndex", "(II)V"⟩ : MethodName)) hown (mvT hZ (own_h hw 128 rfl)) (mvT hZ (own_h hw 129 rfl)) (mvT hZ (own_h hw 3 rfl)) (mvT hZ (own_h hw 130 rfl)) (by decide) (backOf (W := 0) (rm24 l Z a0 hw [] x1 n fm h0 n0 Z0 O0 p_5 p_6 p_1 p_2) hZ (own_h hw 130 rfl) (own_h hw 3 rfl) (by decide) (by decide)) (g := (mkF m 3 #[.val (.ref x0), .val (.int x1)] [(.int n), (.int x1)])) rfl (by rw [hml]; rfl) (argsL := [(.int x1), (.int n)]) (rest := []) (lenOf pd_17 rfl) rfl (by show 2 * 0 + _ ≤ _; exact Nat.le_of_eq rfl) (hb hby d23_3) (fun _ _ => ⟨rfl, e0, (by decide : 0 + 0 ≤ _), (by decide : 0 + 0 ≤ _)⟩)
  dsimp only [Pt.U, Pt.locs, Pt.cells, Pt.slots] at X1 l1 y1 z1 st1 hQ1
  subst y1 z1
  obtain ⟨rfl, N1q, e1⟩ := hQ1
  have N1 := Fr.app N0 N1q
  rw [← l1] at N1
  clear l1
  refine own_step (st' := T1.setTop (mkF m 6 #[.val (.ref x0), .val (.int x1)] [])) st1 ?_
  refine own_step (st' := T1.setTop (mkF m 7 #[.val (.ref x0), .val (.int x1)] [(.ref x0)])) (fun t k => XS.aloadN X1.here hx rfl (hb hby d23_6) rfl rfl k) ?_
  refine own_step (st' := T1.setTop (mkF m 8 #[.val (.ref x0), .val (.int x1)] [(.int x1), (.ref x0)])) (fun t k => XS.iloadN X1.here hx rfl (hb hby d23_7) rfl k) ?_
  refine own_step (st' := T1.setTop (mkF m 9 #[.val (.ref x0), .val (.int x1)] [(.int w)])) (fun t k => own_ldB X1 hx hZ e1 p_0 (j := x1) (v := (.int w)) ⟨p_1, p_2⟩ p_3 (g := (mkF m 8 #[.val (.ref x0), .val (.int x1)] [(.int x1), (.ref x0)])) rfl rfl (hb hby d23_8) t k) ?_
  refine own_step (st' := T1.setTop (mkF m 12 #[.val (.ref x0), .val (.int x1)] [(.int (255 : Int32)), (.int w)])) (fun t k => XS.sipush X1.here hx rfl (hb hby d23_9) k) ?_
  refine own_step (st' := T1.setTop (mkF m 13 #[.val (.ref x0), .val (.int x1)] [(.int (w &&& (255 : Int32)))])) (fun t k => XS.iand X1.here hx rfl (hb hby d23_12) rfl k) ?_
  refine own_step (st' := T1.setTop (mkF m 14 #[.val (.ref x0), .val (.int x1)] [(.int ((w &&& (255 : Int32)).toUInt32.toUInt16.toUInt32.toInt32))])) (fun t k => XS.i2c X1.here hx rfl (hb hby d23_13) rfl k) ?_
  refine own_ret X1 Bd.notSynchronized (some (.int (nar .char ((w &&& (255 : Int32)).toUInt32.toUInt16.toUInt32.toInt32)))) (fun h => by rw [Bd.returns] at h; cases h) (fun fs hr => retN X1 hx (t := .char) Bd.returns (by simp) (hb hby d23_14) hr) ?_ (by decide) (by decide)
  rw [e1]
  exact ⟨(congrArg (fun z => some (Value.int z)) p_4), N1, rfl⟩
theorem d22_0 : decode jdk_42_method_56_code 0 = .ok (.aload_n 0, 1) := by decide +kernel
theorem d22_1 : decode jdk_42_method_56_code 1 = .ok (.invokevirtual 492, 3) := by decide +kernel
theorem d22_4 : decode jdk_42_method_56_code 4 = .ok (.ifCond .eq 12, 3) := by decide +kernel
theorem d22_7 : decode jdk_42_method_56_code 7 = .ok (.aload_n 0, 1) := by decide +kernel
theorem d22_8 : decode jdk_42_method_56_code 8 = .ok (.getfield 9, 3) := by decide +kernel
theorem d22_11 : decode jdk_42_method_56_code 11 = .ok (.iload_n 1, 1) := by decide +kernel
theorem d22_12 : decode jdk_42_method_56_code 12 = .ok (.invokestatic 495, 3) := by decide +kernel
theorem d22_15 : decode jdk_42_method_56_code 15 = .ok (.ireturn, 1) := by decide +kernel
theorem ef_22_RI (m : MethodId) (x0 : Addr) (x1 : Int32) : entryFrame m #[(.ref x0), (.int x1)] 2 = mkF m 0 #[.val (.ref x0), .val (.int x1)] [] := by first | (simp [entryFrame, mkF, argsToLocals, Value.category]; done) | rfl
def Q_rm22 (Z : State) (x0 : Addr) (x1 : Int32) (bv : Addr) (kv : ClassId) (n : Int32) (vs : List Value) (w : Int32) (ch : Int32) (cs : Int32) (fm : Value) (h0 : Heap) (n0 : Nat) (v : Option Value) (h : Heap) (L : List Loc) : Prop := v = some (.int ch) ∧ Fr n0 L ∧ h = h0
set_option maxRecDepth 65536 in
set_option maxHeartbeats 40000000 in
theorem rm22 (l : Launch) (Z : State) (a0 : Array Value) (hw : ∀ d ∈ tables_1, d.before a0 Z = true) (ws : List Jvm.Cond) (x0 : Addr) (x1 : Int32) (bv : Addr) (kv : ClassId) (n : Int32) (vs : List Value) (w : Int32) (ch : Int32) (cs : Int32) (fm : Value) (h0 : Heap) (n0 : Nat) (Z0 : n0 ≤ h0.size) (O0 : Old Z n0 h0) (p_0 : Exa Z h0 x0 "java/lang/String") (p_1 : Fld Z h0 x0 "java/lang/String" "coder" "B" (.int (0 : Int32))) (p_2 : Fld Z h0 x0 "java/lang/String" "value" "[B" (.ref bv)) (p_3 : Arv Z h0 bv kv .byte n vs (.int (0 : Int32))) (p_4 : ¬ x1 < (0 : Int32)) (p_5 : x1 < n) (p_6 : vs.getD x1.toNatClampNeg (.int (0 : Int32)) = .int w) (p_7 : nar .char ((w &&& (255 : Int32)).toUInt32.toUInt16.toUInt32.toInt32) = ch) (p_8 : nar .char ch = ch) (p_9 : Sta Z Z.heap "java/lang/String" "COMPACT_STRINGS" "Z" (.int cs)) (p_10 : ¬ cs = (0 : Int32)) (p_11 : Sta Z Z.heap "jdk/internal/util/Preconditions" "SIOOBE_FORMATTER" "Ljava/util/function/BiFunction;" fm) (p_12 : fm.isRef = true) :
    MetFree l (⟨"java/lang/String", "charAt", "(I)C"⟩ : MethodName) (head1 (Jvm.Cond.code (⟨"java/lang/String", "charAt", "(I)C"⟩ : MethodName) jdk_42_method_56_code 2 (some .char) :: ws) ({ frames := 3, cells := 0, slots := 0, locals := 40 } : Room)) (fun a U => a = #[(.ref x0), (.int x1)] ∧ Z.Warmed39 U.vm ∧ U.heap = h0) (fun _ _ _ _ _ => True) (fun _ U o U' => ∃ v L, o = .returned v ∧ Q_rm22 Z x0 x1 bv kv n vs w ch cs fm h0 n0 v U'.heap L ∧ FrameEnd U o U' L ({ frames := 3, cells := 0, slots := 0, locals := 40 } : Room).cells ({ frames := 3, cells := 0, slots := 0, locals := 40 } : Room).slots) := by
  refine MetFree.of_bodySF (plainFor_of_name pn_4) hisR ?_
  intro p e s m args below meth c s₁ Bd hml0 hP hK
  obtain ⟨rfl, hZ, hh⟩ := hP
  have hx := Bd.exec
  have hby := Bd.bytes
  have hml : c.maxLocals = 2 := hml0
  have hown : s.vm.findClass "java/lang/String" = some m.cls := findClass_of_methodNamed Bd.named
  have hnm := (name_of_methodNamed Bd.named Bd.method).1
  have X0 : Stand p l e ({ frames := 3, cells := 0, slots := 0, locals := 40 } : Room) s m #[(.ref x0), (.int x1)] below meth c s₁ [] 0 0 := Stand.of_body Bd
  have e0 : s₁.heap = h0 := by rw [← hh, Bd.state]; rfl
  have N0 := Fr.nil n0
  show own_Ends p e below s ({ frames := 3, cells := 0, slots := 0, locals := 40 } : Room).cells ({ frames := 3, cells := 0, slots := 0, locals := 40 } : Room).slots (Q_rm22 Z x0 x1 bv kv n vs w ch cs fm h0 n0) (s₁.setTop (entryFrame m #[(.ref x0), (.int x1)] 2))
  rw [ef_22_RI]
  refine own_step (st' := s₁.setTop (mkF m 1 #[.val (.ref x0), .val (.int x1)] [(.ref x0)])) (fun t k => XS.aloadN X0.here hx rfl (hb hby d22_0) rfl rfl k) ?_
  obtain ⟨cq1, kq1, q1a, q1b, q1c⟩ := isOf hZ e0 p_0
  obtain ⟨_, _, ⟨T1, L1, k1, n1⟩, -, X1, ⟨Lc1, hQ1, l1, y1, z1⟩, st1⟩ := X0.virtualBack hx (y := (⟨"java/lang/String", "isLatin1", "()Z"⟩ : MethodName)) (z := (⟨"java/lang/String", "isLatin1", "()Z"⟩ : MethodName)) hown (mvT hZ (own_h hw 81 rfl)) (mvT hZ (own_h hw 82 rfl)) (notFace_of_selects (args := #[]) (mvT hZ (own_h hw 84 rfl))) (mvT hZ (own_h hw 84 rfl)) (mvT hZ (own_h hw 83 rfl)) (by decide) (backOf (W := 0) (rm14 l Z a0 hw [] x0 cs h0 n0 Z0 O0 p_1 p_9 p_10) hZ (own_h hw 85 rfl) (own_h hw 3 rfl) (by decide) (by decide)) q1a q1c (g := (mkF m 1 #[.val (.ref x0), .val (.int x1)] [(.ref x0)])) rfl (by rw [hml]; rfl) (Steps.refl _) (argsL := []) (rest := []) (lenOf pd_13 rfl) rfl (by show 2 * 0 + _ ≤ _; exact Nat.le_of_eq rfl) (hb hby d22_1) (fun _ _ => ⟨rfl, e0, (by decide : 0 + 0 ≤ _), (by decide : 0 + 0 ≤ _)⟩)
  dsimp only [Pt.U, Pt.locs, Pt.cells, Pt.slots] at X1 l1 y1 z1 st1 hQ1
  subst y1 z1
  obtain ⟨rfl, N1q, e1⟩ := hQ1
  have N1 := Fr.app N0 N1q
  rw [← l1] at N1
  clear l1
  refine own_step (st' := T1.setTop (mkF m 4 #[.val (.ref x0), .val (.int x1)] [(.int (1 : Int32))])) (fun t k => st1.trans k) ?_
  refine own_step (st' := T1.setTop (mkF m 7 #[.val (.ref x0), .val (.int x1)] [])) (fun t k => XS.ifNo X1.here hx rfl (hb hby d22_4) rfl ((if0 _ _).trans (feq (by decide)).1) k) ?_
  refine own_step (st' := T1.setTop (mkF m 8 #[.val (.ref x0), .val (.int x1)] [(.ref x0)])) (fun t k => XS.aloadN X1.here hx rfl (hb hby d22_7) rfl rfl k) ?_
  obtain ⟨T2, X2, e2, st2⟩ := getF X1 hx hZ hown (host := "") (Or.inl (own_h hw 28 rfl)) Via.refl e1 p_2 (g := (mkF m 8 #[.val (.ref x0), .val (.int x1)] [(.ref x0)])) rfl rfl (hb hby d22_8)
  refine own_step (st' := T2.setTop (mkF m 11 #[.val (.ref x0), .val (.int x1)] [(.ref bv)])) st2 ?_
  refine own_step (st' := T2.setTop (mkF m 12 #[.val (.ref x0), .val (.int x1)] [(.int x1), (.ref bv)])) (fun t k => XS.iloadN X2.here hx rfl (hb hby d22_11) rfl k) ?_
  obtain ⟨_, _, ⟨T3, L3, k3, n3⟩, -, X3, ⟨Lc3, hQ3, l3, y3, z3⟩, st3⟩ := Jvm.LawKit.callS X2 hx (y := (⟨"java/lang/StringLatin1", "charAt", "([BI)C"⟩ : MethodName)) hown (mvT hZ (own_h hw 125 rfl)) (mvT hZ (own_h hw 126 rfl)) (mvT hZ (own_h hw 88 rfl)) (mvT hZ (own_h hw 127 rfl)) (by decide) (backOf (W := 0) (rm23 l Z a0 hw [] bv x1 kv n vs w ch fm h0 n0 Z0 O0 p_3 p_4 p_5 p_6 p_7 p_11 p_12) hZ (own_h hw 127 rfl) (own_h hw 88 rfl) (by decide) (by decide)) (g := (mkF m 12 #[.val (.ref x0), .val (.int x1)] [(.int x1), (.ref bv)])) rfl (by rw [hml]; rfl) (argsL := [(.ref bv), (.int x1)]) (rest := []) (lenOf pd_22 rfl) rfl (by show 2 * 0 + _ ≤ _; exact Nat.le_of_eq rfl) (hb hby d22_12) (fun _ _ => ⟨rfl, e2, (by decide : 0 + 0 ≤ _), (by decide : 0 + 0 ≤ _)⟩)
  dsimp only [Pt.U, Pt.locs, Pt.cells, Pt.slots] at X3 l3 y3 z3 st3 hQ3
  subst y3 z3
  obtain ⟨rfl, N3q, e3⟩ := hQ3
  have N3 := Fr.app N1 N3q
  rw [← l3] at N3
  clear l3
  refine own_step (st' := T3.setTop (mkF m 15 #[.val (.ref x0), .val (.int x1)] [(.int ch)])) st3 ?_
  refine own_ret X3 Bd.notSynchronized (some (.int (nar .char ch))) (fun h => by rw [Bd.returns] at h; cases h) (fun fs hr => retN X3 hx (t := .char) Bd.returns (by simp) (hb hby d22_15) hr) ?_ (by decide) (by decide)
  rw [e3]
  exact ⟨(congrArg (fun z => some (Value.int z)) p_8), N3, rfl⟩
theorem d16_0 : decode method_3_code 0 = .ok (.iload_n 2, 1) := by decide +kernel
theorem d16_1 : decode method_3_code 1 = .ok (.iload 4, 2) := by decide +kernel
theorem d16_3 : decode method_3_code 3 = .ok (.iadd, 1) := by decide +kernel
theorem d16_4 : decode method_3_code 4 = .ok (.iload_n 3, 1) := by decide +kernel
theorem d16_5 : decode method_3_code 5 = .ok (.if_icmp .lt 5, 3) := by decide +kernel
theorem d16_8 : decode method_3_code 8 = .ok (.iconst 1, 1) := by decide +kernel
theorem d16_9 : decode method_3_code 9 = .ok (.ireturn, 1) := by decide +kernel
theorem pn_1 : plainName "com/example/lookahead/lookahead/runtime/TokenTextPinLaw" = true := by first | (simp [plainName, overriddenIn]; done) | decide +kernel
theorem ef_16_RRIII (m : MethodId) (x0 : Addr) (x1 : Addr) (x2 : Int32) (x3 : Int32) (x4 : Int32) : entryFrame m #[(.ref x0), (.ref x1), (.int x2), (.int x3), (.int x4)] 5 = mkF m 0 #[.val (.ref x0), .val (.ref x1), .val (.int x2), .val (.int x3), .val (.int x4)] [] := by first | (simp [entryFrame, mkF, argsToLocals, Value.category]; done) | rfl
def Q_rmK1 (Z : State) (x0 : Addr) (x1 : Addr) (x2 : Int32) (x3 : Int32) (x4 : Int32) (h0 : Heap) (n0 : Nat) (v : Option Value) (h : Heap) (L : List Loc) : Prop := v = some (.int (1 : Int32)) ∧ Fr n0 L ∧ h = h0
set_option maxRecDepth 65536 in
set_option maxHeartbeats 40000000 in
theorem rmK1 (l : Launch) (Z : State) (a0 : Array Value) (hw : ∀ d ∈ tables_1, d.before a0 Z = true) (ws : List Jvm.Cond) (x0 : Addr) (x1 : Addr) (x2 : Int32) (x3 : Int32) (x4 : Int32) (h0 : Heap) (n0 : Nat) (Z0 : n0 ≤ h0.size) (p_0 : ¬ (x2 + x4) < x3) :
    MetFree l (⟨"com/example/lookahead/lookahead/runtime/TokenTextPinLaw", "charOk", "(Ljava/lang/String;[CIII)Z"⟩ : MethodName) (head1 (Jvm.Cond.code (⟨"com/example/lookahead/lookahead/runtime/TokenTextPinLaw", "charOk", "(Ljava/lang/String;[CIII)Z"⟩ : MethodName) method_3_code 5 (some .boolean) :: ws) ({ frames := 0, cells := 0, slots := 0, locals := 0 } : Room)) (fun a U => a = #[(.ref x0), (.ref x1), (.int x2), (.int x3), (.int x4)] ∧ Z.Warmed39 U.vm ∧ U.heap = h0) (fun _ _ _ _ _ => True) (fun _ U o U' => ∃ v L, o = .returned v ∧ Q_rmK1 Z x0 x1 x2 x3 x4 h0 n0 v U'.heap L ∧ FrameEnd U o U' L ({ frames := 0, cells := 0, slots := 0, locals := 0 } : Room).cells ({ frames := 0, cells := 0, slots := 0, locals := 0 } : Room).slots) := by
  refine MetFree.of_bodySF (plainFor_of_name pn_1) hisR ?_
  intro p e s m args below meth c s₁ Bd hml0 hP hK
  obtain ⟨rfl, hZ, hh⟩ := hP
  have hx := Bd.exec
  have hby := Bd.bytes
  have hml : c.maxLocals = 5 := hml0
  have hown : s.vm.findClass "com/example/lookahead/lookahead/runtime/TokenTextPinLaw" = some m.cls := findClass_of_methodNamed Bd.named
  have hnm := (name_of_methodNamed Bd.named Bd.method).1
  have X0 : Stand p l e ({ frames := 0, cells := 0, slots := 0, locals := 0 } : Room) s m #[(.ref x0), (.ref x1), (.int x2), (.int x3), (.int x4)] below meth c s₁ [] 0 0 := Stand.of_body Bd
  have e0 : s₁.heap = h0 := by rw [← hh, Bd.state]; rfl
  have N0 := Fr.nil n0
  show own_Ends p e below s ({ frames := 0, cells := 0, slots := 0, locals := 0 } : Room).cells ({ frames := 0, cells := 0, slots := 0, locals := 0 } : Room).slots (Q_rmK1 Z x0 x1 x2 x3 x4 h0 n0) (s₁.setTop (entryFrame m #[(.ref x0), (.ref x1), (.int x2), (.int x3), (.int x4)] 5))
  rw [ef_16_RRIII]
  refine own_step (st' := s₁.setTop (mkF m 1 #[.val (.ref x0), .val (.ref x1), .val (.int x2), .val (.int x3), .val (.int x4)] [(.int x2)])) (fun t k => XS.iloadN X0.here hx rfl (hb hby d16_0) rfl k) ?_
  refine own_step (st' := s₁.setTop (mkF m 3 #[.val (.ref x0), .val (.ref x1), .val (.int x2), .val (.int x3), .val (.int x4)] [(.int x4), (.int x2)])) (fun t k => XS.iload X0.here hx rfl (hb hby d16_1) rfl k) ?_
  refine own_step (st' := s₁.setTop (mkF m 4 #[.val (.ref x0), .val (.ref x1), .val (.int x2), .val (.int x3), .val (.int x4)] [(.int (x2 + x4))])) (fun t k => XS.iadd X0.here hx rfl (hb hby d16_3) rfl k) ?_
  refine own_step (st' := s₁.setTop (mkF m 5 #[.val (.ref x0), .val (.ref x1), .val (.int x2), .val (.int x3), .val (.int x4)] [(.int x3), (.int (x2 + x4))])) (fun t k => XS.iloadN X0.here hx rfl (hb hby d16_4) rfl k) ?_
  refine own_step (st' := s₁.setTop (mkF m 8 #[.val (.ref x0), .val (.ref x1), .val (.int x2), .val (.int x3), .val (.int x4)] [])) (fun t k => XS.icmpNo X0.here hx rfl (hb hby d16_5) rfl (flt p_0).1 k) ?_
  refine own_step (st' := s₁.setTop (mkF m 9 #[.val (.ref x0), .val (.ref x1), .val (.int x2), .val (.int x3), .val (.int x4)] [(.int (1 : Int32))])) (fun t k => XS.iconst X0.here hx rfl (hb hby d16_8) k) ?_
  refine own_ret X0 Bd.notSynchronized (some (.int (1 : Int32))) (fun h => by rw [Bd.returns] at h; cases h) (fun fs hr => retN X0 hx (t := .boolean) Bd.returns (by simp) (hb hby d16_9) hr) ?_ (by decide) (by decide)
  rw [e0]
  exact ⟨rfl, N0, rfl⟩
theorem d16_10 : decode method_3_code 10 = .ok (.aload_n 0, 1) := by decide +kernel
theorem d16_11 : decode method_3_code 11 = .ok (.iload 4, 2) := by decide +kernel
theorem d16_13 : decode method_3_code 13 = .ok (.invokevirtual 38, 3) := by decide +kernel
theorem d16_16 : decode method_3_code 16 = .ok (.aload_n 1, 1) := by decide +kernel
theorem d16_17 : decode method_3_code 17 = .ok (.iload_n 2, 1) := by decide +kernel
theorem d16_18 : decode method_3_code 18 = .ok (.iload 4, 2) := by decide +kernel
theorem d16_20 : decode method_3_code 20 = .ok (.iadd, 1) := by decide +kernel
theorem d16_21 : decode method_3_code 21 = .ok (.caload, 1) := by decide +kernel
theorem d16_22 : decode method_3_code 22 = .ok (.if_icmp .ne 7, 3) := by decide +kernel
theorem d16_25 : decode method_3_code 25 = .ok (.iconst 1, 1) := by decide +kernel
theorem d16_26 : decode method_3_code 26 = .ok (.goto 4, 3) := by decide +kernel
theorem d16_30 : decode method_3_code 30 = .ok (.ireturn, 1) := by decide +kernel
def Q_rmK2 (Z : State) (x0 : Addr) (x1 : Addr) (x2 : Int32) (x3 : Int32) (x4 : Int32) (bv : Addr) (kv : ClassId) (n : Int32) (vs : List Value) (kc : ClassId) (vc : List Value) (w : Int32) (ch : Int32) (cs : Int32) (fm : Value) (h0 : Heap) (n0 : Nat) (v : Option Value) (h : Heap) (L : List Loc) : Prop := v = some (.int (1 : Int32)) ∧ Fr n0 L ∧ h = h0
set_option maxRecDepth 65536 in
set_option maxHeartbeats 40000000 in
theorem rmK2 (l : Launch) (Z : State) (a0 : Array Value) (hw : ∀ d ∈ tables_1, d.before a0 Z = true) (ws : List Jvm.Cond) (x0 : Addr) (x1 : Addr) (x2 : Int32) (x3 : Int32) (x4 : Int32) (bv : Addr) (kv : ClassId) (n : Int32) (vs : List Value) (kc : ClassId) (vc : List Value) (w : Int32) (ch : Int32) (cs : Int32) (fm : Value) (h0 : Heap) (n0 : Nat) (Z0 : n0 ≤ h0.size) (O0 : Old Z n0 h0) (p_0 : Exa Z h0 x0 "java/lang/String") (p_1 : Fld Z h0 x0 "java/lang/String" "coder" "B" (.int (0 : Int32))) (p_2 : Fld Z h0 x0 "java/lang/String" "value" "[B" (.ref bv)) (p_3 : Arv Z h0 bv kv .byte n vs (.int (0 : Int32))) (p_4 : Arv Z h0 x1 kc .char (4 : Int32) vc (.int (0 : Int32))) (p_5 : (x2 + x4) < x3) (p_6 : ¬ x4 < (0 : Int32)) (p_7 : x4 < n) (p_8 : vs.getD x4.toNatClampNeg (.int (0 : Int32)) = .int w) (p_9 : nar .char ((w &&& (255 : Int32)).toUInt32.toUInt16.toUInt32.toInt32) = ch) (p_10 : nar .char ch = ch) (p_11 : ¬ (x2 + x4) < 0 ∧ (x2 + x4) < (4 : Int32)) (p_12 : vc.getD (x2 + x4).toNatClampNeg (.int (0 : Int32)) = .int ch) (p_13 : Sta Z Z.heap "java/lang/String" "COMPACT_STRINGS" "Z" (.int cs)) (p_14 : ¬ cs = (0 : Int32)) (p_15 : Sta Z Z.heap "jdk/internal/util/Preconditions" "SIOOBE_FORMATTER" "Ljava/util/function/BiFunction;" fm) (p_16 : fm.isRef = true) :
    MetFree l (⟨"com/example/lookahead/lookahead/runtime/TokenTextPinLaw", "charOk", "(Ljava/lang/String;[CIII)Z"⟩ : MethodName) (head1 (Jvm.Cond.code (⟨"com/example/lookahead/lookahead/runtime/TokenTextPinLaw", "charOk", "(Ljava/lang/String;[CIII)Z"⟩ : MethodName) method_3_code 5 (some .boolean) :: ws) ({ frames := 4, cells := 0, slots := 0, locals := 53 } : Room)) (fun a U => a = #[(.ref x0), (.ref x1), (.int x2), (.int x3), (.int x4)] ∧ Z.Warmed39 U.vm ∧ U.heap = h0) (fun _ _ _ _ _ => True) (fun _ U o U' => ∃ v L, o = .returned v ∧ Q_rmK2 Z x0 x1 x2 x3 x4 bv kv n vs kc vc w ch cs fm h0 n0 v U'.heap L ∧ FrameEnd U o U' L ({ frames := 4, cells := 0, slots := 0, locals := 53 } : Room).cells ({ frames := 4, cells := 0, slots := 0, locals := 53 } : Room).slots) := by
  refine MetFree.of_bodySF (plainFor_of_name pn_1) hisR ?_
  intro p e s m args below meth c s₁ Bd hml0 hP hK
  obtain ⟨rfl, hZ, hh⟩ := hP
  have hx := Bd.exec
  have hby := Bd.bytes
  have hml : c.maxLocals = 5 := hml0
  have hown : s.vm.findClass "com/example/lookahead/lookahead/runtime/TokenTextPinLaw" = some m.cls := findClass_of_methodNamed Bd.named
  have hnm := (name_of_methodNamed Bd.named Bd.method).1
  have X0 : Stand p l e ({ frames := 4, cells := 0, slots := 0, locals := 53 } : Room) s m #[(.ref x0), (.ref x1), (.int x2), (.int x3), (.int x4)] below meth c s₁ [] 0 0 := Stand.of_body Bd
  have e0 : s₁.heap = h0 := by rw [← hh, Bd.state]; rfl
  have N0 := Fr.nil n0
  show own_Ends p e below s ({ frames := 4, cells := 0, slots := 0, locals := 53 } : Room).cells ({ frames := 4, cells := 0, slots := 0, locals := 53 } : Room).slots (Q_rmK2 Z x0 x1 x2 x3 x4 bv kv n vs kc vc w ch cs fm h0 n0) (s₁.setTop (entryFrame m #[(.ref x0), (.ref x1), (.int x2), (.int x3), (.int x4)] 5))
  rw [ef_16_RRIII]
  refine own_step (st' := s₁.setTop (mkF m 1 #[.val (.ref x0), .val (.ref x1), .val (.int x2), .val (.int x3), .val (.int x4)] [(.int x2)])) (fun t k => XS.iloadN X0.here hx rfl (hb hby d16_0) rfl k) ?_
  refine own_step (st' := s₁.setTop (mkF m 3 #[.val (.ref x0), .val (.ref x1), .val (.int x2), .val (.int x3), .val (.int x4)] [(.int x4), (.int x2)])) (fun t k => XS.iload X0.here hx rfl (hb hby d16_1) rfl k) ?_
  refine own_step (st' := s₁.setTop (mkF m 4 #[.val (.ref x0), .val (.ref x1), .val (.int x2), .val (.int x3), .val (.int x4)] [(.int (x2 + x4))])) (fun t k => XS.iadd X0.here hx rfl (hb hby d16_3) rfl k) ?_
  refine own_step (st' := s₁.setTop (mkF m 5 #[.val (.ref x0), .val (.ref x1), .val (.int x2), .val (.int x3), .val (.int x4)] [(.int x3), (.int (x2 + x4))])) (fun t k => XS.iloadN X0.here hx rfl (hb hby d16_4) rfl k) ?_
  refine own_step (st' := s₁.setTop (mkF m 10 #[.val (.ref x0), .val (.ref x1), .val (.int x2), .val (.int x3), .val (.int x4)] [])) (fun t k => XS.icmpYes X0.here hx rfl (pc0 := 5) (pc' := 10) rfl (hb hby d16_5) rfl (tlt p_5).1 (by decide) (by decide) k) ?_
  refine own_step (st' := s₁.setTop (mkF m 11 #[.val (.ref x0), .val (.ref x1), .val (.int x2), .val (.int x3), .val (.int x4)] [(.ref x0)])) (fun t k => XS.aloadN X0.here hx rfl (hb hby d16_10) rfl rfl k) ?_
  refine own_step (st' := s₁.setTop (mkF m 13 #[.val (.ref x0), .val (.ref x1), .val (.int x2), .val (.int x3), .val (.int x4)] [(.int x4), (.ref x0)])) (fun t k => XS.iload X0.here hx rfl (hb hby d16_11) rfl k) ?_
  obtain ⟨cq1, kq1, q1a, q1b, q1c⟩ := isOf hZ e0 p_0
  obtain ⟨_, _, ⟨T1, L1, k1, n1⟩, -, X1, ⟨Lc1, hQ1, l1, y1, z1⟩, st1⟩ := X0.virtualBack hx (y := (⟨"java/lang/String", "charAt", "(I)C"⟩ : MethodName)) (z := (⟨"java/lang/String", "charAt", "(I)C"⟩ : MethodName)) hown (mvT hZ (own_h hw 120 rfl)) (mvT hZ (own_h hw 121 rfl)) (notFace_of_selects (args := #[]) (mvT hZ (own_h hw 123 rfl))) (mvT hZ (own_h hw 123 rfl)) (mvT hZ (own_h hw 122 rfl)) (by decide) (backOf (W := 0) (rm22 l Z a0 hw [] x0 x4 bv kv n vs w ch cs fm h0 n0 Z0 O0 p_0 p_1 p_2 p_3 p_6 p_7 p_8 p_9 p_10 p_13 p_14 p_15 p_16) hZ (own_h hw 124 rfl) (own_h hw 3 rfl) (by decide) (by decide)) q1a q1c (g := (mkF m 13 #[.val (.ref x0), .val (.ref x1), .val (.int x2), .val (.int x3), .val (.int x4)] [(.int x4), (.ref x0)])) rfl (by rw [hml]; rfl) (Steps.refl _) (argsL := [(.int x4)]) (rest := []) (lenOf pd_21 rfl) rfl (by show 2 * 0 + _ ≤ _; exact Nat.le_of_eq rfl) (hb hby d16_13) (fun _ _ => ⟨rfl, e0, (by decide : 0 + 0 ≤ _), (by decide : 0 + 0 ≤ _)⟩)
  dsimp only [Pt.U, Pt.locs, Pt.cells, Pt.slots] at X1 l1 y1 z1 st1 hQ1
  subst y1 z1
  obtain ⟨rfl, N1q, e1⟩ := hQ1
  have N1 := Fr.app N0 N1q
  rw [← l1] at N1
  clear l1
  refine own_step (st' := T1.setTop (mkF m 16 #[.val (.ref x0), .val (.ref x1), .val (.int x2), .val (.int x3), .val (.int x4)] [(.int ch)])) (fun t k => st1.trans k) ?_
  refine own_step (st' := T1.setTop (mkF m 17 #[.val (.ref x0), .val (.ref x1), .val (.int x2), .val (.int x3), .val (.int x4)] [(.ref x1), (.int ch)])) (fun t k => XS.aloadN X1.here hx rfl (hb hby d16_16) rfl rfl k) ?_
  refine own_step (st' := T1.setTop (mkF m 18 #[.val (.ref x0), .val (.ref x1), .val (.int x2), .val (.int x3), .val (.int x4)] [(.int x2), (.ref x1), (.int ch)])) (fun t k => XS.iloadN X1.here hx rfl (hb hby d16_17) rfl k) ?_
  refine own_step (st' := T1.setTop (mkF m 20 #[.val (.ref x0), .val (.ref x1), .val (.int x2), .val (.int x3), .val (.int x4)] [(.int x4), (.int x2), (.ref x1), (.int ch)])) (fun t k => XS.iload X1.here hx rfl (hb hby d16_18) rfl k) ?_
  refine own_step (st' := T1.setTop (mkF m 21 #[.val (.ref x0), .val (.ref x1), .val (.int x2), .val (.int x3), .val (.int x4)] [(.int (x2 + x4)), (.ref x1), (.int ch)])) (fun t k => XS.iadd X1.here hx rfl (hb hby d16_20) rfl k) ?_
  refine own_step (st' := T1.setTop (mkF m 22 #[.val (.ref x0), .val (.ref x1), .val (.int x2), .val (.int x3), .val (.int x4)] [(.int ch), (.int ch)])) (fun t k => own_ldC X1 hx hZ e1 p_4 (j := (x2 + x4)) (v := (.int ch)) p_11 p_12 (g := (mkF m 21 #[.val (.ref x0), .val (.ref x1), .val (.int x2), .val (.int x3), .val (.int x4)] [(.int (x2 + x4)), (.ref x1), (.int ch)])) rfl rfl (hb hby d16_21) t k) ?_
  refine own_step (st' := T1.setTop (mkF m 25 #[.val (.ref x0), .val (.ref x1), .val (.int x2), .val (.int x3), .val (.int x4)] [])) (fun t k => XS.icmpNo X1.here hx rfl (hb hby d16_22) rfl (teq rfl).2 k) ?_
  refine own_step (st' := T1.setTop (mkF m 26 #[.val (.ref x0), .val (.ref x1), .val (.int x2), .val (.int x3), .val (.int x4)] [(.int (1 : Int32))])) (fun t k => XS.iconst X1.here hx rfl (hb hby d16_25) k) ?_
  refine own_step (st' := T1.setTop (mkF m 30 #[.val (.ref x0), .val (.ref x1), .val (.int x2), .val (.int x3), .val (.int x4)] [(.int (1 : Int32))])) (fun t k => XS.goto X1.here hx rfl (pc0 := 26) (pc' := 30) rfl (hb hby d16_26) (by decide) (by decide) k) ?_
  refine own_ret X1 Bd.notSynchronized (some (.int (1 : Int32))) (fun h => by rw [Bd.returns] at h; cases h) (fun fs hr => retN X1 hx (t := .boolean) Bd.returns (by simp) (hb hby d16_30) hr) ?_ (by decide) (by decide)
  rw [e1]
  exact ⟨rfl, N1, rfl⟩
theorem d20_0 : decode jdk_29_method_69_code 0 = .ok (.iload_n 0, 1) := by decide +kernel
theorem d20_1 : decode jdk_29_method_69_code 1 = .ok (.iload_n 1, 1) := by decide +kernel
theorem d20_2 : decode jdk_29_method_69_code 2 = .ok (.if_icmp .gt 7, 3) := by decide +kernel
theorem d20_5 : decode jdk_29_method_69_code 5 = .ok (.iload_n 0, 1) := by decide +kernel
theorem d20_6 : decode jdk_29_method_69_code 6 = .ok (.goto 4, 3) := by decide +kernel
theorem d20_9 : decode jdk_29_method_69_code 9 = .ok (.iload_n 1, 1) := by decide +kernel
theorem d20_10 : decode jdk_29_method_69_code 10 = .ok (.ireturn, 1) := by decide +kernel
theorem ef_20_II (m : MethodId) (x0 : Int32) (x1 : Int32) : entryFrame m #[(.int x0), (.int x1)] 2 = mkF m 0 #[.val (.int x0), .val (.int x1)] [] := by first | (simp [entryFrame, mkF, argsToLocals, Value.category]; done) | rfl
def Q_rm20 (Z : State) (x0 : Int32) (x1 : Int32) (h0 : Heap) (n0 : Nat) (v : Option Value) (h : Heap) (L : List Loc) : Prop := v = some (.int (if x1 < x0 then x1 else x0)) ∧ Fr n0 L ∧ h = h0
set_option maxRecDepth 65536 in
set_option maxHeartbeats 40000000 in
theorem rm20 (l : Launch) (Z : State) (a0 : Array Value) (hw : ∀ d ∈ tables_1, d.before a0 Z = true) (ws : List Jvm.Cond) (x0 : Int32) (x1 : Int32) (h0 : Heap) (n0 : Nat) (Z0 : n0 ≤ h0.size) :
    MetFree l (⟨"java/lang/Math", "min", "(II)I"⟩ : MethodName) (head1 (Jvm.Cond.code (⟨"java/lang/Math", "min", "(II)I"⟩ : MethodName) jdk_29_method_69_code 2 (some .int) :: ws) ({ frames := 0, cells := 0, slots := 0, locals := 0 } : Room)) (fun a U => a = #[(.int x0), (.int x1)] ∧ Z.Warmed39 U.vm ∧ U.heap = h0) (fun _ _ _ _ _ => True) (fun _ U o U' => ∃ v L, o = .returned v ∧ Q_rm20 Z x0 x1 h0 n0 v U'.heap L ∧ FrameEnd U o U' L ({ frames := 0, cells := 0, slots := 0, locals := 0 } : Room).cells ({ frames := 0, cells := 0, slots := 0, locals := 0 } : Room).slots) := by
  refine MetFree.of_bodySF (Jvm.Free.JP.mathPlain rfl (by decide +kernel)) hisR ?_
  intro p e s m args below meth c s₁ Bd hml0 hP hK
  obtain ⟨rfl, hZ, hh⟩ := hP
  have hx := Bd.exec
  have hby := Bd.bytes
  have hml : c.maxLocals = 2 := hml0
  have hown : s.vm.findClass "java/lang/Math" = some m.cls := findClass_of_methodNamed Bd.named
  have hnm := (name_of_methodNamed Bd.named Bd.method).1
  have X0 : Stand p l e ({ frames := 0, cells := 0, slots := 0, locals := 0 } : Room) s m #[(.int x0), (.int x1)] below meth c s₁ [] 0 0 := Stand.of_body Bd
  have e0 : s₁.heap = h0 := by rw [← hh, Bd.state]; rfl
  have N0 := Fr.nil n0
  show own_Ends p e below s ({ frames := 0, cells := 0, slots := 0, locals := 0 } : Room).cells ({ frames := 0, cells := 0, slots := 0, locals := 0 } : Room).slots (Q_rm20 Z x0 x1 h0 n0) (s₁.setTop (entryFrame m #[(.int x0), (.int x1)] 2))
  rw [ef_20_II]
  refine own_step (st' := s₁.setTop (mkF m 1 #[.val (.int x0), .val (.int x1)] [(.int x0)])) (fun t k => XS.iloadN X0.here hx rfl (hb hby d20_0) rfl k) ?_
  refine own_step (st' := s₁.setTop (mkF m 2 #[.val (.int x0), .val (.int x1)] [(.int x1), (.int x0)])) (fun t k => XS.iloadN X0.here hx rfl (hb hby d20_1) rfl k) ?_
  refine own_step (st' := s₁.setTop (mkF m 10 #[.val (.int x0), .val (.int x1)] [(.int (if x1 < x0 then x1 else x0))])) (fun t k => ?_) ?_
  · by_cases hc1 : x1 < x0
    · refine XS.icmpYes X0.here hx rfl (pc0 := 2) (pc' := 9) rfl (hb hby d20_2) rfl (tlt hc1).2.2.1 (by decide) (by decide) (?_ : Steps p.tables e below (s₁.setTop (mkF m 9 #[.val (.int x0), .val (.int x1)] [])) _)
      refine XS.iloadN X0.here hx rfl (hb hby d20_9) rfl (?_ : Steps p.tables e below (s₁.setTop (mkF m 10 #[.val (.int x0), .val (.int x1)] [(.int x1)])) _)
      simpa only [if_pos hc1] using k
    · refine XS.icmpNo X0.here hx rfl (hb hby d20_2) rfl (flt hc1).2.2.1 (?_ : Steps p.tables e below (s₁.setTop (mkF m 5 #[.val (.int x0), .val (.int x1)] [])) _)
      refine XS.iloadN X0.here hx rfl (hb hby d20_5) rfl (?_ : Steps p.tables e below (s₁.setTop (mkF m 6 #[.val (.int x0), .val (.int x1)] [(.int x0)])) _)
      refine XS.goto X0.here hx rfl (pc0 := 6) (pc' := 10) rfl (hb hby d20_6) (by decide) (by decide) (?_ : Steps p.tables e below (s₁.setTop (mkF m 10 #[.val (.int x0), .val (.int x1)] [(.int x0)])) _)
      simpa only [if_neg hc1] using k
  refine own_ret X0 Bd.notSynchronized (some (.int (if x1 < x0 then x1 else x0))) (fun h => by rw [Bd.returns] at h; cases h) (fun fs hr => own_retI X0 hx Bd.returns (hb hby d20_10) hr) ?_ (by decide) (by decide)
  rw [e0]
  exact ⟨rfl, N0, rfl⟩
theorem d19_0 : decode jdk_65_method_131_code 0 = .ok (.iload_n 1, 1) := by decide +kernel
theorem d19_1 : decode jdk_65_method_131_code 1 = .ok (.iload_n 0, 1) := by decide +kernel
theorem d19_2 : decode jdk_65_method_131_code 2 = .ok (.if_icmp .ge 35, 3) := by decide +kernel
theorem d19_37 : decode jdk_65_method_131_code 37 = .ok (.return_, 1) := by decide +kernel
theorem pn_7 : plainName "java/util/Arrays" = true := by first | (simp [plainName, overriddenIn]; done) | decide +kernel
theorem ef_19_II (m : MethodId) (x0 : Int32) (x1 : Int32) : entryFrame m #[(.int x0), (.int x1)] 2 = mkF m 0 #[.val (.int x0), .val (.int x1)] [] := by first | (simp [entryFrame, mkF, argsToLocals, Value.category]; done) | rfl
def Q_rm19 (Z : State) (x0 : Int32) (x1 : Int32) (h0 : Heap) (n0 : Nat) (v : Option Value) (h : Heap) (L : List Loc) : Prop := v = none ∧ Fr n0 L ∧ h = h0
set_option maxRecDepth 65536 in
set_option maxHeartbeats 40000000 in
theorem rm19 (l : Launch) (Z : State) (a0 : Array Value) (hw : ∀ d ∈ tables_1, d.before a0 Z = true) (ws : List Jvm.Cond) (x0 : Int32) (x1 : Int32) (h0 : Heap) (n0 : Nat) (Z0 : n0 ≤ h0.size) (p_0 : ¬ x1 < x0) :
    MetFree l (⟨"java/util/Arrays", "checkLength", "(II)V"⟩ : MethodName) (head1 (Jvm.Cond.code (⟨"java/util/Arrays", "checkLength", "(II)V"⟩ : MethodName) jdk_65_method_131_code 2 none :: ws) ({ frames := 0, cells := 0, slots := 0, locals := 0 } : Room)) (fun a U => a = #[(.int x0), (.int x1)] ∧ Z.Warmed39 U.vm ∧ U.heap = h0) (fun _ _ _ _ _ => True) (fun _ U o U' => ∃ v L, o = .returned v ∧ Q_rm19 Z x0 x1 h0 n0 v U'.heap L ∧ FrameEnd U o U' L ({ frames := 0, cells := 0, slots := 0, locals := 0 } : Room).cells ({ frames := 0, cells := 0, slots := 0, locals := 0 } : Room).slots) := by
  refine MetFree.of_bodySF (plainFor_of_name pn_7) hisR ?_
  intro p e s m args below meth c s₁ Bd hml0 hP hK
  obtain ⟨rfl, hZ, hh⟩ := hP
  have hx := Bd.exec
  have hby := Bd.bytes
  have hml : c.maxLocals = 2 := hml0
  have hown : s.vm.findClass "java/util/Arrays" = some m.cls := findClass_of_methodNamed Bd.named
  have hnm := (name_of_methodNamed Bd.named Bd.method).1
  have X0 : Stand p l e ({ frames := 0, cells := 0, slots := 0, locals := 0 } : Room) s m #[(.int x0), (.int x1)] below meth c s₁ [] 0 0 := Stand.of_body Bd
  have e0 : s₁.heap = h0 := by rw [← hh, Bd.state]; rfl
  have N0 := Fr.nil n0
  show own_Ends p e below s ({ frames := 0, cells := 0, slots := 0, locals := 0 } : Room).cells ({ frames := 0, cells := 0, slots := 0, locals := 0 } : Room).slots (Q_rm19 Z x0 x1 h0 n0) (s₁.setTop (entryFrame m #[(.int x0), (.int x1)] 2))
  rw [ef_19_II]
  refine own_step (st' := s₁.setTop (mkF m 1 #[.val (.int x0), .val (.int x1)] [(.int x1)])) (fun t k => XS.iloadN X0.here hx rfl (hb hby d19_0) rfl k) ?_
  refine own_step (st' := s₁.setTop (mkF m 2 #[.val (.int x0), .val (.int x1)] [(.int x0), (.int x1)])) (fun t k => XS.iloadN X0.here hx rfl (hb hby d19_1) rfl k) ?_
  refine own_step (st' := s₁.setTop (mkF m 37 #[.val (.int x0), .val (.int x1)] [])) (fun t k => XS.icmpYes X0.here hx rfl (pc0 := 2) (pc' := 37) rfl (hb hby d19_2) rfl (flt p_0).2.1 (by decide) (by decide) k) ?_
  refine own_ret X0 Bd.notSynchronized (none) (fun _ => rfl) (fun fs hr => X0.returnOut hx Bd.returns (hb hby d19_37) hr) ?_ (by decide) (by decide)
  rw [e0]
  exact ⟨rfl, N0, rfl⟩
theorem d18_0 : decode jdk_65_method_133_code 0 = .ok (.iload_n 1, 1) := by decide +kernel
theorem d18_1 : decode jdk_65_method_133_code 1 = .ok (.iload_n 2, 1) := by decide +kernel
theorem d18_2 : decode jdk_65_method_133_code 2 = .ok (.invokestatic 343, 3) := by decide +kernel
theorem d18_5 : decode jdk_65_method_133_code 5 = .ok (.iload_n 2, 1) := by decide +kernel
theorem d18_6 : decode jdk_65_method_133_code 6 = .ok (.iload_n 1, 1) := by decide +kernel
theorem d18_7 : decode jdk_65_method_133_code 7 = .ok (.isub, 1) := by decide +kernel
theorem d18_8 : decode jdk_65_method_133_code 8 = .ok (.istore_n 3, 1) := by decide +kernel
theorem d18_9 : decode jdk_65_method_133_code 9 = .ok (.iload_n 3, 1) := by decide +kernel
theorem d18_10 : decode jdk_65_method_133_code 10 = .ok (.newarray .byte, 2) := by decide +kernel
theorem d18_12 : decode jdk_65_method_133_code 12 = .ok (.astore 4, 2) := by decide +kernel
theorem d18_14 : decode jdk_65_method_133_code 14 = .ok (.aload_n 0, 1) := by decide +kernel
theorem d18_15 : decode jdk_65_method_133_code 15 = .ok (.iload_n 1, 1) := by decide +kernel
theorem d18_16 : decode jdk_65_method_133_code 16 = .ok (.aload 4, 2) := by decide +kernel
theorem d18_18 : decode jdk_65_method_133_code 18 = .ok (.iconst 0, 1) := by decide +kernel
theorem d18_19 : decode jdk_65_method_133_code 19 = .ok (.aload_n 0, 1) := by decide +kernel
theorem d18_20 : decode jdk_65_method_133_code 20 = .ok (.arraylength, 1) := by decide +kernel
theorem d18_21 : decode jdk_65_method_133_code 21 = .ok (.iload_n 1, 1) := by decide +kernel
theorem d18_22 : decode jdk_65_method_133_code 22 = .ok (.isub, 1) := by decide +kernel
theorem d18_23 : decode jdk_65_method_133_code 23 = .ok (.iload_n 3, 1) := by decide +kernel
theorem d18_24 : decode jdk_65_method_133_code 24 = .ok (.invokestatic 304, 3) := by decide +kernel
theorem d18_27 : decode jdk_65_method_133_code 27 = .ok (.invokestatic 150, 3) := by decide +kernel
theorem d18_30 : decode jdk_65_method_133_code 30 = .ok (.aload 4, 2) := by decide +kernel
theorem d18_32 : decode jdk_65_method_133_code 32 = .ok (.areturn, 1) := by decide +kernel
theorem ef_18_RII (m : MethodId) (x0 : Addr) (x1 : Int32) (x2 : Int32) : entryFrame m #[(.ref x0), (.int x1), (.int x2)] 5 = mkF m 0 #[.val (.ref x0), .val (.int x1), .val (.int x2), .unset, .unset] [] := by first | (simp [entryFrame, mkF, argsToLocals, Value.category]; done) | rfl
def Q_rm18 (Z : State) (x0 : Addr) (x1 : Int32) (x2 : Int32) (k : ClassId) (n : Int32) (vs : List Value) (h0 : Heap) (n0 : Nat) (v : Option Value) (h : Heap) (L : List Loc) : Prop := ∃ b : Addr, ∃ kb : ClassId, ∃ vd : List Value, v = some (.ref b) ∧ Fr n0 L ∧ Keep h0 h [] ∧ h0.size ≤ b ∧ Arv Z h b kb .byte (x2 - x1) vd (.int (0 : Int32)) ∧ ∀ i : Nat, vd.getD i (.int (0 : Int32)) = if i < (x2 - x1).toNatClampNeg then vs.getD (x1.toNatClampNeg + i) (.int (0 : Int32)) else (.int (0 : Int32))
set_option maxRecDepth 65536 in
set_option maxHeartbeats 40000000 in
theorem rm18 (l : Launch) (Z : State) (a0 : Array Value) (hw : ∀ d ∈ tables_1, d.before a0 Z = true) (ws : List Jvm.Cond) (x0 : Addr) (x1 : Int32) (x2 : Int32) (k : ClassId) (n : Int32) (vs : List Value) (h0 : Heap) (n0 : Nat) (Z0 : n0 ≤ h0.size) (p_0 : Arv Z h0 x0 k .byte n vs (.int (0 : Int32))) (p_1 : 0 ≤ x1.toInt ∧ x1.toInt < x2.toInt ∧ x2.toInt ≤ n.toInt ∧ n.toInt ≤ 4) :
    MetFree l (⟨"java/util/Arrays", "copyOfRangeByte", "([BII)[B"⟩ : MethodName) (head1 (Jvm.Cond.code (⟨"java/util/Arrays", "copyOfRangeByte", "([BII)[B"⟩ : MethodName) jdk_65_method_133_code 5 (some (.array .byte)) :: ws) ({ frames := 1, cells := 1, slots := 4, locals := 18 } : Room)) (fun a U => a = #[(.ref x0), (.int x1), (.int x2)] ∧ Z.Warmed39 U.vm ∧ U.heap = h0) (fun _ _ _ _ _ => True) (fun _ U o U' => ∃ v L, o = .returned v ∧ Q_rm18 Z x0 x1 x2 k n vs h0 n0 v U'.heap L ∧ FrameEnd U o U' L ({ frames := 1, cells := 1, slots := 4, locals := 18 } : Room).cells ({ frames := 1, cells := 1, slots := 4, locals := 18 } : Room).slots) := by
  refine MetFree.of_bodySF (plainFor_of_name pn_7) hisR ?_
  intro p e s m args below meth c s₁ Bd hml0 hP hK
  obtain ⟨rfl, hZ, hh⟩ := hP
  have hx := Bd.exec
  have hby := Bd.bytes
  have hml : c.maxLocals = 5 := hml0
  have hown : s.vm.findClass "java/util/Arrays" = some m.cls := findClass_of_methodNamed Bd.named
  have hnm := (name_of_methodNamed Bd.named Bd.method).1
  have X0 : Stand p l e ({ frames := 1, cells := 1, slots := 4, locals := 18 } : Room) s m #[(.ref x0), (.int x1), (.int x2)] below meth c s₁ [] 0 0 := Stand.of_body Bd
  have e0 : s₁.heap = h0 := by rw [← hh, Bd.state]; rfl
  have N0 := Fr.nil n0
  show own_Ends p e below s ({ frames := 1, cells := 1, slots := 4, locals := 18 } : Room).cells ({ frames := 1, cells := 1, slots := 4, locals := 18 } : Room).slots (Q_rm18 Z x0 x1 x2 k n vs h0 n0) (s₁.setTop (entryFrame m #[(.ref x0), (.int x1), (.int x2)] 5))
  rw [ef_18_RII]
  have hbb := p_1
  have hsb := own_sub (x := x2) (y := x1) (by omega) (by omega)
  refine own_step (st' := s₁.setTop (mkF m 1 #[.val (.ref x0), .val (.int x1), .val (.int x2), .unset, .unset] [(.int x1)])) (fun t k => XS.iloadN X0.here hx rfl (hb hby d18_0) rfl k) ?_
  refine own_step (st' := s₁.setTop (mkF m 2 #[.val (.ref x0), .val (.int x1), .val (.int x2), .unset, .unset] [(.int x2), (.int x1)])) (fun t k => XS.iloadN X0.here hx rfl (hb hby d18_1) rfl k) ?_
  obtain ⟨_, _, ⟨T1, L1, k1, n1⟩, -, X1, ⟨Lc1, hQ1, l1, y1, z1⟩, st1⟩ := Jvm.LawKit.callS X0 hx (y := (⟨"java/util/Arrays", "checkLength", "(II)V"⟩ : MethodName)) hown (mvT hZ (own_h hw 106 rfl)) (mvT hZ (own_h hw 107 rfl)) (mvT hZ (own_h hw 101 rfl)) (mvT hZ (own_h hw 108 rfl)) (by decide) (backOf (W := 0) (rm19 l Z a0 hw [] x1 x2 h0 n0 Z0 (own_ge (by omega))) hZ (own_h hw 108 rfl) (own_h hw 101 rfl) (by decide) (by decide)) (g := (mkF m 2 #[.val (.ref x0), .val (.int x1), .val (.int x2), .unset, .unset] [(.int x2), (.int x1)])) rfl (by rw [hml]; rfl) (argsL := [(.int x1), (.int x2)]) (rest := []) (lenOf pd_17 rfl) rfl (by show 2 * 0 + _ ≤ _; exact Nat.le_of_eq rfl) (hb hby d18_2) (fun _ _ => ⟨rfl, e0, (by decide : 0 + 0 ≤ _), (by decide : 0 + 0 ≤ _)⟩)
  dsimp only [Pt.U, Pt.locs, Pt.cells, Pt.slots] at X1 l1 y1 z1 st1 hQ1
  subst y1 z1
  obtain ⟨rfl, N1q, e1⟩ := hQ1
  have N1 := Fr.app N0 N1q
  rw [← l1] at N1
  clear l1
  refine own_step (st' := T1.setTop (mkF m 5 #[.val (.ref x0), .val (.int x1), .val (.int x2), .unset, .unset] [])) st1 ?_
  refine own_step (st' := T1.setTop (mkF m 6 #[.val (.ref x0), .val (.int x1), .val (.int x2), .unset, .unset] [(.int x2)])) (fun t k => XS.iloadN X1.here hx rfl (hb hby d18_5) rfl k) ?_
  refine own_step (st' := T1.setTop (mkF m 7 #[.val (.ref x0), .val (.int x1), .val (.int x2), .unset, .unset] [(.int x1), (.int x2)])) (fun t k => XS.iloadN X1.here hx rfl (hb hby d18_6) rfl k) ?_
  refine own_step (st' := T1.setTop (mkF m 8 #[.val (.ref x0), .val (.int x1), .val (.int x2), .unset, .unset] [(.int (x2 - x1))])) (fun t k => XS.isub X1.here hx rfl (hb hby d18_7) rfl k) ?_
  refine own_step (st' := T1.setTop (mkF m 9 #[.val (.ref x0), .val (.int x1), .val (.int x2), .val (.int (x2 - x1)), .unset] [])) (fun t k => XS.istoreN X1.here hx rfl (hb hby d18_8) rfl (l' := #[.val (.ref x0), .val (.int x1), .val (.int x2), .val (.int (x2 - x1)), .unset]) rfl k) ?_
  refine own_step (st' := T1.setTop (mkF m 10 #[.val (.ref x0), .val (.int x1), .val (.int x2), .val (.int (x2 - x1)), .unset] [(.int (x2 - x1))])) (fun t k => XS.iloadN X1.here hx rfl (hb hby d18_9) rfl k) ?_
  obtain ⟨T2, h2, k2, X2, e2, E2, A2, st2⟩ := newP X1 hx hZ (own_h hw 19 rfl) e1 (g := (mkF m 10 #[.val (.ref x0), .val (.int x1), .val (.int x2), .val (.int (x2 - x1)), .unset] [(.int (x2 - x1))])) rfl (hb hby d18_10) rfl (own_ge (by rw [own_z]; omega)) (cap := 4) (by have := own_nn (x := x2 - x1) (by omega); omega) (by decide) (by decide) (by decide)
  obtain ⟨b2, g2⟩ : ∃ z, z = h0.size := ⟨_, rfl⟩
  rw [← g2] at A2 st2
  have ne3 : x0 ≠ b2 := Nat.ne_of_lt (Nat.lt_of_lt_of_le p_0.lt (Nat.le_of_eq g2.symm))
  have g_b2 : n0 ≤ b2 := Nat.le_trans Z0 (Nat.le_of_eq g2.symm)
  have sz_b2 : h0.size ≤ b2 := Nat.le_trans (Keep.refl h0 []).1 (Nat.le_of_eq g2.symm)
  have f4 := p_0.ext E2
  have K5 : Keep h0 h2 [] := (Keep.refl h0 []).ext E2
  have Z6 : n0 ≤ h2.size := Nat.le_trans Z0 E2.1
  have V2 : Arv Z h2 b2 k2 .byte (x2 - x1) [] (.int (0 : Int32)) := Arv.new A2 (own_ge (by rw [own_z]; omega))
  refine own_step (st' := T2.setTop (mkF m 12 #[.val (.ref x0), .val (.int x1), .val (.int x2), .val (.int (x2 - x1)), .unset] [(.ref b2)])) st2 ?_
  refine own_step (st' := T2.setTop (mkF m 14 #[.val (.ref x0), .val (.int x1), .val (.int x2), .val (.int (x2 - x1)), .val (.ref b2)] [])) (fun t k => XS.astore X2.here hx rfl (hb hby d18_12) rfl rfl (l' := #[.val (.ref x0), .val (.int x1), .val (.int x2), .val (.int (x2 - x1)), .val (.ref b2)]) rfl k) ?_
  refine own_step (st' := T2.setTop (mkF m 15 #[.val (.ref x0), .val (.int x1), .val (.int x2), .val (.int (x2 - x1)), .val (.ref b2)] [(.ref x0)])) (fun t k => XS.aloadN X2.here hx rfl (hb hby d18_14) rfl rfl k) ?_
  refine own_step (st' := T2.setTop (mkF m 16 #[.val (.ref x0), .val (.int x1), .val (.int x2), .val (.int (x2 - x1)), .val (.ref b2)] [(.int x1), (.ref x0)])) (fun t k => XS.iloadN X2.here hx rfl (hb hby d18_15) rfl k) ?_
  refine own_step (st' := T2.setTop (mkF m 18 #[.val (.ref x0), .val (.int x1), .val (.int x2), .val (.int (x2 - x1)), .val (.ref b2)] [(.ref b2), (.int x1), (.ref x0)])) (fun t k => XS.aload X2.here hx rfl (hb hby d18_16) rfl rfl k) ?_
  refine own_step (st' := T2.setTop (mkF m 19 #[.val (.ref x0), .val (.int x1), .val (.int x2), .val (.int (x2 - x1)), .val (.ref b2)] [(.int (0 : Int32)), (.ref b2), (.int x1), (.ref x0)])) (fun t k => XS.iconst X2.here hx rfl (hb hby d18_18) k) ?_
  refine own_step (st' := T2.setTop (mkF m 20 #[.val (.ref x0), .val (.int x1), .val (.int x2), .val (.int (x2 - x1)), .val (.ref b2)] [(.ref x0), (.int (0 : Int32)), (.ref b2), (.int x1), (.ref x0)])) (fun t k => XS.aloadN X2.here hx rfl (hb hby d18_19) rfl rfl k) ?_
  refine own_step (st' := T2.setTop (mkF m 21 #[.val (.ref x0), .val (.int x1), .val (.int x2), .val (.int (x2 - x1)), .val (.ref b2)] [(.int n), (.int (0 : Int32)), (.ref b2), (.int x1), (.ref x0)])) (fun t k => own_len X2 hx hZ e2 f4 (g := (mkF m 20 #[.val (.ref x0), .val (.int x1), .val (.int x2), .val (.int (x2 - x1)), .val (.ref b2)] [(.ref x0), (.int (0 : Int32)), (.ref b2), (.int x1), (.ref x0)])) rfl rfl (hb hby d18_20) t k) ?_
  refine own_step (st' := T2.setTop (mkF m 22 #[.val (.ref x0), .val (.int x1), .val (.int x2), .val (.int (x2 - x1)), .val (.ref b2)] [(.int x1), (.int n), (.int (0 : Int32)), (.ref b2), (.int x1), (.ref x0)])) (fun t k => XS.iloadN X2.here hx rfl (hb hby d18_21) rfl k) ?_
  refine own_step (st' := T2.setTop (mkF m 23 #[.val (.ref x0), .val (.int x1), .val (.int x2), .val (.int (x2 - x1)), .val (.ref b2)] [(.int (n - x1)), (.int (0 : Int32)), (.ref b2), (.int x1), (.ref x0)])) (fun t k => XS.isub X2.here hx rfl (hb hby d18_22) rfl k) ?_
  refine own_step (st' := T2.setTop (mkF m 24 #[.val (.ref x0), .val (.int x1), .val (.int x2), .val (.int (x2 - x1)), .val (.ref b2)] [(.int (x2 - x1)), (.int (n - x1)), (.int (0 : Int32)), (.ref b2), (.int x1), (.ref x0)])) (fun t k => XS.iloadN X2.here hx rfl (hb hby d18_23) rfl k) ?_
  obtain ⟨_, _, ⟨T7, L7, k7, n7⟩, -, X7, ⟨Lc7, hQ7, l7, y7, z7⟩, st7⟩ := Jvm.LawKit.callS X2 hx (y := (⟨"java/lang/Math", "min", "(II)I"⟩ : MethodName)) hown (mvT hZ (own_h hw 109 rfl)) (mvT hZ (own_h hw 110 rfl)) (mvT hZ (own_h hw 111 rfl)) (mvT hZ (own_h hw 112 rfl)) (by decide) (backOf (W := 4) (rm20 l Z a0 hw [] (n - x1) (x2 - x1) h2 n0 Z6) hZ (own_h hw 112 rfl) (own_h hw 111 rfl) (by decide) (by decide)) (g := (mkF m 24 #[.val (.ref x0), .val (.int x1), .val (.int x2), .val (.int (x2 - x1)), .val (.ref b2)] [(.int (x2 - x1)), (.int (n - x1)), (.int (0 : Int32)), (.ref b2), (.int x1), (.ref x0)])) rfl (by rw [hml]; rfl) (argsL := [(.int (n - x1)), (.int (x2 - x1))]) (rest := [(.int (0 : Int32)), (.ref b2), (.int x1), (.ref x0)]) (lenOf pd_18 rfl) rfl (by show 2 * 0 + _ ≤ _; exact Nat.le_of_eq rfl) (hb hby d18_24) (fun _ _ => ⟨rfl, e2, (by decide : 1 + 0 ≤ _), (by decide : 4 + 0 ≤ _)⟩)
  dsimp only [Pt.U, Pt.locs, Pt.cells, Pt.slots] at X7 l7 y7 z7 st7 hQ7
  subst y7 z7
  obtain ⟨rfl, N7q, e7⟩ := hQ7
  have N7 := Fr.app N1 N7q
  rw [← l7] at N7
  clear l7
  refine own_step (st' := T7.setTop (mkF m 27 #[.val (.ref x0), .val (.int x1), .val (.int x2), .val (.int (x2 - x1)), .val (.ref b2)] [(.int (if (x2 - x1) < (n - x1) then (x2 - x1) else (n - x1))), (.int (0 : Int32)), (.ref b2), (.int x1), (.ref x0)])) st7 ?_
  rw [own_min ⟨hbb.1, hbb.2.1, hbb.2.2.1⟩]
  obtain ⟨T8, h8, L8, vd8, X8, e8, N8, K8, V8, cp8, st8⟩ := own_cp X7 hx hZ hown (own_h hw 113 rfl) (own_h hw 116 rfl) (own_h hw 114 rfl) (own_h hw 115 rfl) e7 f4 V2 rfl hbb.1 (by decide) (by omega) (by omega) (by rw [own_z]; omega) N7 g_b2 (g := (mkF m 27 #[.val (.ref x0), .val (.int x1), .val (.int x2), .val (.int (x2 - x1)), .val (.ref b2)] [(.int (x2 - x1)), (.int (0 : Int32)), (.ref b2), (.int x1), (.ref x0)])) rfl (by rw [hml]; rfl) rfl (hb hby d18_27) (by decide) (W := 0) (by show 2 * 0 + _ ≤ _; exact Nat.le_of_eq rfl) (by decide)
  have f9 := f4.keep K8 (ninS ne3 nin0)
  have K10 : Keep h0 h8 [] := K5.trans K8 (allS (Or.inr sz_b2) all0)
  have Z11 : n0 ≤ h8.size := Nat.le_trans Z6 K8.1
  refine own_step (st' := T8.setTop (mkF m 30 #[.val (.ref x0), .val (.int x1), .val (.int x2), .val (.int (x2 - x1)), .val (.ref b2)] [])) st8 ?_
  refine own_step (st' := T8.setTop (mkF m 32 #[.val (.ref x0), .val (.int x1), .val (.int x2), .val (.int (x2 - x1)), .val (.ref b2)] [(.ref b2)])) (fun t k => XS.aload X8.here hx rfl (hb hby d18_30) rfl rfl k) ?_
  refine own_ret X8 Bd.notSynchronized (some (.ref b2)) (fun h => by rw [Bd.returns] at h; cases h) (fun fs hr => retOut X8 hx Bd.returns rfl (Or.inr (Or.inr (Or.inr (Or.inr ⟨rfl, rfl, rfl⟩)))) (hb hby d18_32) hr) ?_ (by decide) (by decide)
  rw [e8]
  exact ⟨b2, k2, vd8, rfl, N8, K10, sz_b2, V8, (own_cpz cp8)⟩
theorem d17_0 : decode jdk_65_method_132_code 0 = .ok (.iload_n 1, 1) := by decide +kernel
theorem d17_1 : decode jdk_65_method_132_code 1 = .ok (.ifCond .ne 9, 3) := by decide +kernel
theorem d17_4 : decode jdk_65_method_132_code 4 = .ok (.iload_n 2, 1) := by decide +kernel
theorem d17_5 : decode jdk_65_method_132_code 5 = .ok (.aload_n 0, 1) := by decide +kernel
theorem d17_6 : decode jdk_65_method_132_code 6 = .ok (.arraylength, 1) := by decide +kernel
theorem d17_7 : decode jdk_65_method_132_code 7 = .ok (.if_icmp .eq 10, 3) := by decide +kernel
theorem d17_10 : decode jdk_65_method_132_code 10 = .ok (.aload_n 0, 1) := by decide +kernel
theorem d17_11 : decode jdk_65_method_132_code 11 = .ok (.iload_n 1, 1) := by decide +kernel
theorem d17_12 : decode jdk_65_method_132_code 12 = .ok (.iload_n 2, 1) := by decide +kernel
theorem d17_13 : decode jdk_65_method_132_code 13 = .ok (.invokestatic 339, 3) := by decide +kernel
theorem d17_16 : decode jdk_65_method_132_code 16 = .ok (.areturn, 1) := by decide +kernel
theorem ef_17_RII (m : MethodId) (x0 : Addr) (x1 : Int32) (x2 : Int32) : entryFrame m #[(.ref x0), (.int x1), (.int x2)] 3 = mkF m 0 #[.val (.ref x0), .val (.int x1), .val (.int x2)] [] := by first | (simp [entryFrame, mkF, argsToLocals, Value.category]; done) | rfl
def Q_rm17 (Z : State) (x0 : Addr) (x1 : Int32) (x2 : Int32) (k : ClassId) (n : Int32) (vs : List Value) (h0 : Heap) (n0 : Nat) (v : Option Value) (h : Heap) (L : List Loc) : Prop := ∃ b : Addr, ∃ kb : ClassId, ∃ vd : List Value, v = some (.ref b) ∧ Fr n0 L ∧ Keep h0 h [] ∧ h0.size ≤ b ∧ Arv Z h b kb .byte (x2 - x1) vd (.int (0 : Int32)) ∧ ∀ i : Nat, vd.getD i (.int (0 : Int32)) = if i < (x2 - x1).toNatClampNeg then vs.getD (x1.toNatClampNeg + i) (.int (0 : Int32)) else (.int (0 : Int32))
set_option maxRecDepth 65536 in
set_option maxHeartbeats 40000000 in
theorem rm17 (l : Launch) (Z : State) (a0 : Array Value) (hw : ∀ d ∈ tables_1, d.before a0 Z = true) (ws : List Jvm.Cond) (x0 : Addr) (x1 : Int32) (x2 : Int32) (k : ClassId) (n : Int32) (vs : List Value) (h0 : Heap) (n0 : Nat) (Z0 : n0 ≤ h0.size) (p_0 : Arv Z h0 x0 k .byte n vs (.int (0 : Int32))) (p_1 : 0 ≤ x1.toInt ∧ x1.toInt < x2.toInt ∧ x2.toInt ≤ n.toInt ∧ n.toInt ≤ 4) (p_2 : x1 = (0 : Int32) → ¬ x2 = n) :
    MetFree l (⟨"java/util/Arrays", "copyOfRange", "([BII)[B"⟩ : MethodName) (head1 (Jvm.Cond.code (⟨"java/util/Arrays", "copyOfRange", "([BII)[B"⟩ : MethodName) jdk_65_method_132_code 3 (some (.array .byte)) :: ws) ({ frames := 2, cells := 1, slots := 4, locals := 34 } : Room)) (fun a U => a = #[(.ref x0), (.int x1), (.int x2)] ∧ Z.Warmed39 U.vm ∧ U.heap = h0) (fun _ _ _ _ _ => True) (fun _ U o U' => ∃ v L, o = .returned v ∧ Q_rm17 Z x0 x1 x2 k n vs h0 n0 v U'.heap L ∧ FrameEnd U o U' L ({ frames := 2, cells := 1, slots := 4, locals := 34 } : Room).cells ({ frames := 2, cells := 1, slots := 4, locals := 34 } : Room).slots) := by
  refine MetFree.of_bodySF (plainFor_of_name pn_7) hisR ?_
  intro p e s m args below meth c s₁ Bd hml0 hP hK
  obtain ⟨rfl, hZ, hh⟩ := hP
  have hx := Bd.exec
  have hby := Bd.bytes
  have hml : c.maxLocals = 3 := hml0
  have hown : s.vm.findClass "java/util/Arrays" = some m.cls := findClass_of_methodNamed Bd.named
  have hnm := (name_of_methodNamed Bd.named Bd.method).1
  have X0 : Stand p l e ({ frames := 2, cells := 1, slots := 4, locals := 34 } : Room) s m #[(.ref x0), (.int x1), (.int x2)] below meth c s₁ [] 0 0 := Stand.of_body Bd
  have e0 : s₁.heap = h0 := by rw [← hh, Bd.state]; rfl
  have N0 := Fr.nil n0
  show own_Ends p e below s ({ frames := 2, cells := 1, slots := 4, locals := 34 } : Room).cells ({ frames := 2, cells := 1, slots := 4, locals := 34 } : Room).slots (Q_rm17 Z x0 x1 x2 k n vs h0 n0) (s₁.setTop (entryFrame m #[(.ref x0), (.int x1), (.int x2)] 3))
  rw [ef_17_RII]
  refine own_step (st' := s₁.setTop (mkF m 1 #[.val (.ref x0), .val (.int x1), .val (.int x2)] [(.int x1)])) (fun t k => XS.iloadN X0.here hx rfl (hb hby d17_0) rfl k) ?_
  by_cases hc1 : x1 = (0 : Int32)
  · refine own_step (st' := s₁.setTop (mkF m 4 #[.val (.ref x0), .val (.int x1), .val (.int x2)] [])) (fun t k => XS.ifNo X0.here hx rfl (hb hby d17_1) rfl ((if0 _ _).trans (teq hc1).2) k) ?_
    refine own_step (st' := s₁.setTop (mkF m 5 #[.val (.ref x0), .val (.int x1), .val (.int x2)] [(.int x2)])) (fun t k => XS.iloadN X0.here hx rfl (hb hby d17_4) rfl k) ?_
    refine own_step (st' := s₁.setTop (mkF m 6 #[.val (.ref x0), .val (.int x1), .val (.int x2)] [(.ref x0), (.int x2)])) (fun t k => XS.aloadN X0.here hx rfl (hb hby d17_5) rfl rfl k) ?_
    refine own_step (st' := s₁.setTop (mkF m 7 #[.val (.ref x0), .val (.int x1), .val (.int x2)] [(.int n), (.int x2)])) (fun t k => own_len X0 hx hZ e0 p_0 (g := (mkF m 6 #[.val (.ref x0), .val (.int x1), .val (.int x2)] [(.ref x0), (.int x2)])) rfl rfl (hb hby d17_6) t k) ?_
    refine own_step (st' := s₁.setTop (mkF m 10 #[.val (.ref x0), .val (.int x1), .val (.int x2)] [])) (fun t k => XS.icmpNo X0.here hx rfl (hb hby d17_7) rfl (feq (p_2 hc1)).1 k) ?_
    refine own_step (st' := s₁.setTop (mkF m 11 #[.val (.ref x0), .val (.int x1), .val (.int x2)] [(.ref x0)])) (fun t k => XS.aloadN X0.here hx rfl (hb hby d17_10) rfl rfl k) ?_
    refine own_step (st' := s₁.setTop (mkF m 12 #[.val (.ref x0), .val (.int x1), .val (.int x2)] [(.int x1), (.ref x0)])) (fun t k => XS.iloadN X0.here hx rfl (hb hby d17_11) rfl k) ?_
    refine own_step (st' := s₁.setTop (mkF m 13 #[.val (.ref x0), .val (.int x1), .val (.int x2)] [(.int x2), (.int x1), (.ref x0)])) (fun t k => XS.iloadN X0.here hx rfl (hb hby d17_12) rfl k) ?_
    obtain ⟨_, _, ⟨T2, L2, k2, n2⟩, -, X2, ⟨Lc2, hQ2, l2, y2, z2⟩, st2⟩ := Jvm.LawKit.callS X0 hx (y := (⟨"java/util/Arrays", "copyOfRangeByte", "([BII)[B"⟩ : MethodName)) hown (mvT hZ (own_h hw 103 rfl)) (mvT hZ (own_h hw 104 rfl)) (mvT hZ (own_h hw 101 rfl)) (mvT hZ (own_h hw 105 rfl)) (by decide) (backOf (W := 0) (rm18 l Z a0 hw [] x0 x1 x2 k n vs h0 n0 Z0 p_0 p_1) hZ (own_h hw 105 rfl) (own_h hw 101 rfl) (by decide) (by decide)) (g := (mkF m 13 #[.val (.ref x0), .val (.int x1), .val (.int x2)] [(.int x2), (.int x1), (.ref x0)])) rfl (by rw [hml]; rfl) (argsL := [(.ref x0), (.int x1), (.int x2)]) (rest := []) (lenOf pd_16 rfl) rfl (by show 2 * 0 + _ ≤ _; exact Nat.le_of_eq rfl) (hb hby d17_13) (fun _ _ => ⟨rfl, e0, (by decide : 0 + 1 ≤ _), (by decide : 0 + 4 ≤ _)⟩)
    dsimp only [Pt.U, Pt.locs, Pt.cells, Pt.slots] at X2 l2 y2 z2 st2 hQ2
    subst y2 z2
    obtain ⟨b_2, kb_2, vd_2, rfl, N2q, K2, pq2_0, pq2_1, pq2_2⟩ := hQ2
    have N2 := Fr.app N0 N2q
    rw [← l2] at N2
    clear l2
    obtain ⟨h2, e2⟩ : ∃ z, T2.heap = z := ⟨_, rfl⟩
    rw [e2] at K2 pq2_1
    have ne3 : x0 ≠ b_2 := Nat.ne_of_lt (Nat.lt_of_lt_of_le p_0.lt pq2_0)
    have g_b_2 : n0 ≤ b_2 := Nat.le_trans Z0 pq2_0
    have sz_b_2 : h0.size ≤ b_2 := Nat.le_trans (Keep.refl h0 []).1 pq2_0
    have f4 := p_0.keep K2 nin0
    have K5 : Keep h0 h2 [] := (Keep.refl h0 []).trans K2 all0
    have Z6 : n0 ≤ h2.size := Nat.le_trans Z0 K2.1
    refine own_step (st' := T2.setTop (mkF m 16 #[.val (.ref x0), .val (.int x1), .val (.int x2)] [(.ref b_2)])) st2 ?_
    refine own_ret X2 Bd.notSynchronized (some (.ref b_2)) (fun h => by rw [Bd.returns] at h; cases h) (fun fs hr => retOut X2 hx Bd.returns rfl (Or.inr (Or.inr (Or.inr (Or.inr ⟨rfl, rfl, rfl⟩)))) (hb hby d17_16) hr) ?_ (by decide) (by decide)
    rw [e2]
    exact ⟨b_2, kb_2, vd_2, rfl, N2, K5, sz_b_2, pq2_1, pq2_2⟩
  · refine own_step (st' := s₁.setTop (mkF m 10 #[.val (.ref x0), .val (.int x1), .val (.int x2)] [])) (fun t k => XS.ifYes X0.here hx rfl (pc0 := 1) (pc' := 10) rfl (hb hby d17_1) rfl ((if0 _ _).trans (feq hc1).2) (by decide) (by decide) k) ?_
    refine own_step (st' := s₁.setTop (mkF m 11 #[.val (.ref x0), .val (.int x1), .val (.int x2)] [(.ref x0)])) (fun t k => XS.aloadN X0.here hx rfl (hb hby d17_10) rfl rfl k) ?_
    refine own_step (st' := s₁.setTop (mkF m 12 #[.val (.ref x0), .val (.int x1), .val (.int x2)] [(.int x1), (.ref x0)])) (fun t k => XS.iloadN X0.here hx rfl (hb hby d17_11) rfl k) ?_
    refine own_step (st' := s₁.setTop (mkF m 13 #[.val (.ref x0), .val (.int x1), .val (.int x2)] [(.int x2), (.int x1), (.ref x0)])) (fun t k => XS.iloadN X0.here hx rfl (hb hby d17_12) rfl k) ?_
    obtain ⟨_, _, ⟨T7, L7, k7, n7⟩, -, X7, ⟨Lc7, hQ7, l7, y7, z7⟩, st7⟩ := Jvm.LawKit.callS X0 hx (y := (⟨"java/util/Arrays", "copyOfRangeByte", "([BII)[B"⟩ : MethodName)) hown (mvT hZ (own_h hw 103 rfl)) (mvT hZ (own_h hw 104 rfl)) (mvT hZ (own_h hw 101 rfl)) (mvT hZ (own_h hw 105 rfl)) (by decide) (backOf (W := 0) (rm18 l Z a0 hw [] x0 x1 x2 k n vs h0 n0 Z0 p_0 p_1) hZ (own_h hw 105 rfl) (own_h hw 101 rfl) (by decide) (by decide)) (g := (mkF m 13 #[.val (.ref x0), .val (.int x1), .val (.int x2)] [(.int x2), (.int x1), (.ref x0)])) rfl (by rw [hml]; rfl) (argsL := [(.ref x0), (.int x1), (.int x2)]) (rest := []) (lenOf pd_16 rfl) rfl (by show 2 * 0 + _ ≤ _; exact Nat.le_of_eq rfl) (hb hby d17_13) (fun _ _ => ⟨rfl, e0, (by decide : 0 + 1 ≤ _), (by decide : 0 + 4 ≤ _)⟩)
    dsimp only [Pt.U, Pt.locs, Pt.cells, Pt.slots] at X7 l7 y7 z7 st7 hQ7
    subst y7 z7
    obtain ⟨b_7, kb_7, vd_7, rfl, N7q, K7, pq7_0, pq7_1, pq7_2⟩ := hQ7
    have N7 := Fr.app N0 N7q
    rw [← l7] at N7
    clear l7
    obtain ⟨h7, e7⟩ : ∃ z, T7.heap = z := ⟨_, rfl⟩
    rw [e7] at K7 pq7_1
    have ne8 : x0 ≠ b_7 := Nat.ne_of_lt (Nat.lt_of_lt_of_le p_0.lt pq7_0)
    have g_b_7 : n0 ≤ b_7 := Nat.le_trans Z0 pq7_0
    have sz_b_7 : h0.size ≤ b_7 := Nat.le_trans (Keep.refl h0 []).1 pq7_0
    have f9 := p_0.keep K7 nin0
    have K10 : Keep h0 h7 [] := (Keep.refl h0 []).trans K7 all0
    have Z11 : n0 ≤ h7.size := Nat.le_trans Z0 K7.1
    refine own_step (st' := T7.setTop (mkF m 16 #[.val (.ref x0), .val (.int x1), .val (.int x2)] [(.ref b_7)])) st7 ?_
    refine own_ret X7 Bd.notSynchronized (some (.ref b_7)) (fun h => by rw [Bd.returns] at h; cases h) (fun fs hr => retOut X7 hx Bd.returns rfl (Or.inr (Or.inr (Or.inr (Or.inr ⟨rfl, rfl, rfl⟩)))) (hb hby d17_16) hr) ?_ (by decide) (by decide)
    rw [e7]
    exact ⟨b_7, kb_7, vd_7, rfl, N7, K10, sz_b_7, pq7_1, pq7_2⟩
theorem d21_0 : decode jdk_42_method_151_code 0 = .ok (.aload_n 0, 1) := by decide +kernel
theorem d21_1 : decode jdk_42_method_151_code 1 = .ok (.invokespecial 1, 3) := by decide +kernel
theorem d21_4 : decode jdk_42_method_151_code 4 = .ok (.aload_n 0, 1) := by decide +kernel
theorem d21_5 : decode jdk_42_method_151_code 5 = .ok (.aload_n 1, 1) := by decide +kernel
theorem d21_6 : decode jdk_42_method_151_code 6 = .ok (.putfield 9, 3) := by decide +kernel
theorem d21_9 : decode jdk_42_method_151_code 9 = .ok (.aload_n 0, 1) := by decide +kernel
theorem d21_10 : decode jdk_42_method_151_code 10 = .ok (.iload_n 2, 1) := by decide +kernel
theorem d21_11 : decode jdk_42_method_151_code 11 = .ok (.putfield 15, 3) := by decide +kernel
theorem d21_14 : decode jdk_42_method_151_code 14 = .ok (.return_, 1) := by decide +kernel
theorem ef_21_RRI (m : MethodId) (x0 : Addr) (x1 : Addr) (x2 : Int32) : entryFrame m #[(.ref x0), (.ref x1), (.int x2)] 3 = mkF m 0 #[.val (.ref x0), .val (.ref x1), .val (.int x2)] [] := by first | (simp [entryFrame, mkF, argsToLocals, Value.category]; done) | rfl
def Q_rm21 (Z : State) (x0 : Addr) (x1 : Addr) (x2 : Int32) (h0 : Heap) (n0 : Nat) (v : Option Value) (h : Heap) (L : List Loc) : Prop := v = none ∧ Fr n0 L ∧ Keep h0 h [x0] ∧ Fld Z h x0 "java/lang/String" "coder" "B" (.int (0 : Int32)) ∧ Fld Z h x0 "java/lang/String" "value" "[B" (.ref x1)
set_option maxRecDepth 65536 in
set_option maxHeartbeats 40000000 in
theorem rm21 (l : Launch) (Z : State) (a0 : Array Value) (hw : ∀ d ∈ tables_1, d.before a0 Z = true) (ws : List Jvm.Cond) (x0 : Addr) (x1 : Addr) (x2 : Int32) (h0 : Heap) (n0 : Nat) (Z0 : n0 ≤ h0.size) (p_0 : Fld Z h0 x0 "java/lang/String" "coder" "B" (.int (0 : Int32))) (p_1 : Fld Z h0 x0 "java/lang/String" "value" "[B" .null) (p_2 : Exa Z h0 x0 "java/lang/String") (p_3 : n0 ≤ x0) (p_4 : x2 = (0 : Int32)) :
    MetFree l (⟨"java/lang/String", "<init>", "([BB)V"⟩ : MethodName) (head1 (Jvm.Cond.code (⟨"java/lang/String", "<init>", "([BB)V"⟩ : MethodName) jdk_42_method_151_code 3 none :: ws) ({ frames := 1, cells := 0, slots := 0, locals := 12 } : Room)) (fun a U => a = #[(.ref x0), (.ref x1), (.int x2)] ∧ Z.Warmed39 U.vm ∧ U.heap = h0) (fun _ _ _ _ _ => True) (fun _ U o U' => ∃ v L, o = .returned v ∧ Q_rm21 Z x0 x1 x2 h0 n0 v U'.heap L ∧ FrameEnd U o U' L ({ frames := 1, cells := 0, slots := 0, locals := 12 } : Room).cells ({ frames := 1, cells := 0, slots := 0, locals := 12 } : Room).slots) := by
  refine MetFree.of_bodySF (plainFor_of_name pn_4) hisR ?_
  intro p e s m args below meth c s₁ Bd hml0 hP hK
  obtain ⟨rfl, hZ, hh⟩ := hP
  have hx := Bd.exec
  have hby := Bd.bytes
  have hml : c.maxLocals = 3 := hml0
  have hown : s.vm.findClass "java/lang/String" = some m.cls := findClass_of_methodNamed Bd.named
  have hnm := (name_of_methodNamed Bd.named Bd.method).1
  have X0 : Stand p l e ({ frames := 1, cells := 0, slots := 0, locals := 12 } : Room) s m #[(.ref x0), (.ref x1), (.int x2)] below meth c s₁ [] 0 0 := Stand.of_body Bd
  have e0 : s₁.heap = h0 := by rw [← hh, Bd.state]; rfl
  have N0 := Fr.nil n0
  show own_Ends p e below s ({ frames := 1, cells := 0, slots := 0, locals := 12 } : Room).cells ({ frames := 1, cells := 0, slots := 0, locals := 12 } : Room).slots (Q_rm21 Z x0 x1 x2 h0 n0) (s₁.setTop (entryFrame m #[(.ref x0), (.ref x1), (.int x2)] 3))
  rw [ef_21_RRI]
  subst p_4
  refine own_step (st' := s₁.setTop (mkF m 1 #[.val (.ref x0), .val (.ref x1), .val (.int (0 : Int32))] [(.ref x0)])) (fun t k => XS.aloadN X0.here hx rfl (hb hby d21_0) rfl rfl k) ?_
  obtain ⟨T1, X1, e1, st1⟩ := initO X0 hx hZ hown (own_h hw 11 rfl) (own_h hw 12 rfl) (own_h hw 13 rfl) e0 (g := (mkF m 1 #[.val (.ref x0), .val (.ref x1), .val (.int (0 : Int32))] [(.ref x0)])) rfl (by rw [hml]; rfl) rfl (hb hby d21_1) (by decide) (W := 0) (by show 2 * 0 + _ ≤ _; exact Nat.le_of_eq rfl) (by decide)
  refine own_step (st' := T1.setTop (mkF m 4 #[.val (.ref x0), .val (.ref x1), .val (.int (0 : Int32))] [])) st1 ?_
  refine own_step (st' := T1.setTop (mkF m 5 #[.val (.ref x0), .val (.ref x1), .val (.int (0 : Int32))] [(.ref x0)])) (fun t k => XS.aloadN X1.here hx rfl (hb hby d21_4) rfl rfl k) ?_
  refine own_step (st' := T1.setTop (mkF m 6 #[.val (.ref x0), .val (.ref x1), .val (.int (0 : Int32))] [(.ref x1), (.ref x0)])) (fun t k => XS.aloadN X1.here hx rfl (hb hby d21_5) rfl rfl k) ?_
  obtain ⟨T2, h2, X2, e2, W2, st2⟩ := putF X1 hx hZ hown (host := "") (Or.inl (own_h hw 28 rfl)) Via.refl e1 p_1 p_2 (Or.inr ⟨(own_h hw 29 rfl), rfl, hnm⟩) (own_h hw 2 rfl) (ty := (.array .byte)) (by decide) rfl rfl (g := (mkF m 6 #[.val (.ref x0), .val (.ref x1), .val (.int (0 : Int32))] [(.ref x1), (.ref x0)])) rfl rfl (hb hby d21_6)
  have F2 := p_1.same W2
  have f3 := p_0.other W2 (Or.inr (slot_ne (Or.inr (own_h hw 27 rfl)) (Or.inr (own_h hw 29 rfl)) (by decide) (t := .byte) (t' := (.array .byte)) (by decide) (by decide)))
  have f4 := p_2.wr W2
  have K5 : Keep h0 h2 [x0] := (Keep.refl h0 [x0]).wr W2 (Or.inl (List.mem_of_getElem? (i := 0) rfl))
  have Z6 : n0 ≤ h2.size := Nat.le_trans Z0 (Keep.of_wr W2).1
  have N7 := Fr.snoc X2 N0 p_3
  refine own_step (st' := T2.setTop (mkF m 9 #[.val (.ref x0), .val (.ref x1), .val (.int (0 : Int32))] [])) st2 ?_
  refine own_step (st' := T2.setTop (mkF m 10 #[.val (.ref x0), .val (.ref x1), .val (.int (0 : Int32))] [(.ref x0)])) (fun t k => XS.aloadN X2.here hx rfl (hb hby d21_9) rfl rfl k) ?_
  refine own_step (st' := T2.setTop (mkF m 11 #[.val (.ref x0), .val (.ref x1), .val (.int (0 : Int32))] [(.int (0 : Int32)), (.ref x0)])) (fun t k => XS.iloadN X2.here hx rfl (hb hby d21_10) rfl k) ?_
  obtain ⟨T8, h8, X8, e8, W8, st8⟩ := putFN X2 hx hZ hown (own_h hw 26 rfl) Via.refl e2 f3 f4 (Or.inr ⟨(own_h hw 27 rfl), rfl, hnm⟩) (own_h hw 2 rfl) (ty := .byte) (v' := .int (0 : Int32)) (by decide) rfl rfl (g := (mkF m 11 #[.val (.ref x0), .val (.ref x1), .val (.int (0 : Int32))] [(.int (0 : Int32)), (.ref x0)])) rfl rfl (hb hby d21_11)
  have F8 := f3.same W8
  have f9 := f4.wr W8
  have f10 := F2.other W8 (Or.inr (slot_ne (Or.inr (own_h hw 29 rfl)) (Or.inr (own_h hw 27 rfl)) (by decide) (t := (.array .byte)) (t' := .byte) (by decide) (by decide)))
  have K11 : Keep h0 h8 [x0] := K5.wr W8 (Or.inl (List.mem_of_getElem? (i := 0) rfl))
  have Z12 : n0 ≤ h8.size := Nat.le_trans Z6 (Keep.of_wr W8).1
  have N13 := Fr.snoc X8 N7 p_3
  refine own_step (st' := T8.setTop (mkF m 14 #[.val (.ref x0), .val (.ref x1), .val (.int (0 : Int32))] [])) st8 ?_
  refine own_ret X8 Bd.notSynchronized (none) (fun _ => rfl) (fun fs hr => X8.returnOut hx Bd.returns (hb hby d21_14) hr) ?_ (by decide) (by decide)
  rw [e8]
  exact ⟨rfl, N13, K11, F8, f10⟩
theorem d15_0 : decode jdk_43_method_47_code 0 = .ok (.iload_n 2, 1) := by decide +kernel
theorem d15_1 : decode jdk_43_method_47_code 1 = .ok (.ifCond .ne 6, 3) := by decide +kernel
theorem d15_7 : decode jdk_43_method_47_code 7 = .ok (.new 1, 3) := by decide +kernel
theorem d15_10 : decode jdk_43_method_47_code 10 = .ok (.dup, 1) := by decide +kernel
theorem d15_11 : decode jdk_43_method_47_code 11 = .ok (.aload_n 0, 1) := by decide +kernel
theorem d15_12 : decode jdk_43_method_47_code 12 = .ok (.iload_n 1, 1) := by decide +kernel
theorem d15_13 : decode jdk_43_method_47_code 13 = .ok (.iload_n 1, 1) := by decide +kernel
theorem d15_14 : decode jdk_43_method_47_code 14 = .ok (.iload_n 2, 1) := by decide +kernel
theorem d15_15 : decode jdk_43_method_47_code 15 = .ok (.iadd, 1) := by decide +kernel
theorem d15_16 : decode jdk_43_method_47_code 16 = .ok (.invokestatic 232, 3) := by decide +kernel
theorem d15_19 : decode jdk_43_method_47_code 19 = .ok (.iconst 0, 1) := by decide +kernel
theorem d15_20 : decode jdk_43_method_47_code 20 = .ok (.invokespecial 112, 3) := by decide +kernel
theorem d15_23 : decode jdk_43_method_47_code 23 = .ok (.areturn, 1) := by decide +kernel
theorem ef_15_RII (m : MethodId) (x0 : Addr) (x1 : Int32) (x2 : Int32) : entryFrame m #[(.ref x0), (.int x1), (.int x2)] 3 = mkF m 0 #[.val (.ref x0), .val (.int x1), .val (.int x2)] [] := by first | (simp [entryFrame, mkF, argsToLocals, Value.category]; done) | rfl
def Q_rmNN (Z : State) (x0 : Addr) (x1 : Int32) (x2 : Int32) (k : ClassId) (n : Int32) (vs : List Value) (h0 : Heap) (n0 : Nat) (v : Option Value) (h : Heap) (L : List Loc) : Prop := ∃ r : Addr, ∃ b : Addr, ∃ kb : ClassId, ∃ vd : List Value, v = some (.ref r) ∧ Fr n0 L ∧ Keep h0 h [] ∧ h0.size ≤ r ∧ h0.size ≤ b ∧ r ≠ b ∧ Exa Z h r "java/lang/String" ∧ Fld Z h r "java/lang/String" "coder" "B" (.int (0 : Int32)) ∧ Fld Z h r "java/lang/String" "value" "[B" (.ref b) ∧ Arv Z h b kb .byte ((x1 + x2) - x1) vd (.int (0 : Int32)) ∧ ∀ i : Nat, vd.getD i (.int (0 : Int32)) = if i < ((x1 + x2) - x1).toNatClampNeg then vs.getD (x1.toNatClampNeg + i) (.int (0 : Int32)) else (.int (0 : Int32))
set_option maxRecDepth 65536 in
set_option maxHeartbeats 40000000 in
theorem rmNN (l : Launch) (Z : State) (a0 : Array Value) (hw : ∀ d ∈ tables_1, d.before a0 Z = true) (ws : List Jvm.Cond) (x0 : Addr) (x1 : Int32) (x2 : Int32) (k : ClassId) (n : Int32) (vs : List Value) (h0 : Heap) (n0 : Nat) (Z0 : n0 ≤ h0.size) (p_0 : Arv Z h0 x0 k .byte n vs (.int (0 : Int32))) (p_1 : 0 ≤ x1.toInt ∧ 0 < x2.toInt ∧ x1.toInt + x2.toInt ≤ n.toInt ∧ n.toInt ≤ 4) (p_2 : x1 = (0 : Int32) → ¬ x2 = n) :
    MetFree l (⟨"java/lang/StringLatin1", "newString", "([BII)Ljava/lang/String;"⟩ : MethodName) (head1 (Jvm.Cond.code (⟨"java/lang/StringLatin1", "newString", "([BII)Ljava/lang/String;"⟩ : MethodName) jdk_43_method_47_code 3 (some (.object "java/lang/String")) :: ws) ({ frames := 3, cells := 2, slots := 8, locals := 50 } : Room)) (fun a U => a = #[(.ref x0), (.int x1), (.int x2)] ∧ Z.Warmed39 U.vm ∧ U.heap = h0) (fun _ _ _ _ _ => True) (fun _ U o U' => ∃ v L, o = .returned v ∧ Q_rmNN Z x0 x1 x2 k n vs h0 n0 v U'.heap L ∧ FrameEnd U o U' L ({ frames := 3, cells := 2, slots := 8, locals := 50 } : Room).cells ({ frames := 3, cells := 2, slots := 8, locals := 50 } : Room).slots) := by
  refine MetFree.of_bodySF (plainFor_of_name pn_5) hisR ?_
  intro p e s m args below meth c s₁ Bd hml0 hP hK
  obtain ⟨rfl, hZ, hh⟩ := hP
  have hx := Bd.exec
  have hby := Bd.bytes
  have hml : c.maxLocals = 3 := hml0
  have hown : s.vm.findClass "java/lang/StringLatin1" = some m.cls := findClass_of_methodNamed Bd.named
  have hnm := (name_of_methodNamed Bd.named Bd.method).1
  have X0 : Stand p l e ({ frames := 3, cells := 2, slots := 8, locals := 50 } : Room) s m #[(.ref x0), (.int x1), (.int x2)] below meth c s₁ [] 0 0 := Stand.of_body Bd
  have e0 : s₁.heap = h0 := by rw [← hh, Bd.state]; rfl
  have N0 := Fr.nil n0
  show own_Ends p e below s ({ frames := 3, cells := 2, slots := 8, locals := 50 } : Room).cells ({ frames := 3, cells := 2, slots := 8, locals := 50 } : Room).slots (Q_rmNN Z x0 x1 x2 k n vs h0 n0) (s₁.setTop (entryFrame m #[(.ref x0), (.int x1), (.int x2)] 3))
  rw [ef_15_RII]
  have hbb := p_1
  have had := own_add (x := x1) (y := x2) ⟨by omega, by omega⟩ ⟨by omega, by omega⟩
  refine own_step (st' := s₁.setTop (mkF m 1 #[.val (.ref x0), .val (.int x1), .val (.int x2)] [(.int x2)])) (fun t k => XS.iloadN X0.here hx rfl (hb hby d15_0) rfl k) ?_
  refine own_step (st' := s₁.setTop (mkF m 7 #[.val (.ref x0), .val (.int x1), .val (.int x2)] [])) (fun t k => XS.ifYes X0.here hx rfl (pc0 := 1) (pc' := 7) rfl (hb hby d15_1) rfl ((if0 _ _).trans (feq (fun q => by have := congrArg Int32.toInt q; rw [own_z] at this; omega)).2) (by decide) (by decide) k) ?_
  obtain ⟨T1, h1, X1, e1, E1, A1, D1, -, st1⟩ := newO X0 hx hZ hown (own_h hw 98 rfl) (own_h hw 2 rfl) (own_h hw 3 rfl) e0 (g := (mkF m 7 #[.val (.ref x0), .val (.int x1), .val (.int x2)] [])) rfl (hb hby d15_7) (by decide) (by decide)
  obtain ⟨b1, g1⟩ : ∃ z, z = h0.size := ⟨_, rfl⟩
  rw [← g1] at A1 D1 st1
  have ne2 : x0 ≠ b1 := Nat.ne_of_lt (Nat.lt_of_lt_of_le p_0.lt (Nat.le_of_eq g1.symm))
  have g_b1 : n0 ≤ b1 := Nat.le_trans Z0 (Nat.le_of_eq g1.symm)
  have sz_b1 : h0.size ≤ b1 := Nat.le_trans (Keep.refl h0 []).1 (Nat.le_of_eq g1.symm)
  have f3 := p_0.ext E1
  have K4 : Keep h0 h1 [] := (Keep.refl h0 []).ext E1
  have Z5 : n0 ≤ h1.size := Nat.le_trans Z0 E1.1
  have f6 : Fld Z h1 b1 "java/lang/String" "coder" "B" (.int (0 : Int32)) := D1 (Or.inr (own_h hw 27 rfl)) (ty := .byte) (by decide)
  have f7 : Fld Z h1 b1 "java/lang/String" "value" "[B" .null := D1 (Or.inr (own_h hw 29 rfl)) (ty := (.array .byte)) (by decide)
  refine own_step (st' := T1.setTop (mkF m 10 #[.val (.ref x0), .val (.int x1), .val (.int x2)] [(.ref b1)])) st1 ?_
  refine own_step (st' := T1.setTop (mkF m 11 #[.val (.ref x0), .val (.int x1), .val (.int x2)] [(.ref b1), (.ref b1)])) (fun t k => XS.dup X1.here hx rfl (hb hby d15_10) rfl rfl k) ?_
  refine own_step (st' := T1.setTop (mkF m 12 #[.val (.ref x0), .val (.int x1), .val (.int x2)] [(.ref x0), (.ref b1), (.ref b1)])) (fun t k => XS.aloadN X1.here hx rfl (hb hby d15_11) rfl rfl k) ?_
  refine own_step (st' := T1.setTop (mkF m 13 #[.val (.ref x0), .val (.int x1), .val (.int x2)] [(.int x1), (.ref x0), (.ref b1), (.ref b1)])) (fun t k => XS.iloadN X1.here hx rfl (hb hby d15_12) rfl k) ?_
  refine own_step (st' := T1.setTop (mkF m 14 #[.val (.ref x0), .val (.int x1), .val (.int x2)] [(.int x1), (.int x1), (.ref x0), (.ref b1), (.ref b1)])) (fun t k => XS.iloadN X1.here hx rfl (hb hby d15_13) rfl k) ?_
  refine own_step (st' := T1.setTop (mkF m 15 #[.val (.ref x0), .val (.int x1), .val (.int x2)] [(.int x2), (.int x1), (.int x1), (.ref x0), (.ref b1), (.ref b1)])) (fun t k => XS.iloadN X1.here hx rfl (hb hby d15_14) rfl k) ?_
  refine own_step (st' := T1.setTop (mkF m 16 #[.val (.ref x0), .val (.int x1), .val (.int x2)] [(.int (x1 + x2)), (.int x1), (.ref x0), (.ref b1), (.ref b1)])) (fun t k => XS.iadd X1.here hx rfl (hb hby d15_15) rfl k) ?_
  obtain ⟨_, _, ⟨T8, L8, k8, n8⟩, -, X8, ⟨Lc8, hQ8, l8, y8, z8⟩, st8⟩ := Jvm.LawKit.callS X1 hx (y := (⟨"java/util/Arrays", "copyOfRange", "([BII)[B"⟩ : MethodName)) hown (mvT hZ (own_h hw 99 rfl)) (mvT hZ (own_h hw 100 rfl)) (mvT hZ (own_h hw 101 rfl)) (mvT hZ (own_h hw 102 rfl)) (by decide) (backOf (W := 2) (rm17 l Z a0 hw [] x0 x1 (x1 + x2) k n vs h1 n0 Z5 f3 ⟨hbb.1, by omega, by omega, hbb.2.2.2⟩ (fun q z => p_2 q (by have h1 := congrArg Int32.toInt q; have h2 := congrArg Int32.toInt z; rw [own_z] at h1; exact Int32.toInt_inj.mp (by omega)))) hZ (own_h hw 102 rfl) (own_h hw 101 rfl) (by decide) (by decide)) (g := (mkF m 16 #[.val (.ref x0), .val (.int x1), .val (.int x2)] [(.int (x1 + x2)), (.int x1), (.ref x0), (.ref b1), (.ref b1)])) rfl (by rw [hml]; rfl) (argsL := [(.ref x0), (.int x1), (.int (x1 + x2))]) (rest := [(.ref b1), (.ref b1)]) (lenOf pd_16 rfl) rfl (by show 2 * 0 + _ ≤ _; exact Nat.le_of_eq rfl) (hb hby d15_16) (fun _ _ => ⟨rfl, e1, (by decide : 1 + 1 ≤ _), (by decide : 4 + 4 ≤ _)⟩)
  dsimp only [Pt.U, Pt.locs, Pt.cells, Pt.slots] at X8 l8 y8 z8 st8 hQ8
  subst y8 z8
  obtain ⟨b_8, kb_8, vd_8, rfl, N8q, K8, pq8_0, pq8_1, pq8_2⟩ := hQ8
  have N8 := Fr.app N0 N8q
  rw [← l8] at N8
  clear l8
  obtain ⟨h8, e8⟩ : ∃ z, T8.heap = z := ⟨_, rfl⟩
  rw [e8] at K8 pq8_1
  have ne9 : x0 ≠ b_8 := Nat.ne_of_lt (Nat.lt_of_lt_of_le f3.lt pq8_0)
  have ne10 : b1 ≠ b_8 := Nat.ne_of_lt (Nat.lt_of_lt_of_le A1.lt pq8_0)
  have g_b_8 : n0 ≤ b_8 := Nat.le_trans Z5 pq8_0
  have sz_b_8 : h0.size ≤ b_8 := Nat.le_trans K4.1 pq8_0
  have f11 := f3.keep K8 nin0
  have f12 := A1.keep K8
  have f13 := f6.keep K8 nin0
  have f14 := f7.keep K8 nin0
  have K15 : Keep h0 h8 [] := K4.trans K8 all0
  have Z16 : n0 ≤ h8.size := Nat.le_trans Z5 K8.1
  refine own_step (st' := T8.setTop (mkF m 19 #[.val (.ref x0), .val (.int x1), .val (.int x2)] [(.ref b_8), (.ref b1), (.ref b1)])) st8 ?_
  refine own_step (st' := T8.setTop (mkF m 20 #[.val (.ref x0), .val (.int x1), .val (.int x2)] [(.int (0 : Int32)), (.ref b_8), (.ref b1), (.ref b1)])) (fun t k => XS.iconst X8.here hx rfl (hb hby d15_19) k) ?_
  obtain ⟨_, _, ⟨T17, L17, k17, n17⟩, -, X17, ⟨Lc17, hQ17, l17, y17, z17⟩, st17⟩ := X8.specialBack hx (y := (⟨"java/lang/String", "<init>", "([BB)V"⟩ : MethodName)) rfl hown (mvT hZ (own_h hw 117 rfl)) (mvT hZ (own_h hw 118 rfl)) (mvT hZ (own_h hw 119 rfl)) (by decide) (backOf (W := 1) (rm21 l Z a0 hw [] b1 b_8 (0 : Int32) h8 n0 Z16 f13 f14 f12 g_b1 rfl) hZ (own_h hw 119 rfl) (own_h hw 3 rfl) (by decide) (by decide)) (g := (mkF m 20 #[.val (.ref x0), .val (.int x1), .val (.int x2)] [(.int (0 : Int32)), (.ref b_8), (.ref b1), (.ref b1)])) rfl (by rw [hml]; rfl) (Steps.refl _) (a := b1) (argsL := [(.ref b_8), (.int (0 : Int32))]) (rest := [(.ref b1)]) (lenOf pd_20 rfl) rfl (by show 2 * 0 + _ ≤ _; exact Nat.le_of_eq rfl) (hb hby d15_20) (fun _ _ => ⟨rfl, e8, (by decide : 2 + 0 ≤ _), (by decide : 8 + 0 ≤ _)⟩)
  dsimp only [Pt.U, Pt.locs, Pt.cells, Pt.slots] at X17 l17 y17 z17 st17 hQ17
  subst y17 z17
  obtain ⟨rfl, N17q, K17, pq17_0, pq17_1⟩ := hQ17
  have N17 := Fr.app N8 N17q
  rw [← l17] at N17
  clear l17
  obtain ⟨h17, e17⟩ : ∃ z, T17.heap = z := ⟨_, rfl⟩
  rw [e17] at K17 pq17_0 pq17_1
  have f18 := f11.keep K17 (ninS ne2 nin0)
  have f19 := f12.keep K17
  have f20 := pq8_1.keep K17 (ninS (Ne.symm ne10) nin0)
  have K21 : Keep h0 h17 [] := K15.trans K17 (allS (Or.inr sz_b1) all0)
  have Z22 : n0 ≤ h17.size := Nat.le_trans Z16 K17.1
  refine own_step (st' := T17.setTop (mkF m 23 #[.val (.ref x0), .val (.int x1), .val (.int x2)] [(.ref b1)])) (fun t k => st17.trans k) ?_
  refine own_ret X17 Bd.notSynchronized (some (.ref b1)) (fun h => by rw [Bd.returns] at h; cases h) (fun fs hr => retOut X17 hx Bd.returns rfl (Or.inr (Or.inr (Or.inr (Or.inr ⟨rfl, rfl, rfl⟩)))) (hb hby d15_23) hr) ?_ (by decide) (by decide)
  rw [e17]
  exact ⟨b1, b_8, kb_8, vd_8, rfl, N17, K21, sz_b1, sz_b_8, ne10, f19, pq17_0, pq17_1, f20, pq8_2⟩
theorem d15_4 : decode jdk_43_method_47_code 4 = .ok (.ldc 151, 2) := by decide +kernel
theorem d15_6 : decode jdk_43_method_47_code 6 = .ok (.areturn, 1) := by decide +kernel
def Q_rmN0 (Z : State) (x0 : Addr) (x1 : Int32) (x2 : Int32) (h0 : Heap) (n0 : Nat) (v : Option Value) (h : Heap) (L : List Loc) : Prop := ∃ r : Addr, ∃ b : Addr, ∃ kb : ClassId, v = some (.ref r) ∧ Fr n0 L ∧ Keep h0 h [] ∧ Exa Z h r "java/lang/String" ∧ Fld Z h r "java/lang/String" "coder" "B" (.int (0 : Int32)) ∧ Fld Z h r "java/lang/String" "value" "[B" (.ref b) ∧ Arv Z h b kb .byte (0 : Int32) [] (.int (0 : Int32))
set_option maxRecDepth 65536 in
set_option maxHeartbeats 40000000 in
theorem rmN0 (l : Launch) (Z : State) (a0 : Array Value) (hw : ∀ d ∈ tables_1, d.before a0 Z = true) (ws : List Jvm.Cond) (x0 : Addr) (x1 : Int32) (x2 : Int32) (h0 : Heap) (n0 : Nat) (Z0 : n0 ≤ h0.size) (O0 : Old Z n0 h0) (p_0 : x2 = (0 : Int32)) (p_1 : CHv Z own_EL Z.vm Z.heap) :
    MetFree l (⟨"java/lang/StringLatin1", "newString", "([BII)Ljava/lang/String;"⟩ : MethodName) (head1 (Jvm.Cond.code (⟨"java/lang/StringLatin1", "newString", "([BII)Ljava/lang/String;"⟩ : MethodName) jdk_43_method_47_code 3 (some (.object "java/lang/String")) :: ws) ({ frames := 0, cells := 2, slots := 4, locals := 0 } : Room)) (fun a U => a = #[(.ref x0), (.int x1), (.int x2)] ∧ Z.WarmedH U.vm ∧ U.heap = h0) (fun _ _ _ _ _ => True) (fun _ U o U' => ∃ v L, o = .returned v ∧ Q_rmN0 Z x0 x1 x2 h0 n0 v U'.heap L ∧ ReturnedEndW U o U' L ({ frames := 0, cells := 2, slots := 4, locals := 0 } : Room).cells ({ frames := 0, cells := 2, slots := 4, locals := 0 } : Room).slots) := by
  refine MetFree.of_bodySF (plainFor_of_name pn_5) hisR ?_
  intro p e s m args below meth c s₁ Bd hml0 hP hK
  obtain ⟨rfl, hZH, hh⟩ := hP
  have hZ := hZH.wide
  have hx := Bd.exec
  have hby := Bd.bytes
  have hml : c.maxLocals = 3 := hml0
  have hown : s.vm.findClass "java/lang/StringLatin1" = some m.cls := findClass_of_methodNamed Bd.named
  have hnm := (name_of_methodNamed Bd.named Bd.method).1
  have X0 : Stand p l e ({ frames := 0, cells := 2, slots := 4, locals := 0 } : Room) s m #[(.ref x0), (.int x1), (.int x2)] below meth c s₁ [] 0 0 := Stand.of_body Bd
  have e0 : s₁.heap = h0 := by rw [← hh, Bd.state]; rfl
  have N0 := Fr.nil n0
  show own_EndsW p e below s ({ frames := 0, cells := 2, slots := 4, locals := 0 } : Room).cells ({ frames := 0, cells := 2, slots := 4, locals := 0 } : Room).slots (Q_rmN0 Z x0 x1 x2 h0 n0) (s₁.setTop (entryFrame m #[(.ref x0), (.int x1), (.int x2)] 3))
  rw [ef_15_RII]
  subst p_0
  refine own_stepW (st' := s₁.setTop (mkF m 1 #[.val (.ref x0), .val (.int x1), .val (.int (0 : Int32))] [(.int (0 : Int32))])) (fun t k => XS.iloadN X0.here hx rfl (hb hby d15_0) rfl k) ?_
  refine own_stepW (st' := s₁.setTop (mkF m 4 #[.val (.ref x0), .val (.int x1), .val (.int (0 : Int32))] [])) (fun t k => XS.ifNo X0.here hx rfl (hb hby d15_1) rfl ((if0 _ _).trans (teq (by decide)).2) k) ?_
  obtain ⟨a1, T1, h1, k11, b1, kk1, X1, e1, E1, hS1, hk1, hZ1, hown1, Ex1, Fc1, Fv1, V1, -, -, -, -, -, st1⟩ := ldcCH (vm0 := s.vm) X0 hx hZ hown (own_h hw 90 rfl) (own_wS hw) e0 ((State.WarmedH.refl s).since 0) (Nat.zero_le _) (own_EW hw) (List.mem_singleton.mpr rfl) (own_held p_1 hZH (own_EW hw) O0.2) (vs := []) (z := (0 : Int32)) ⟨by decide, rfl⟩ (by decide) rfl (g := (mkF m 4 #[.val (.ref x0), .val (.int x1), .val (.int (0 : Int32))] [])) rfl (hb hby d15_4) (n := 0) (by decide) (by decide) (by decide) (by decide)
  have O2 := O0.ext E1
  have K3 : Keep h0 h1 [] := (Keep.refl h0 []).ext E1
  have Z4 : n0 ≤ h1.size := Nat.le_trans Z0 E1.1
  have hZ := hZ1
  have hown := hown1
  refine own_stepW (st' := T1.setTop (mkF m 6 #[.val (.ref x0), .val (.int x1), .val (.int (0 : Int32))] [(.ref a1)])) st1 ?_
  refine own_retW X1 hS1 (by rw [e1]; exact hk1) Bd.notSynchronized (some (.ref a1)) (fun h => by rw [Bd.returns] at h; cases h) (fun fs hr => retOut X1 hx Bd.returns rfl (Or.inr (Or.inr (Or.inr (Or.inr ⟨rfl, rfl, rfl⟩)))) (hb hby d15_6) hr) ?_ (by decide) (by decide)
  rw [e1]
  exact ⟨a1, b1, kk1, rfl, N0, K3, Ex1, Fc1, Fv1, V1⟩
theorem d9_0 : decode jdk_42_method_92_code 0 = .ok (.aload_n 0, 1) := by decide +kernel
theorem d9_1 : decode jdk_42_method_92_code 1 = .ok (.invokevirtual 505, 3) := by decide +kernel
theorem d9_4 : decode jdk_42_method_92_code 4 = .ok (.istore_n 3, 1) := by decide +kernel
theorem d9_5 : decode jdk_42_method_92_code 5 = .ok (.iload_n 1, 1) := by decide +kernel
theorem d9_6 : decode jdk_42_method_92_code 6 = .ok (.iload_n 2, 1) := by decide +kernel
theorem d9_7 : decode jdk_42_method_92_code 7 = .ok (.iload_n 3, 1) := by decide +kernel
theorem d9_8 : decode jdk_42_method_92_code 8 = .ok (.invokestatic 521, 3) := by decide +kernel
theorem d9_11 : decode jdk_42_method_92_code 11 = .ok (.iload_n 1, 1) := by decide +kernel
theorem d9_12 : decode jdk_42_method_92_code 12 = .ok (.ifCond .ne 10, 3) := by decide +kernel
theorem d9_15 : decode jdk_42_method_92_code 15 = .ok (.iload_n 2, 1) := by decide +kernel
theorem d9_16 : decode jdk_42_method_92_code 16 = .ok (.iload_n 3, 1) := by decide +kernel
theorem d9_17 : decode jdk_42_method_92_code 17 = .ok (.if_icmp .ne 5, 3) := by decide +kernel
theorem d9_20 : decode jdk_42_method_92_code 20 = .ok (.aload_n 0, 1) := by decide +kernel
theorem d9_21 : decode jdk_42_method_92_code 21 = .ok (.areturn, 1) := by decide +kernel
theorem ef_9_RII (m : MethodId) (x0 : Addr) (x1 : Int32) (x2 : Int32) : entryFrame m #[(.ref x0), (.int x1), (.int x2)] 5 = mkF m 0 #[.val (.ref x0), .val (.int x1), .val (.int x2), .unset, .unset] [] := by first | (simp [entryFrame, mkF, argsToLocals, Value.category]; done) | rfl
def Q_rmSW (Z : State) (x0 : Addr) (x1 : Int32) (x2 : Int32) (bv : Addr) (kv : ClassId) (vs : List Value) (cs : Int32) (fm : Value) (h0 : Heap) (n0 : Nat) (v : Option Value) (h : Heap) (L : List Loc) : Prop := v = some (.ref x0) ∧ Fr n0 L ∧ h = h0
set_option maxRecDepth 65536 in
set_option maxHeartbeats 40000000 in
theorem rmSW (l : Launch) (Z : State) (a0 : Array Value) (hw : ∀ d ∈ tables_1, d.before a0 Z = true) (ws : List Jvm.Cond) (x0 : Addr) (x1 : Int32) (x2 : Int32) (bv : Addr) (kv : ClassId) (vs : List Value) (cs : Int32) (fm : Value) (h0 : Heap) (n0 : Nat) (Z0 : n0 ≤ h0.size) (O0 : Old Z n0 h0) (p_0 : Exa Z h0 x0 "java/lang/String") (p_1 : Fld Z h0 x0 "java/lang/String" "coder" "B" (.int (0 : Int32))) (p_2 : Fld Z h0 x0 "java/lang/String" "value" "[B" (.ref bv)) (p_3 : Arv Z h0 bv kv .byte (4 : Int32) vs (.int (0 : Int32))) (p_4 : Sta Z Z.heap "java/lang/String" "COMPACT_STRINGS" "Z" (.int cs)) (p_5 : ¬ cs = (0 : Int32)) (p_6 : Sta Z Z.heap "jdk/internal/util/Preconditions" "SIOOBE_FORMATTER" "Ljava/util/function/BiFunction;" fm) (p_7 : fm.isRef = true) (p_8 : x1 = (0 : Int32)) (p_9 : x2 = (4 : Int32)) :
    MetFree l (⟨"java/lang/String", "substring", "(II)Ljava/lang/String;"⟩ : MethodName) (head1 (Jvm.Cond.code (⟨"java/lang/String", "substring", "(II)Ljava/lang/String;"⟩ : MethodName) jdk_42_method_92_code 5 (some (.object "java/lang/String")) :: ws) ({ frames := 2, cells := 0, slots := 0, locals := 29 } : Room)) (fun a U => a = #[(.ref x0), (.int x1), (.int x2)] ∧ Z.Warmed39 U.vm ∧ U.heap = h0) (fun _ _ _ _ _ => True) (fun _ U o U' => ∃ v L, o = .returned v ∧ Q_rmSW Z x0 x1 x2 bv kv vs cs fm h0 n0 v U'.heap L ∧ FrameEnd U o U' L ({ frames := 2, cells := 0, slots := 0, locals := 29 } : Room).cells ({ frames := 2, cells := 0, slots := 0, locals := 29 } : Room).slots) := by
  refine MetFree.of_bodySF (plainFor_of_name pn_4) hisR ?_
  intro p e s m args below meth c s₁ Bd hml0 hP hK
  obtain ⟨rfl, hZ, hh⟩ := hP
  have hx := Bd.exec
  have hby := Bd.bytes
  have hml : c.maxLocals = 5 := hml0
  have hown : s.vm.findClass "java/lang/String" = some m.cls := findClass_of_methodNamed Bd.named
  have hnm := (name_of_methodNamed Bd.named Bd.method).1
  have X0 : Stand p l e ({ frames := 2, cells := 0, slots := 0, locals := 29 } : Room) s m #[(.ref x0), (.int x1), (.int x2)] below meth c s₁ [] 0 0 := Stand.of_body Bd
  have e0 : s₁.heap = h0 := by rw [← hh, Bd.state]; rfl
  have N0 := Fr.nil n0
  show own_Ends p e below s ({ frames := 2, cells := 0, slots := 0, locals := 29 } : Room).cells ({ frames := 2, cells := 0, slots := 0, locals := 29 } : Room).slots (Q_rmSW Z x0 x1 x2 bv kv vs cs fm h0 n0) (s₁.setTop (entryFrame m #[(.ref x0), (.int x1), (.int x2)] 5))
  rw [ef_9_RII]
  have h4 : (4 : Int32).toInt = 4 := by decide
  subst p_8
  subst p_9
  refine own_step (st' := s₁.setTop (mkF m 1 #[.val (.ref x0), .val (.int (0 : Int32)), .val (.int (4 : Int32)), .unset, .unset] [(.ref x0)])) (fun t k => XS.aloadN X0.here hx rfl (hb hby d9_0) rfl rfl k) ?_
  obtain ⟨cq1, kq1, q1a, q1b, q1c⟩ := isOf hZ e0 p_0
  obtain ⟨_, _, ⟨T1, L1, k1, n1⟩, -, X1, ⟨Lc1, hQ1, l1, y1, z1⟩, st1⟩ := X0.virtualBack hx (y := (⟨"java/lang/String", "length", "()I"⟩ : MethodName)) (z := (⟨"java/lang/String", "length", "()I"⟩ : MethodName)) hown (mvT hZ (own_h hw 63 rfl)) (mvT hZ (own_h hw 64 rfl)) (notFace_of_selects (args := #[]) (mvT hZ (own_h hw 66 rfl))) (mvT hZ (own_h hw 66 rfl)) (mvT hZ (own_h hw 65 rfl)) (by decide) (backOf (W := 0) (rm10 l Z a0 hw [] x0 bv kv (4 : Int32) vs cs h0 n0 Z0 O0 p_0 p_1 p_2 p_3 p_4 p_5) hZ (own_h hw 67 rfl) (own_h hw 3 rfl) (by decide) (by decide)) q1a q1c (g := (mkF m 1 #[.val (.ref x0), .val (.int (0 : Int32)), .val (.int (4 : Int32)), .unset, .unset] [(.ref x0)])) rfl (by rw [hml]; rfl) (Steps.refl _) (argsL := []) (rest := []) (lenOf pd_9 rfl) rfl (by show 2 * 0 + _ ≤ _; exact Nat.le_of_eq rfl) (hb hby d9_1) (fun _ _ => ⟨rfl, e0, (by decide : 0 + 0 ≤ _), (by decide : 0 + 0 ≤ _)⟩)
  dsimp only [Pt.U, Pt.locs, Pt.cells, Pt.slots] at X1 l1 y1 z1 st1 hQ1
  subst y1 z1
  obtain ⟨rfl, N1q, e1⟩ := hQ1
  have N1 := Fr.app N0 N1q
  rw [← l1] at N1
  clear l1
  refine own_step (st' := T1.setTop (mkF m 4 #[.val (.ref x0), .val (.int (0 : Int32)), .val (.int (4 : Int32)), .unset, .unset] [(.int (4 : Int32))])) (fun t k => st1.trans k) ?_
  refine own_step (st' := T1.setTop (mkF m 5 #[.val (.ref x0), .val (.int (0 : Int32)), .val (.int (4 : Int32)), .val (.int (4 : Int32)), .unset] [])) (fun t k => XS.istoreN X1.here hx rfl (hb hby d9_4) rfl (l' := #[.val (.ref x0), .val (.int (0 : Int32)), .val (.int (4 : Int32)), .val (.int (4 : Int32)), .unset]) rfl k) ?_
  refine own_step (st' := T1.setTop (mkF m 6 #[.val (.ref x0), .val (.int (0 : Int32)), .val (.int (4 : Int32)), .val (.int (4 : Int32)), .unset] [(.int (0 : Int32))])) (fun t k => XS.iloadN X1.here hx rfl (hb hby d9_5) rfl k) ?_
  refine own_step (st' := T1.setTop (mkF m 7 #[.val (.ref x0), .val (.int (0 : Int32)), .val (.int (4 : Int32)), .val (.int (4 : Int32)), .unset] [(.int (4 : Int32)), (.int (0 : Int32))])) (fun t k => XS.iloadN X1.here hx rfl (hb hby d9_6) rfl k) ?_
  refine own_step (st' := T1.setTop (mkF m 8 #[.val (.ref x0), .val (.int (0 : Int32)), .val (.int (4 : Int32)), .val (.int (4 : Int32)), .unset] [(.int (4 : Int32)), (.int (4 : Int32)), (.int (0 : Int32))])) (fun t k => XS.iloadN X1.here hx rfl (hb hby d9_7) rfl k) ?_
  obtain ⟨_, _, ⟨T2, L2, k2, n2⟩, -, X2, ⟨Lc2, hQ2, l2, y2, z2⟩, st2⟩ := Jvm.LawKit.callS X1 hx (y := (⟨"java/lang/String", "checkBoundsBeginEnd", "(III)V"⟩ : MethodName)) hown (mvT hZ (own_h hw 73 rfl)) (mvT hZ (own_h hw 74 rfl)) (mvT hZ (own_h hw 3 rfl)) (mvT hZ (own_h hw 75 rfl)) (by decide) (backOf (W := 0) (rm12 l Z a0 hw [] (0 : Int32) (4 : Int32) (4 : Int32) fm h0 n0 Z0 O0 p_6 p_7 (by decide) (by decide) (by decide)) hZ (own_h hw 75 rfl) (own_h hw 3 rfl) (by decide) (by decide)) (g := (mkF m 8 #[.val (.ref x0), .val (.int (0 : Int32)), .val (.int (4 : Int32)), .val (.int (4 : Int32)), .unset] [(.int (4 : Int32)), (.int (4 : Int32)), (.int (0 : Int32))])) rfl (by rw [hml]; rfl) (argsL := [(.int (0 : Int32)), (.int (4 : Int32)), (.int (4 : Int32))]) (rest := []) (lenOf pd_11 rfl) rfl (by show 2 * 0 + _ ≤ _; exact Nat.le_of_eq rfl) (hb hby d9_8) (fun _ _ => ⟨rfl, e1, (by decide : 0 + 0 ≤ _), (by decide : 0 + 0 ≤ _)⟩)
  dsimp only [Pt.U, Pt.locs, Pt.cells, Pt.slots] at X2 l2 y2 z2 st2 hQ2
  subst y2 z2
  obtain ⟨rfl, N2q, e2⟩ := hQ2
  have N2 := Fr.app N1 N2q
  rw [← l2] at N2
  clear l2
  refine own_step (st' := T2.setTop (mkF m 11 #[.val (.ref x0), .val (.int (0 : Int32)), .val (.int (4 : Int32)), .val (.int (4 : Int32)), .unset] [])) st2 ?_
  refine own_step (st' := T2.setTop (mkF m 12 #[.val (.ref x0), .val (.int (0 : Int32)), .val (.int (4 : Int32)), .val (.int (4 : Int32)), .unset] [(.int (0 : Int32))])) (fun t k => XS.iloadN X2.here hx rfl (hb hby d9_11) rfl k) ?_
  refine own_step (st' := T2.setTop (mkF m 15 #[.val (.ref x0), .val (.int (0 : Int32)), .val (.int (4 : Int32)), .val (.int (4 : Int32)), .unset] [])) (fun t k => XS.ifNo X2.here hx rfl (hb hby d9_12) rfl ((if0 _ _).trans (teq (by decide)).2) k) ?_
  refine own_step (st' := T2.setTop (mkF m 16 #[.val (.ref x0), .val (.int (0 : Int32)), .val (.int (4 : Int32)), .val (.int (4 : Int32)), .unset] [(.int (4 : Int32))])) (fun t k => XS.iloadN X2.here hx rfl (hb hby d9_15) rfl k) ?_
  refine own_step (st' := T2.setTop (mkF m 17 #[.val (.ref x0), .val (.int (0 : Int32)), .val (.int (4 : Int32)), .val (.int (4 : Int32)), .unset] [(.int (4 : Int32)), (.int (4 : Int32))])) (fun t k => XS.iloadN X2.here hx rfl (hb hby d9_16) rfl k) ?_
  refine own_step (st' := T2.setTop (mkF m 20 #[.val (.ref x0), .val (.int (0 : Int32)), .val (.int (4 : Int32)), .val (.int (4 : Int32)), .unset] [])) (fun t k => XS.icmpNo X2.here hx rfl (hb hby d9_17) rfl (teq (by decide)).2 k) ?_
  refine own_step (st' := T2.setTop (mkF m 21 #[.val (.ref x0), .val (.int (0 : Int32)), .val (.int (4 : Int32)), .val (.int (4 : Int32)), .unset] [(.ref x0)])) (fun t k => XS.aloadN X2.here hx rfl (hb hby d9_20) rfl rfl k) ?_
  refine own_ret X2 Bd.notSynchronized (some (.ref x0)) (fun h => by rw [Bd.returns] at h; cases h) (fun fs hr => retOut X2 hx Bd.returns rfl (Or.inr (Or.inr (Or.inr (Or.inr ⟨rfl, rfl, rfl⟩)))) (hb hby d9_21) hr) ?_ (by decide) (by decide)
  rw [e2]
  exact ⟨rfl, N2, rfl⟩
theorem d9_22 : decode jdk_42_method_92_code 22 = .ok (.iload_n 2, 1) := by decide +kernel
theorem d9_23 : decode jdk_42_method_92_code 23 = .ok (.iload_n 1, 1) := by decide +kernel
theorem d9_24 : decode jdk_42_method_92_code 24 = .ok (.isub, 1) := by decide +kernel
theorem d9_25 : decode jdk_42_method_92_code 25 = .ok (.istore 4, 2) := by decide +kernel
theorem d9_27 : decode jdk_42_method_92_code 27 = .ok (.aload_n 0, 1) := by decide +kernel
theorem d9_28 : decode jdk_42_method_92_code 28 = .ok (.invokevirtual 492, 3) := by decide +kernel
theorem d9_31 : decode jdk_42_method_92_code 31 = .ok (.ifCond .eq 16, 3) := by decide +kernel
theorem d9_34 : decode jdk_42_method_92_code 34 = .ok (.aload_n 0, 1) := by decide +kernel
theorem d9_35 : decode jdk_42_method_92_code 35 = .ok (.getfield 9, 3) := by decide +kernel
theorem d9_38 : decode jdk_42_method_92_code 38 = .ok (.iload_n 1, 1) := by decide +kernel
theorem d9_39 : decode jdk_42_method_92_code 39 = .ok (.iload 4, 2) := by decide +kernel
theorem d9_41 : decode jdk_42_method_92_code 41 = .ok (.invokestatic 685, 3) := by decide +kernel
theorem d9_44 : decode jdk_42_method_92_code 44 = .ok (.goto 13, 3) := by decide +kernel
theorem d9_57 : decode jdk_42_method_92_code 57 = .ok (.areturn, 1) := by decide +kernel
def Q_rmSS (Z : State) (x0 : Addr) (x1 : Int32) (x2 : Int32) (bv : Addr) (kv : ClassId) (vs : List Value) (cs : Int32) (fm : Value) (h0 : Heap) (n0 : Nat) (v : Option Value) (h : Heap) (L : List Loc) : Prop := ∃ r : Addr, ∃ b : Addr, ∃ kb : ClassId, ∃ vd : List Value, v = some (.ref r) ∧ Fr n0 L ∧ Keep h0 h [] ∧ h0.size ≤ r ∧ h0.size ≤ b ∧ r ≠ b ∧ Exa Z h r "java/lang/String" ∧ Fld Z h r "java/lang/String" "coder" "B" (.int (0 : Int32)) ∧ Fld Z h r "java/lang/String" "value" "[B" (.ref b) ∧ Arv Z h b kb .byte ((x1 + (x2 - x1)) - x1) vd (.int (0 : Int32)) ∧ ∀ i : Nat, vd.getD i (.int (0 : Int32)) = if i < ((x1 + (x2 - x1)) - x1).toNatClampNeg then vs.getD (x1.toNatClampNeg + i) (.int (0 : Int32)) else (.int (0 : Int32))
set_option maxRecDepth 65536 in
set_option maxHeartbeats 40000000 in
theorem rmSS (l : Launch) (Z : State) (a0 : Array Value) (hw : ∀ d ∈ tables_1, d.before a0 Z = true) (ws : List Jvm.Cond) (x0 : Addr) (x1 : Int32) (x2 : Int32) (bv : Addr) (kv : ClassId) (vs : List Value) (cs : Int32) (fm : Value) (h0 : Heap) (n0 : Nat) (Z0 : n0 ≤ h0.size) (O0 : Old Z n0 h0) (p_0 : Exa Z h0 x0 "java/lang/String") (p_1 : Fld Z h0 x0 "java/lang/String" "coder" "B" (.int (0 : Int32))) (p_2 : Fld Z h0 x0 "java/lang/String" "value" "[B" (.ref bv)) (p_3 : Arv Z h0 bv kv .byte (4 : Int32) vs (.int (0 : Int32))) (p_4 : Sta Z Z.heap "java/lang/String" "COMPACT_STRINGS" "Z" (.int cs)) (p_5 : ¬ cs = (0 : Int32)) (p_6 : Sta Z Z.heap "jdk/internal/util/Preconditions" "SIOOBE_FORMATTER" "Ljava/util/function/BiFunction;" fm) (p_7 : fm.isRef = true) (p_8 : 0 ≤ x1.toInt ∧ x1.toInt < x2.toInt ∧ x2.toInt ≤ 4) (p_9 : x1 = (0 : Int32) → ¬ x2 = (4 : Int32)) :
    MetFree l (⟨"java/lang/String", "substring", "(II)Ljava/lang/String;"⟩ : MethodName) (head1 (Jvm.Cond.code (⟨"java/lang/String", "substring", "(II)Ljava/lang/String;"⟩ : MethodName) jdk_42_method_92_code 5 (some (.object "java/lang/String")) :: ws) ({ frames := 4, cells := 2, slots := 8, locals := 64 } : Room)) (fun a U => a = #[(.ref x0), (.int x1), (.int x2)] ∧ Z.Warmed39 U.vm ∧ U.heap = h0) (fun _ _ _ _ _ => True) (fun _ U o U' => ∃ v L, o = .returned v ∧ Q_rmSS Z x0 x1 x2 bv kv vs cs fm h0 n0 v U'.heap L ∧ FrameEnd U o U' L ({ frames := 4, cells := 2, slots := 8, locals := 64 } : Room).cells ({ frames := 4, cells := 2, slots := 8, locals := 64 } : Room).slots) := by
  refine MetFree.of_bodySF (plainFor_of_name pn_4) hisR ?_
  intro p e s m args below meth c s₁ Bd hml0 hP hK
  obtain ⟨rfl, hZ, hh⟩ := hP
  have hx := Bd.exec
  have hby := Bd.bytes
  have hml : c.maxLocals = 5 := hml0
  have hown : s.vm.findClass "java/lang/String" = some m.cls := findClass_of_methodNamed Bd.named
  have hnm := (name_of_methodNamed Bd.named Bd.method).1
  have X0 : Stand p l e ({ frames := 4, cells := 2, slots := 8, locals := 64 } : Room) s m #[(.ref x0), (.int x1), (.int x2)] below meth c s₁ [] 0 0 := Stand.of_body Bd
  have e0 : s₁.heap = h0 := by rw [← hh, Bd.state]; rfl
  have N0 := Fr.nil n0
  show own_Ends p e below s ({ frames := 4, cells := 2, slots := 8, locals := 64 } : Room).cells ({ frames := 4, cells := 2, slots := 8, locals := 64 } : Room).slots (Q_rmSS Z x0 x1 x2 bv kv vs cs fm h0 n0) (s₁.setTop (entryFrame m #[(.ref x0), (.int x1), (.int x2)] 5))
  rw [ef_9_RII]
  have h4 : (4 : Int32).toInt = 4 := by decide
  have hbb := p_8
  have hsb := own_sub (x := x2) (y := x1) (by omega) (by omega)
  refine own_step (st' := s₁.setTop (mkF m 1 #[.val (.ref x0), .val (.int x1), .val (.int x2), .unset, .unset] [(.ref x0)])) (fun t k => XS.aloadN X0.here hx rfl (hb hby d9_0) rfl rfl k) ?_
  obtain ⟨cq1, kq1, q1a, q1b, q1c⟩ := isOf hZ e0 p_0
  obtain ⟨_, _, ⟨T1, L1, k1, n1⟩, -, X1, ⟨Lc1, hQ1, l1, y1, z1⟩, st1⟩ := X0.virtualBack hx (y := (⟨"java/lang/String", "length", "()I"⟩ : MethodName)) (z := (⟨"java/lang/String", "length", "()I"⟩ : MethodName)) hown (mvT hZ (own_h hw 63 rfl)) (mvT hZ (own_h hw 64 rfl)) (notFace_of_selects (args := #[]) (mvT hZ (own_h hw 66 rfl))) (mvT hZ (own_h hw 66 rfl)) (mvT hZ (own_h hw 65 rfl)) (by decide) (backOf (W := 0) (rm10 l Z a0 hw [] x0 bv kv (4 : Int32) vs cs h0 n0 Z0 O0 p_0 p_1 p_2 p_3 p_4 p_5) hZ (own_h hw 67 rfl) (own_h hw 3 rfl) (by decide) (by decide)) q1a q1c (g := (mkF m 1 #[.val (.ref x0), .val (.int x1), .val (.int x2), .unset, .unset] [(.ref x0)])) rfl (by rw [hml]; rfl) (Steps.refl _) (argsL := []) (rest := []) (lenOf pd_9 rfl) rfl (by show 2 * 0 + _ ≤ _; exact Nat.le_of_eq rfl) (hb hby d9_1) (fun _ _ => ⟨rfl, e0, (by decide : 0 + 0 ≤ _), (by decide : 0 + 0 ≤ _)⟩)
  dsimp only [Pt.U, Pt.locs, Pt.cells, Pt.slots] at X1 l1 y1 z1 st1 hQ1
  subst y1 z1
  obtain ⟨rfl, N1q, e1⟩ := hQ1
  have N1 := Fr.app N0 N1q
  rw [← l1] at N1
  clear l1
  refine own_step (st' := T1.setTop (mkF m 4 #[.val (.ref x0), .val (.int x1), .val (.int x2), .unset, .unset] [(.int (4 : Int32))])) (fun t k => st1.trans k) ?_
  refine own_step (st' := T1.setTop (mkF m 5 #[.val (.ref x0), .val (.int x1), .val (.int x2), .val (.int (4 : Int32)), .unset] [])) (fun t k => XS.istoreN X1.here hx rfl (hb hby d9_4) rfl (l' := #[.val (.ref x0), .val (.int x1), .val (.int x2), .val (.int (4 : Int32)), .unset]) rfl k) ?_
  refine own_step (st' := T1.setTop (mkF m 6 #[.val (.ref x0), .val (.int x1), .val (.int x2), .val (.int (4 : Int32)), .unset] [(.int x1)])) (fun t k => XS.iloadN X1.here hx rfl (hb hby d9_5) rfl k) ?_
  refine own_step (st' := T1.setTop (mkF m 7 #[.val (.ref x0), .val (.int x1), .val (.int x2), .val (.int (4 : Int32)), .unset] [(.int x2), (.int x1)])) (fun t k => XS.iloadN X1.here hx rfl (hb hby d9_6) rfl k) ?_
  refine own_step (st' := T1.setTop (mkF m 8 #[.val (.ref x0), .val (.int x1), .val (.int x2), .val (.int (4 : Int32)), .unset] [(.int (4 : Int32)), (.int x2), (.int x1)])) (fun t k => XS.iloadN X1.here hx rfl (hb hby d9_7) rfl k) ?_
  obtain ⟨_, _, ⟨T2, L2, k2, n2⟩, -, X2, ⟨Lc2, hQ2, l2, y2, z2⟩, st2⟩ := Jvm.LawKit.callS X1 hx (y := (⟨"java/lang/String", "checkBoundsBeginEnd", "(III)V"⟩ : MethodName)) hown (mvT hZ (own_h hw 73 rfl)) (mvT hZ (own_h hw 74 rfl)) (mvT hZ (own_h hw 3 rfl)) (mvT hZ (own_h hw 75 rfl)) (by decide) (backOf (W := 0) (rm12 l Z a0 hw [] x1 x2 (4 : Int32) fm h0 n0 Z0 O0 p_6 p_7 (own_ge (by rw [own_z]; omega)) (own_ge (by omega)) (own_ge (by rw [h4]; omega))) hZ (own_h hw 75 rfl) (own_h hw 3 rfl) (by decide) (by decide)) (g := (mkF m 8 #[.val (.ref x0), .val (.int x1), .val (.int x2), .val (.int (4 : Int32)), .unset] [(.int (4 : Int32)), (.int x2), (.int x1)])) rfl (by rw [hml]; rfl) (argsL := [(.int x1), (.int x2), (.int (4 : Int32))]) (rest := []) (lenOf pd_11 rfl) rfl (by show 2 * 0 + _ ≤ _; exact Nat.le_of_eq rfl) (hb hby d9_8) (fun _ _ => ⟨rfl, e1, (by decide : 0 + 0 ≤ _), (by decide : 0 + 0 ≤ _)⟩)
  dsimp only [Pt.U, Pt.locs, Pt.cells, Pt.slots] at X2 l2 y2 z2 st2 hQ2
  subst y2 z2
  obtain ⟨rfl, N2q, e2⟩ := hQ2
  have N2 := Fr.app N1 N2q
  rw [← l2] at N2
  clear l2
  refine own_step (st' := T2.setTop (mkF m 11 #[.val (.ref x0), .val (.int x1), .val (.int x2), .val (.int (4 : Int32)), .unset] [])) st2 ?_
  refine own_step (st' := T2.setTop (mkF m 12 #[.val (.ref x0), .val (.int x1), .val (.int x2), .val (.int (4 : Int32)), .unset] [(.int x1)])) (fun t k => XS.iloadN X2.here hx rfl (hb hby d9_11) rfl k) ?_
  by_cases hc3 : x1 = (0 : Int32)
  · refine own_step (st' := T2.setTop (mkF m 15 #[.val (.ref x0), .val (.int x1), .val (.int x2), .val (.int (4 : Int32)), .unset] [])) (fun t k => XS.ifNo X2.here hx rfl (hb hby d9_12) rfl ((if0 _ _).trans (teq hc3).2) k) ?_
    refine own_step (st' := T2.setTop (mkF m 16 #[.val (.ref x0), .val (.int x1), .val (.int x2), .val (.int (4 : Int32)), .unset] [(.int x2)])) (fun t k => XS.iloadN X2.here hx rfl (hb hby d9_15) rfl k) ?_
    refine own_step (st' := T2.setTop (mkF m 17 #[.val (.ref x0), .val (.int x1), .val (.int x2), .val (.int (4 : Int32)), .unset] [(.int (4 : Int32)), (.int x2)])) (fun t k => XS.iloadN X2.here hx rfl (hb hby d9_16) rfl k) ?_
    refine own_step (st' := T2.setTop (mkF m 22 #[.val (.ref x0), .val (.int x1), .val (.int x2), .val (.int (4 : Int32)), .unset] [])) (fun t k => XS.icmpYes X2.here hx rfl (pc0 := 17) (pc' := 22) rfl (hb hby d9_17) rfl (feq (p_9 hc3)).2 (by decide) (by decide) k) ?_
    refine own_step (st' := T2.setTop (mkF m 23 #[.val (.ref x0), .val (.int x1), .val (.int x2), .val (.int (4 : Int32)), .unset] [(.int x2)])) (fun t k => XS.iloadN X2.here hx rfl (hb hby d9_22) rfl k) ?_
    refine own_step (st' := T2.setTop (mkF m 24 #[.val (.ref x0), .val (.int x1), .val (.int x2), .val (.int (4 : Int32)), .unset] [(.int x1), (.int x2)])) (fun t k => XS.iloadN X2.here hx rfl (hb hby d9_23) rfl k) ?_
    refine own_step (st' := T2.setTop (mkF m 25 #[.val (.ref x0), .val (.int x1), .val (.int x2), .val (.int (4 : Int32)), .unset] [(.int (x2 - x1))])) (fun t k => XS.isub X2.here hx rfl (hb hby d9_24) rfl k) ?_
    refine own_step (st' := T2.setTop (mkF m 27 #[.val (.ref x0), .val (.int x1), .val (.int x2), .val (.int (4 : Int32)), .val (.int (x2 - x1))] [])) (fun t k => XS.istore X2.here hx rfl (hb hby d9_25) rfl (l' := #[.val (.ref x0), .val (.int x1), .val (.int x2), .val (.int (4 : Int32)), .val (.int (x2 - x1))]) rfl k) ?_
    refine own_step (st' := T2.setTop (mkF m 28 #[.val (.ref x0), .val (.int x1), .val (.int x2), .val (.int (4 : Int32)), .val (.int (x2 - x1))] [(.ref x0)])) (fun t k => XS.aloadN X2.here hx rfl (hb hby d9_27) rfl rfl k) ?_
    obtain ⟨cq4, kq4, q4a, q4b, q4c⟩ := isOf hZ e2 p_0
    obtain ⟨_, _, ⟨T4, L4, k4, n4⟩, -, X4, ⟨Lc4, hQ4, l4, y4, z4⟩, st4⟩ := X2.virtualBack hx (y := (⟨"java/lang/String", "isLatin1", "()Z"⟩ : MethodName)) (z := (⟨"java/lang/String", "isLatin1", "()Z"⟩ : MethodName)) hown (mvT hZ (own_h hw 81 rfl)) (mvT hZ (own_h hw 82 rfl)) (notFace_of_selects (args := #[]) (mvT hZ (own_h hw 84 rfl))) (mvT hZ (own_h hw 84 rfl)) (mvT hZ (own_h hw 83 rfl)) (by decide) (backOf (W := 0) (rm14 l Z a0 hw [] x0 cs h0 n0 Z0 O0 p_1 p_4 p_5) hZ (own_h hw 85 rfl) (own_h hw 3 rfl) (by decide) (by decide)) q4a q4c (g := (mkF m 28 #[.val (.ref x0), .val (.int x1), .val (.int x2), .val (.int (4 : Int32)), .val (.int (x2 - x1))] [(.ref x0)])) rfl (by rw [hml]; rfl) (Steps.refl _) (argsL := []) (rest := []) (lenOf pd_13 rfl) rfl (by show 2 * 0 + _ ≤ _; exact Nat.le_of_eq rfl) (hb hby d9_28) (fun _ _ => ⟨rfl, e2, (by decide : 0 + 0 ≤ _), (by decide : 0 + 0 ≤ _)⟩)
    dsimp only [Pt.U, Pt.locs, Pt.cells, Pt.slots] at X4 l4 y4 z4 st4 hQ4
    subst y4 z4
    obtain ⟨rfl, N4q, e4⟩ := hQ4
    have N4 := Fr.app N2 N4q
    rw [← l4] at N4
    clear l4
    refine own_step (st' := T4.setTop (mkF m 31 #[.val (.ref x0), .val (.int x1), .val (.int x2), .val (.int (4 : Int32)), .val (.int (x2 - x1))] [(.int (1 : Int32))])) (fun t k => st4.trans k) ?_
    refine own_step (st' := T4.setTop (mkF m 34 #[.val (.ref x0), .val (.int x1), .val (.int x2), .val (.int (4 : Int32)), .val (.int (x2 - x1))] [])) (fun t k => XS.ifNo X4.here hx rfl (hb hby d9_31) rfl ((if0 _ _).trans (feq (by decide)).1) k) ?_
    refine own_step (st' := T4.setTop (mkF m 35 #[.val (.ref x0), .val (.int x1), .val (.int x2), .val (.int (4 : Int32)), .val (.int (x2 - x1))] [(.ref x0)])) (fun t k => XS.aloadN X4.here hx rfl (hb hby d9_34) rfl rfl k) ?_
    obtain ⟨T5, X5, e5, st5⟩ := getF X4 hx hZ hown (host := "") (Or.inl (own_h hw 28 rfl)) Via.refl e4 p_2 (g := (mkF m 35 #[.val (.ref x0), .val (.int x1), .val (.int x2), .val (.int (4 : Int32)), .val (.int (x2 - x1))] [(.ref x0)])) rfl rfl (hb hby d9_35)
    refine own_step (st' := T5.setTop (mkF m 38 #[.val (.ref x0), .val (.int x1), .val (.int x2), .val (.int (4 : Int32)), .val (.int (x2 - x1))] [(.ref bv)])) st5 ?_
    refine own_step (st' := T5.setTop (mkF m 39 #[.val (.ref x0), .val (.int x1), .val (.int x2), .val (.int (4 : Int32)), .val (.int (x2 - x1))] [(.int x1), (.ref bv)])) (fun t k => XS.iloadN X5.here hx rfl (hb hby d9_38) rfl k) ?_
    refine own_step (st' := T5.setTop (mkF m 41 #[.val (.ref x0), .val (.int x1), .val (.int x2), .val (.int (4 : Int32)), .val (.int (x2 - x1))] [(.int (x2 - x1)), (.int x1), (.ref bv)])) (fun t k => XS.iload X5.here hx rfl (hb hby d9_39) rfl k) ?_
    obtain ⟨_, _, ⟨T6, L6, k6, n6⟩, -, X6, ⟨Lc6, hQ6, l6, y6, z6⟩, st6⟩ := Jvm.LawKit.callS X5 hx (y := (⟨"java/lang/StringLatin1", "newString", "([BII)Ljava/lang/String;"⟩ : MethodName)) hown (mvT hZ (own_h hw 86 rfl)) (mvT hZ (own_h hw 87 rfl)) (mvT hZ (own_h hw 88 rfl)) (mvT hZ (own_h hw 89 rfl)) (by decide) (backOf (W := 0) (rmNN l Z a0 hw [] bv x1 (x2 - x1) kv (4 : Int32) vs h0 n0 Z0 p_3 ⟨hbb.1, by omega, by rw [h4]; omega, by decide⟩ (fun q z => p_9 q (by have h1 := congrArg Int32.toInt q; have h2 := congrArg Int32.toInt z; rw [own_z] at h1; exact Int32.toInt_inj.mp (by omega)))) hZ (own_h hw 89 rfl) (own_h hw 88 rfl) (by decide) (by decide)) (g := (mkF m 41 #[.val (.ref x0), .val (.int x1), .val (.int x2), .val (.int (4 : Int32)), .val (.int (x2 - x1))] [(.int (x2 - x1)), (.int x1), (.ref bv)])) rfl (by rw [hml]; rfl) (argsL := [(.ref bv), (.int x1), (.int (x2 - x1))]) (rest := []) (lenOf pd_14 rfl) rfl (by show 2 * 0 + _ ≤ _; exact Nat.le_of_eq rfl) (hb hby d9_41) (fun _ _ => ⟨rfl, e5, (by decide : 0 + 2 ≤ _), (by decide : 0 + 8 ≤ _)⟩)
    dsimp only [Pt.U, Pt.locs, Pt.cells, Pt.slots] at X6 l6 y6 z6 st6 hQ6
    subst y6 z6
    obtain ⟨r_6, b_6, kb_6, vd_6, rfl, N6q, K6, pq6_0, pq6_1, pq6_2, pq6_3, pq6_4, pq6_5, pq6_6, pq6_7⟩ := hQ6
    have N6 := Fr.app N4 N6q
    rw [← l6] at N6
    clear l6
    obtain ⟨h6, e6⟩ : ∃ z, T6.heap = z := ⟨_, rfl⟩
    rw [e6] at K6 pq6_3 pq6_4 pq6_5 pq6_6
    have ne7 : x0 ≠ r_6 := Nat.ne_of_lt (Nat.lt_of_lt_of_le p_0.lt pq6_0)
    have ne8 : bv ≠ r_6 := Nat.ne_of_lt (Nat.lt_of_lt_of_le p_3.lt pq6_0)
    have g_r_6 : n0 ≤ r_6 := Nat.le_trans Z0 pq6_0
    have sz_r_6 : h0.size ≤ r_6 := Nat.le_trans (Keep.refl h0 []).1 pq6_0
    have ne9 : x0 ≠ b_6 := Nat.ne_of_lt (Nat.lt_of_lt_of_le p_0.lt pq6_1)
    have ne10 : bv ≠ b_6 := Nat.ne_of_lt (Nat.lt_of_lt_of_le p_3.lt pq6_1)
    have g_b_6 : n0 ≤ b_6 := Nat.le_trans Z0 pq6_1
    have sz_b_6 : h0.size ≤ b_6 := Nat.le_trans (Keep.refl h0 []).1 pq6_1
    have f11 := p_0.keep K6
    have f12 := p_1.keep K6 nin0
    have f13 := p_2.keep K6 nin0
    have f14 := p_3.keep K6 nin0
    have O15 := O0.keep K6 all0
    have K16 : Keep h0 h6 [] := (Keep.refl h0 []).trans K6 all0
    have Z17 : n0 ≤ h6.size := Nat.le_trans Z0 K6.1
    refine own_step (st' := T6.setTop (mkF m 44 #[.val (.ref x0), .val (.int x1), .val (.int x2), .val (.int (4 : Int32)), .val (.int (x2 - x1))] [(.ref r_6)])) st6 ?_
    refine own_step (st' := T6.setTop (mkF m 57 #[.val (.ref x0), .val (.int x1), .val (.int x2), .val (.int (4 : Int32)), .val (.int (x2 - x1))] [(.ref r_6)])) (fun t k => XS.goto X6.here hx rfl (pc0 := 44) (pc' := 57) rfl (hb hby d9_44) (by decide) (by decide) k) ?_
    refine own_ret X6 Bd.notSynchronized (some (.ref r_6)) (fun h => by rw [Bd.returns] at h; cases h) (fun fs hr => retOut X6 hx Bd.returns rfl (Or.inr (Or.inr (Or.inr (Or.inr ⟨rfl, rfl, rfl⟩)))) (hb hby d9_57) hr) ?_ (by decide) (by decide)
    rw [e6]
    exact ⟨r_6, b_6, kb_6, vd_6, rfl, N6, K16, sz_r_6, sz_b_6, pq6_2, pq6_3, pq6_4, pq6_5, pq6_6, pq6_7⟩
  · refine own_step (st' := T2.setTop (mkF m 22 #[.val (.ref x0), .val (.int x1), .val (.int x2), .val (.int (4 : Int32)), .unset] [])) (fun t k => XS.ifYes X2.here hx rfl (pc0 := 12) (pc' := 22) rfl (hb hby d9_12) rfl ((if0 _ _).trans (feq hc3).2) (by decide) (by decide) k) ?_
    refine own_step (st' := T2.setTop (mkF m 23 #[.val (.ref x0), .val (.int x1), .val (.int x2), .val (.int (4 : Int32)), .unset] [(.int x2)])) (fun t k => XS.iloadN X2.here hx rfl (hb hby d9_22) rfl k) ?_
    refine own_step (st' := T2.setTop (mkF m 24 #[.val (.ref x0), .val (.int x1), .val (.int x2), .val (.int (4 : Int32)), .unset] [(.int x1), (.int x2)])) (fun t k => XS.iloadN X2.here hx rfl (hb hby d9_23) rfl k) ?_
    refine own_step (st' := T2.setTop (mkF m 25 #[.val (.ref x0), .val (.int x1), .val (.int x2), .val (.int (4 : Int32)), .unset] [(.int (x2 - x1))])) (fun t k => XS.isub X2.here hx rfl (hb hby d9_24) rfl k) ?_
    refine own_step (st' := T2.setTop (mkF m 27 #[.val (.ref x0), .val (.int x1), .val (.int x2), .val (.int (4 : Int32)), .val (.int (x2 - x1))] [])) (fun t k => XS.istore X2.here hx rfl (hb hby d9_25) rfl (l' := #[.val (.ref x0), .val (.int x1), .val (.int x2), .val (.int (4 : Int32)), .val (.int (x2 - x1))]) rfl k) ?_
    refine own_step (st' := T2.setTop (mkF m 28 #[.val (.ref x0), .val (.int x1), .val (.int x2), .val (.int (4 : Int32)), .val (.int (x2 - x1))] [(.ref x0)])) (fun t k => XS.aloadN X2.here hx rfl (hb hby d9_27) rfl rfl k) ?_
    obtain ⟨cq18, kq18, q18a, q18b, q18c⟩ := isOf hZ e2 p_0
    obtain ⟨_, _, ⟨T18, L18, k18, n18⟩, -, X18, ⟨Lc18, hQ18, l18, y18, z18⟩, st18⟩ := X2.virtualBack hx (y := (⟨"java/lang/String", "isLatin1", "()Z"⟩ : MethodName)) (z := (⟨"java/lang/String", "isLatin1", "()Z"⟩ : MethodName)) hown (mvT hZ (own_h hw 81 rfl)) (mvT hZ (own_h hw 82 rfl)) (notFace_of_selects (args := #[]) (mvT hZ (own_h hw 84 rfl))) (mvT hZ (own_h hw 84 rfl)) (mvT hZ (own_h hw 83 rfl)) (by decide) (backOf (W := 0) (rm14 l Z a0 hw [] x0 cs h0 n0 Z0 O0 p_1 p_4 p_5) hZ (own_h hw 85 rfl) (own_h hw 3 rfl) (by decide) (by decide)) q18a q18c (g := (mkF m 28 #[.val (.ref x0), .val (.int x1), .val (.int x2), .val (.int (4 : Int32)), .val (.int (x2 - x1))] [(.ref x0)])) rfl (by rw [hml]; rfl) (Steps.refl _) (argsL := []) (rest := []) (lenOf pd_13 rfl) rfl (by show 2 * 0 + _ ≤ _; exact Nat.le_of_eq rfl) (hb hby d9_28) (fun _ _ => ⟨rfl, e2, (by decide : 0 + 0 ≤ _), (by decide : 0 + 0 ≤ _)⟩)
    dsimp only [Pt.U, Pt.locs, Pt.cells, Pt.slots] at X18 l18 y18 z18 st18 hQ18
    subst y18 z18
    obtain ⟨rfl, N18q, e18⟩ := hQ18
    have N18 := Fr.app N2 N18q
    rw [← l18] at N18
    clear l18
    refine own_step (st' := T18.setTop (mkF m 31 #[.val (.ref x0), .val (.int x1), .val (.int x2), .val (.int (4 : Int32)), .val (.int (x2 - x1))] [(.int (1 : Int32))])) (fun t k => st18.trans k) ?_
    refine own_step (st' := T18.setTop (mkF m 34 #[.val (.ref x0), .val (.int x1), .val (.int x2), .val (.int (4 : Int32)), .val (.int (x2 - x1))] [])) (fun t k => XS.ifNo X18.here hx rfl (hb hby d9_31) rfl ((if0 _ _).trans (feq (by decide)).1) k) ?_
    refine own_step (st' := T18.setTop (mkF m 35 #[.val (.ref x0), .val (.int x1), .val (.int x2), .val (.int (4 : Int32)), .val (.int (x2 - x1))] [(.ref x0)])) (fun t k => XS.aloadN X18.here hx rfl (hb hby d9_34) rfl rfl k) ?_
    obtain ⟨T19, X19, e19, st19⟩ := getF X18 hx hZ hown (host := "") (Or.inl (own_h hw 28 rfl)) Via.refl e18 p_2 (g := (mkF m 35 #[.val (.ref x0), .val (.int x1), .val (.int x2), .val (.int (4 : Int32)), .val (.int (x2 - x1))] [(.ref x0)])) rfl rfl (hb hby d9_35)
    refine own_step (st' := T19.setTop (mkF m 38 #[.val (.ref x0), .val (.int x1), .val (.int x2), .val (.int (4 : Int32)), .val (.int (x2 - x1))] [(.ref bv)])) st19 ?_
    refine own_step (st' := T19.setTop (mkF m 39 #[.val (.ref x0), .val (.int x1), .val (.int x2), .val (.int (4 : Int32)), .val (.int (x2 - x1))] [(.int x1), (.ref bv)])) (fun t k => XS.iloadN X19.here hx rfl (hb hby d9_38) rfl k) ?_
    refine own_step (st' := T19.setTop (mkF m 41 #[.val (.ref x0), .val (.int x1), .val (.int x2), .val (.int (4 : Int32)), .val (.int (x2 - x1))] [(.int (x2 - x1)), (.int x1), (.ref bv)])) (fun t k => XS.iload X19.here hx rfl (hb hby d9_39) rfl k) ?_
    obtain ⟨_, _, ⟨T20, L20, k20, n20⟩, -, X20, ⟨Lc20, hQ20, l20, y20, z20⟩, st20⟩ := Jvm.LawKit.callS X19 hx (y := (⟨"java/lang/StringLatin1", "newString", "([BII)Ljava/lang/String;"⟩ : MethodName)) hown (mvT hZ (own_h hw 86 rfl)) (mvT hZ (own_h hw 87 rfl)) (mvT hZ (own_h hw 88 rfl)) (mvT hZ (own_h hw 89 rfl)) (by decide) (backOf (W := 0) (rmNN l Z a0 hw [] bv x1 (x2 - x1) kv (4 : Int32) vs h0 n0 Z0 p_3 ⟨hbb.1, by omega, by rw [h4]; omega, by decide⟩ (fun q z => p_9 q (by have h1 := congrArg Int32.toInt q; have h2 := congrArg Int32.toInt z; rw [own_z] at h1; exact Int32.toInt_inj.mp (by omega)))) hZ (own_h hw 89 rfl) (own_h hw 88 rfl) (by decide) (by decide)) (g := (mkF m 41 #[.val (.ref x0), .val (.int x1), .val (.int x2), .val (.int (4 : Int32)), .val (.int (x2 - x1))] [(.int (x2 - x1)), (.int x1), (.ref bv)])) rfl (by rw [hml]; rfl) (argsL := [(.ref bv), (.int x1), (.int (x2 - x1))]) (rest := []) (lenOf pd_14 rfl) rfl (by show 2 * 0 + _ ≤ _; exact Nat.le_of_eq rfl) (hb hby d9_41) (fun _ _ => ⟨rfl, e19, (by decide : 0 + 2 ≤ _), (by decide : 0 + 8 ≤ _)⟩)
    dsimp only [Pt.U, Pt.locs, Pt.cells, Pt.slots] at X20 l20 y20 z20 st20 hQ20
    subst y20 z20
    obtain ⟨r_20, b_20, kb_20, vd_20, rfl, N20q, K20, pq20_0, pq20_1, pq20_2, pq20_3, pq20_4, pq20_5, pq20_6, pq20_7⟩ := hQ20
    have N20 := Fr.app N18 N20q
    rw [← l20] at N20
    clear l20
    obtain ⟨h20, e20⟩ : ∃ z, T20.heap = z := ⟨_, rfl⟩
    rw [e20] at K20 pq20_3 pq20_4 pq20_5 pq20_6
    have ne21 : x0 ≠ r_20 := Nat.ne_of_lt (Nat.lt_of_lt_of_le p_0.lt pq20_0)
    have ne22 : bv ≠ r_20 := Nat.ne_of_lt (Nat.lt_of_lt_of_le p_3.lt pq20_0)
    have g_r_20 : n0 ≤ r_20 := Nat.le_trans Z0 pq20_0
    have sz_r_20 : h0.size ≤ r_20 := Nat.le_trans (Keep.refl h0 []).1 pq20_0
    have ne23 : x0 ≠ b_20 := Nat.ne_of_lt (Nat.lt_of_lt_of_le p_0.lt pq20_1)
    have ne24 : bv ≠ b_20 := Nat.ne_of_lt (Nat.lt_of_lt_of_le p_3.lt pq20_1)
    have g_b_20 : n0 ≤ b_20 := Nat.le_trans Z0 pq20_1
    have sz_b_20 : h0.size ≤ b_20 := Nat.le_trans (Keep.refl h0 []).1 pq20_1
    have f25 := p_0.keep K20
    have f26 := p_1.keep K20 nin0
    have f27 := p_2.keep K20 nin0
    have f28 := p_3.keep K20 nin0
    have O29 := O0.keep K20 all0
    have K30 : Keep h0 h20 [] := (Keep.refl h0 []).trans K20 all0
    have Z31 : n0 ≤ h20.size := Nat.le_trans Z0 K20.1
    refine own_step (st' := T20.setTop (mkF m 44 #[.val (.ref x0), .val (.int x1), .val (.int x2), .val (.int (4 : Int32)), .val (.int (x2 - x1))] [(.ref r_20)])) st20 ?_
    refine own_step (st' := T20.setTop (mkF m 57 #[.val (.ref x0), .val (.int x1), .val (.int x2), .val (.int (4 : Int32)), .val (.int (x2 - x1))] [(.ref r_20)])) (fun t k => XS.goto X20.here hx rfl (pc0 := 44) (pc' := 57) rfl (hb hby d9_44) (by decide) (by decide) k) ?_
    refine own_ret X20 Bd.notSynchronized (some (.ref r_20)) (fun h => by rw [Bd.returns] at h; cases h) (fun fs hr => retOut X20 hx Bd.returns rfl (Or.inr (Or.inr (Or.inr (Or.inr ⟨rfl, rfl, rfl⟩)))) (hb hby d9_57) hr) ?_ (by decide) (by decide)
    rw [e20]
    exact ⟨r_20, b_20, kb_20, vd_20, rfl, N20, K30, sz_r_20, sz_b_20, pq20_2, pq20_3, pq20_4, pq20_5, pq20_6, pq20_7⟩
def Q_rmS0 (Z : State) (x0 : Addr) (x1 : Int32) (x2 : Int32) (bv : Addr) (kv : ClassId) (vs : List Value) (cs : Int32) (fm : Value) (h0 : Heap) (n0 : Nat) (v : Option Value) (h : Heap) (L : List Loc) : Prop := ∃ r : Addr, ∃ b : Addr, ∃ kb : ClassId, v = some (.ref r) ∧ Fr n0 L ∧ Keep h0 h [] ∧ Exa Z h r "java/lang/String" ∧ Fld Z h r "java/lang/String" "coder" "B" (.int (0 : Int32)) ∧ Fld Z h r "java/lang/String" "value" "[B" (.ref b) ∧ Arv Z h b kb .byte (0 : Int32) [] (.int (0 : Int32))
set_option maxRecDepth 65536 in
set_option maxHeartbeats 40000000 in
theorem rmS0 (l : Launch) (Z : State) (a0 : Array Value) (hw : ∀ d ∈ tables_1, d.before a0 Z = true) (ws : List Jvm.Cond) (x0 : Addr) (x1 : Int32) (x2 : Int32) (bv : Addr) (kv : ClassId) (vs : List Value) (cs : Int32) (fm : Value) (h0 : Heap) (n0 : Nat) (Z0 : n0 ≤ h0.size) (O0 : Old Z n0 h0) (p_0 : Exa Z h0 x0 "java/lang/String") (p_1 : Fld Z h0 x0 "java/lang/String" "coder" "B" (.int (0 : Int32))) (p_2 : Fld Z h0 x0 "java/lang/String" "value" "[B" (.ref bv)) (p_3 : Arv Z h0 bv kv .byte (4 : Int32) vs (.int (0 : Int32))) (p_4 : Sta Z Z.heap "java/lang/String" "COMPACT_STRINGS" "Z" (.int cs)) (p_5 : ¬ cs = (0 : Int32)) (p_6 : Sta Z Z.heap "jdk/internal/util/Preconditions" "SIOOBE_FORMATTER" "Ljava/util/function/BiFunction;" fm) (p_7 : fm.isRef = true) (p_8 : 0 ≤ x1.toInt ∧ x1.toInt ≤ 4) (p_9 : x1 = x2) (p_10 : CHv Z own_EL Z.vm Z.heap) :
    MetFree l (⟨"java/lang/String", "substring", "(II)Ljava/lang/String;"⟩ : MethodName) (head1 (Jvm.Cond.code (⟨"java/lang/String", "substring", "(II)Ljava/lang/String;"⟩ : MethodName) jdk_42_method_92_code 5 (some (.object "java/lang/String")) :: ws) ({ frames := 2, cells := 2, slots := 4, locals := 29 } : Room)) (fun a U => a = #[(.ref x0), (.int x1), (.int x2)] ∧ Z.WarmedH U.vm ∧ U.heap = h0) (fun _ _ _ _ _ => True) (fun _ U o U' => ∃ v L, o = .returned v ∧ Q_rmS0 Z x0 x1 x2 bv kv vs cs fm h0 n0 v U'.heap L ∧ ReturnedEndW U o U' L ({ frames := 2, cells := 2, slots := 4, locals := 29 } : Room).cells ({ frames := 2, cells := 2, slots := 4, locals := 29 } : Room).slots) := by
  refine MetFree.of_bodySF (plainFor_of_name pn_4) hisR ?_
  intro p e s m args below meth c s₁ Bd hml0 hP hK
  obtain ⟨rfl, hZH, hh⟩ := hP
  have hZ := hZH.wide
  have hx := Bd.exec
  have hby := Bd.bytes
  have hml : c.maxLocals = 5 := hml0
  have hown : s.vm.findClass "java/lang/String" = some m.cls := findClass_of_methodNamed Bd.named
  have hnm := (name_of_methodNamed Bd.named Bd.method).1
  have X0 : Stand p l e ({ frames := 2, cells := 2, slots := 4, locals := 29 } : Room) s m #[(.ref x0), (.int x1), (.int x2)] below meth c s₁ [] 0 0 := Stand.of_body Bd
  have e0 : s₁.heap = h0 := by rw [← hh, Bd.state]; rfl
  have N0 := Fr.nil n0
  show own_EndsW p e below s ({ frames := 2, cells := 2, slots := 4, locals := 29 } : Room).cells ({ frames := 2, cells := 2, slots := 4, locals := 29 } : Room).slots (Q_rmS0 Z x0 x1 x2 bv kv vs cs fm h0 n0) (s₁.setTop (entryFrame m #[(.ref x0), (.int x1), (.int x2)] 5))
  rw [ef_9_RII]
  have h4 : (4 : Int32).toInt = 4 := by decide
  have hbb := p_8
  subst p_9
  refine own_stepW (st' := s₁.setTop (mkF m 1 #[.val (.ref x0), .val (.int x1), .val (.int x1), .unset, .unset] [(.ref x0)])) (fun t k => XS.aloadN X0.here hx rfl (hb hby d9_0) rfl rfl k) ?_
  obtain ⟨cq1, kq1, q1a, q1b, q1c⟩ := isOf hZ e0 p_0
  obtain ⟨_, _, ⟨T1, L1, k1, n1⟩, -, X1, ⟨Lc1, hQ1, l1, y1, z1⟩, st1⟩ := X0.virtualBack hx (y := (⟨"java/lang/String", "length", "()I"⟩ : MethodName)) (z := (⟨"java/lang/String", "length", "()I"⟩ : MethodName)) hown (mvT hZ (own_h hw 63 rfl)) (mvT hZ (own_h hw 64 rfl)) (notFace_of_selects (args := #[]) (mvT hZ (own_h hw 66 rfl))) (mvT hZ (own_h hw 66 rfl)) (mvT hZ (own_h hw 65 rfl)) (by decide) (backOf (W := 0) (rm10 l Z a0 hw [] x0 bv kv (4 : Int32) vs cs h0 n0 Z0 O0 p_0 p_1 p_2 p_3 p_4 p_5) hZ (own_h hw 67 rfl) (own_h hw 3 rfl) (by decide) (by decide)) q1a q1c (g := (mkF m 1 #[.val (.ref x0), .val (.int x1), .val (.int x1), .unset, .unset] [(.ref x0)])) rfl (by rw [hml]; rfl) (Steps.refl _) (argsL := []) (rest := []) (lenOf pd_9 rfl) rfl (by show 2 * 0 + _ ≤ _; exact Nat.le_of_eq rfl) (hb hby d9_1) (fun _ _ => ⟨rfl, e0, (by decide : 0 + 0 ≤ _), (by decide : 0 + 0 ≤ _)⟩)
  dsimp only [Pt.U, Pt.locs, Pt.cells, Pt.slots] at X1 l1 y1 z1 st1 hQ1
  subst y1 z1
  obtain ⟨rfl, N1q, e1⟩ := hQ1
  have N1 := Fr.app N0 N1q
  rw [← l1] at N1
  clear l1
  refine own_stepW (st' := T1.setTop (mkF m 4 #[.val (.ref x0), .val (.int x1), .val (.int x1), .unset, .unset] [(.int (4 : Int32))])) (fun t k => st1.trans k) ?_
  refine own_stepW (st' := T1.setTop (mkF m 5 #[.val (.ref x0), .val (.int x1), .val (.int x1), .val (.int (4 : Int32)), .unset] [])) (fun t k => XS.istoreN X1.here hx rfl (hb hby d9_4) rfl (l' := #[.val (.ref x0), .val (.int x1), .val (.int x1), .val (.int (4 : Int32)), .unset]) rfl k) ?_
  refine own_stepW (st' := T1.setTop (mkF m 6 #[.val (.ref x0), .val (.int x1), .val (.int x1), .val (.int (4 : Int32)), .unset] [(.int x1)])) (fun t k => XS.iloadN X1.here hx rfl (hb hby d9_5) rfl k) ?_
  refine own_stepW (st' := T1.setTop (mkF m 7 #[.val (.ref x0), .val (.int x1), .val (.int x1), .val (.int (4 : Int32)), .unset] [(.int x1), (.int x1)])) (fun t k => XS.iloadN X1.here hx rfl (hb hby d9_6) rfl k) ?_
  refine own_stepW (st' := T1.setTop (mkF m 8 #[.val (.ref x0), .val (.int x1), .val (.int x1), .val (.int (4 : Int32)), .unset] [(.int (4 : Int32)), (.int x1), (.int x1)])) (fun t k => XS.iloadN X1.here hx rfl (hb hby d9_7) rfl k) ?_
  obtain ⟨_, _, ⟨T2, L2, k2, n2⟩, -, X2, ⟨Lc2, hQ2, l2, y2, z2⟩, st2⟩ := Jvm.LawKit.callS X1 hx (y := (⟨"java/lang/String", "checkBoundsBeginEnd", "(III)V"⟩ : MethodName)) hown (mvT hZ (own_h hw 73 rfl)) (mvT hZ (own_h hw 74 rfl)) (mvT hZ (own_h hw 3 rfl)) (mvT hZ (own_h hw 75 rfl)) (by decide) (backOf (W := 0) (rm12 l Z a0 hw [] x1 x1 (4 : Int32) fm h0 n0 Z0 O0 p_6 p_7 (own_ge (by rw [own_z]; omega)) (own_ge (Int.le_refl _)) (own_ge (by rw [h4]; omega))) hZ (own_h hw 75 rfl) (own_h hw 3 rfl) (by decide) (by decide)) (g := (mkF m 8 #[.val (.ref x0), .val (.int x1), .val (.int x1), .val (.int (4 : Int32)), .unset] [(.int (4 : Int32)), (.int x1), (.int x1)])) rfl (by rw [hml]; rfl) (argsL := [(.int x1), (.int x1), (.int (4 : Int32))]) (rest := []) (lenOf pd_11 rfl) rfl (by show 2 * 0 + _ ≤ _; exact Nat.le_of_eq rfl) (hb hby d9_8) (fun _ _ => ⟨rfl, e1, (by decide : 0 + 0 ≤ _), (by decide : 0 + 0 ≤ _)⟩)
  dsimp only [Pt.U, Pt.locs, Pt.cells, Pt.slots] at X2 l2 y2 z2 st2 hQ2
  subst y2 z2
  obtain ⟨rfl, N2q, e2⟩ := hQ2
  have N2 := Fr.app N1 N2q
  rw [← l2] at N2
  clear l2
  refine own_stepW (st' := T2.setTop (mkF m 11 #[.val (.ref x0), .val (.int x1), .val (.int x1), .val (.int (4 : Int32)), .unset] [])) st2 ?_
  refine own_stepW (st' := T2.setTop (mkF m 12 #[.val (.ref x0), .val (.int x1), .val (.int x1), .val (.int (4 : Int32)), .unset] [(.int x1)])) (fun t k => XS.iloadN X2.here hx rfl (hb hby d9_11) rfl k) ?_
  by_cases hc3 : x1 = (0 : Int32)
  · refine own_stepW (st' := T2.setTop (mkF m 15 #[.val (.ref x0), .val (.int x1), .val (.int x1), .val (.int (4 : Int32)), .unset] [])) (fun t k => XS.ifNo X2.here hx rfl (hb hby d9_12) rfl ((if0 _ _).trans (teq hc3).2) k) ?_
    refine own_stepW (st' := T2.setTop (mkF m 16 #[.val (.ref x0), .val (.int x1), .val (.int x1), .val (.int (4 : Int32)), .unset] [(.int x1)])) (fun t k => XS.iloadN X2.here hx rfl (hb hby d9_15) rfl k) ?_
    refine own_stepW (st' := T2.setTop (mkF m 17 #[.val (.ref x0), .val (.int x1), .val (.int x1), .val (.int (4 : Int32)), .unset] [(.int (4 : Int32)), (.int x1)])) (fun t k => XS.iloadN X2.here hx rfl (hb hby d9_16) rfl k) ?_
    refine own_stepW (st' := T2.setTop (mkF m 22 #[.val (.ref x0), .val (.int x1), .val (.int x1), .val (.int (4 : Int32)), .unset] [])) (fun t k => XS.icmpYes X2.here hx rfl (pc0 := 17) (pc' := 22) rfl (hb hby d9_17) rfl (feq (fun q => by rw [hc3] at q; exact absurd q (by decide))).2 (by decide) (by decide) k) ?_
    refine own_stepW (st' := T2.setTop (mkF m 23 #[.val (.ref x0), .val (.int x1), .val (.int x1), .val (.int (4 : Int32)), .unset] [(.int x1)])) (fun t k => XS.iloadN X2.here hx rfl (hb hby d9_22) rfl k) ?_
    refine own_stepW (st' := T2.setTop (mkF m 24 #[.val (.ref x0), .val (.int x1), .val (.int x1), .val (.int (4 : Int32)), .unset] [(.int x1), (.int x1)])) (fun t k => XS.iloadN X2.here hx rfl (hb hby d9_23) rfl k) ?_
    refine own_stepW (st' := T2.setTop (mkF m 25 #[.val (.ref x0), .val (.int x1), .val (.int x1), .val (.int (4 : Int32)), .unset] [(.int (x1 - x1))])) (fun t k => XS.isub X2.here hx rfl (hb hby d9_24) rfl k) ?_
    rw [Int32.sub_self]
    refine own_stepW (st' := T2.setTop (mkF m 27 #[.val (.ref x0), .val (.int x1), .val (.int x1), .val (.int (4 : Int32)), .val (.int (0 : Int32))] [])) (fun t k => XS.istore X2.here hx rfl (hb hby d9_25) rfl (l' := #[.val (.ref x0), .val (.int x1), .val (.int x1), .val (.int (4 : Int32)), .val (.int (0 : Int32))]) rfl k) ?_
    refine own_stepW (st' := T2.setTop (mkF m 28 #[.val (.ref x0), .val (.int x1), .val (.int x1), .val (.int (4 : Int32)), .val (.int (0 : Int32))] [(.ref x0)])) (fun t k => XS.aloadN X2.here hx rfl (hb hby d9_27) rfl rfl k) ?_
    obtain ⟨cq4, kq4, q4a, q4b, q4c⟩ := isOf hZ e2 p_0
    obtain ⟨_, _, ⟨T4, L4, k4, n4⟩, -, X4, ⟨Lc4, hQ4, l4, y4, z4⟩, st4⟩ := X2.virtualBack hx (y := (⟨"java/lang/String", "isLatin1", "()Z"⟩ : MethodName)) (z := (⟨"java/lang/String", "isLatin1", "()Z"⟩ : MethodName)) hown (mvT hZ (own_h hw 81 rfl)) (mvT hZ (own_h hw 82 rfl)) (notFace_of_selects (args := #[]) (mvT hZ (own_h hw 84 rfl))) (mvT hZ (own_h hw 84 rfl)) (mvT hZ (own_h hw 83 rfl)) (by decide) (backOf (W := 0) (rm14 l Z a0 hw [] x0 cs h0 n0 Z0 O0 p_1 p_4 p_5) hZ (own_h hw 85 rfl) (own_h hw 3 rfl) (by decide) (by decide)) q4a q4c (g := (mkF m 28 #[.val (.ref x0), .val (.int x1), .val (.int x1), .val (.int (4 : Int32)), .val (.int (0 : Int32))] [(.ref x0)])) rfl (by rw [hml]; rfl) (Steps.refl _) (argsL := []) (rest := []) (lenOf pd_13 rfl) rfl (by show 2 * 0 + _ ≤ _; exact Nat.le_of_eq rfl) (hb hby d9_28) (fun _ _ => ⟨rfl, e2, (by decide : 0 + 0 ≤ _), (by decide : 0 + 0 ≤ _)⟩)
    dsimp only [Pt.U, Pt.locs, Pt.cells, Pt.slots] at X4 l4 y4 z4 st4 hQ4
    subst y4 z4
    obtain ⟨rfl, N4q, e4⟩ := hQ4
    have N4 := Fr.app N2 N4q
    rw [← l4] at N4
    clear l4
    refine own_stepW (st' := T4.setTop (mkF m 31 #[.val (.ref x0), .val (.int x1), .val (.int x1), .val (.int (4 : Int32)), .val (.int (0 : Int32))] [(.int (1 : Int32))])) (fun t k => st4.trans k) ?_
    refine own_stepW (st' := T4.setTop (mkF m 34 #[.val (.ref x0), .val (.int x1), .val (.int x1), .val (.int (4 : Int32)), .val (.int (0 : Int32))] [])) (fun t k => XS.ifNo X4.here hx rfl (hb hby d9_31) rfl ((if0 _ _).trans (feq (by decide)).1) k) ?_
    refine own_stepW (st' := T4.setTop (mkF m 35 #[.val (.ref x0), .val (.int x1), .val (.int x1), .val (.int (4 : Int32)), .val (.int (0 : Int32))] [(.ref x0)])) (fun t k => XS.aloadN X4.here hx rfl (hb hby d9_34) rfl rfl k) ?_
    obtain ⟨T5, X5, e5, st5⟩ := getF X4 hx hZ hown (host := "") (Or.inl (own_h hw 28 rfl)) Via.refl e4 p_2 (g := (mkF m 35 #[.val (.ref x0), .val (.int x1), .val (.int x1), .val (.int (4 : Int32)), .val (.int (0 : Int32))] [(.ref x0)])) rfl rfl (hb hby d9_35)
    refine own_stepW (st' := T5.setTop (mkF m 38 #[.val (.ref x0), .val (.int x1), .val (.int x1), .val (.int (4 : Int32)), .val (.int (0 : Int32))] [(.ref bv)])) st5 ?_
    refine own_stepW (st' := T5.setTop (mkF m 39 #[.val (.ref x0), .val (.int x1), .val (.int x1), .val (.int (4 : Int32)), .val (.int (0 : Int32))] [(.int x1), (.ref bv)])) (fun t k => XS.iloadN X5.here hx rfl (hb hby d9_38) rfl k) ?_
    refine own_stepW (st' := T5.setTop (mkF m 41 #[.val (.ref x0), .val (.int x1), .val (.int x1), .val (.int (4 : Int32)), .val (.int (0 : Int32))] [(.int (0 : Int32)), (.int x1), (.ref bv)])) (fun t k => XS.iload X5.here hx rfl (hb hby d9_39) rfl k) ?_
    obtain ⟨_, _, ⟨T6, L6, k6, n6⟩, -, X6, hS6, hgr6, ⟨Lc6, hQ6, l6, y6, z6⟩, st6⟩ := callSS X5 hx (y := (⟨"java/lang/StringLatin1", "newString", "([BII)Ljava/lang/String;"⟩ : MethodName)) hown (mvT hZ (own_h hw 86 rfl)) (mvT hZ (own_h hw 87 rfl)) (mvT hZ (own_h hw 88 rfl)) (mvT hZ (own_h hw 89 rfl)) (by decide) (own_backS (W := 0) (rmN0 l Z a0 hw [] bv x1 (0 : Int32) h0 n0 Z0 O0 rfl p_10) hZH (own_h hw 89 rfl) (own_h hw 88 rfl) (by decide) (by decide)) (g := (mkF m 41 #[.val (.ref x0), .val (.int x1), .val (.int x1), .val (.int (4 : Int32)), .val (.int (0 : Int32))] [(.int (0 : Int32)), (.int x1), (.ref bv)])) rfl (by rw [hml]; rfl) (argsL := [(.ref bv), (.int x1), (.int (0 : Int32))]) (rest := []) (lenOf pd_14 rfl) rfl (by show 2 * 0 + _ ≤ _; exact Nat.le_of_eq rfl) (hb hby d9_41) (fun _ _ => ⟨rfl, e5, (by decide : 0 + 2 ≤ _), (by decide : 0 + 4 ≤ _)⟩)
    dsimp only [Pt.U, Pt.locs, Pt.cells, Pt.slots] at X6 l6 y6 z6 st6 hQ6 hS6
    subst y6 z6
    obtain ⟨r_6, b_6, kb_6, rfl, N6q, K6, pq6_0, pq6_1, pq6_2, pq6_3⟩ := hQ6
    have N6 := Fr.app N4 N6q
    rw [← l6] at N6
    clear l6
    obtain ⟨h6, e6⟩ : ∃ z, T6.heap = z := ⟨_, rfl⟩
    rw [e6] at K6 pq6_0 pq6_1 pq6_2 pq6_3
    have f7 := p_0.keep K6
    have f8 := p_1.keep K6 nin0
    have f9 := p_2.keep K6 nin0
    have f10 := p_3.keep K6 nin0
    have O11 := O0.keep K6 all0
    have K12 : Keep h0 h6 [] := (Keep.refl h0 []).trans K6 all0
    have Z13 : n0 ≤ h6.size := Nat.le_trans Z0 K6.1
    have hZ : Z.Warmed39 (s.setVm T6.vm).vm := State.Warmed39.trans (t := s) hZ hS6.1
    have hown : (s.setVm T6.vm).vm.findClass "java/lang/String" = some m.cls := by rw [show (s.setVm T6.vm).vm = T6.vm from rfl, hS6.1.alike.findClass]; exact hown
    refine own_stepW (st' := T6.setTop (mkF m 44 #[.val (.ref x0), .val (.int x1), .val (.int x1), .val (.int (4 : Int32)), .val (.int (0 : Int32))] [(.ref r_6)])) (fun t k => st6.trans k) ?_
    refine own_stepW (st' := T6.setTop (mkF m 57 #[.val (.ref x0), .val (.int x1), .val (.int x1), .val (.int (4 : Int32)), .val (.int (0 : Int32))] [(.ref r_6)])) (fun t k => XS.goto X6.here hx rfl (pc0 := 44) (pc' := 57) rfl (hb hby d9_44) (by decide) (by decide) k) ?_
    refine own_retW X6 hS6 (Nat.le_of_eq (congrArg Array.size (e6.trans e6.symm))) Bd.notSynchronized (some (.ref r_6)) (fun h => by rw [Bd.returns] at h; cases h) (fun fs hr => retOut X6 hx Bd.returns rfl (Or.inr (Or.inr (Or.inr (Or.inr ⟨rfl, rfl, rfl⟩)))) (hb hby d9_57) hr) ?_ (by decide) (by decide)
    rw [e6]
    exact ⟨r_6, b_6, kb_6, rfl, N6, K12, pq6_0, pq6_1, pq6_2, pq6_3⟩
  · refine own_stepW (st' := T2.setTop (mkF m 22 #[.val (.ref x0), .val (.int x1), .val (.int x1), .val (.int (4 : Int32)), .unset] [])) (fun t k => XS.ifYes X2.here hx rfl (pc0 := 12) (pc' := 22) rfl (hb hby d9_12) rfl ((if0 _ _).trans (feq hc3).2) (by decide) (by decide) k) ?_
    refine own_stepW (st' := T2.setTop (mkF m 23 #[.val (.ref x0), .val (.int x1), .val (.int x1), .val (.int (4 : Int32)), .unset] [(.int x1)])) (fun t k => XS.iloadN X2.here hx rfl (hb hby d9_22) rfl k) ?_
    refine own_stepW (st' := T2.setTop (mkF m 24 #[.val (.ref x0), .val (.int x1), .val (.int x1), .val (.int (4 : Int32)), .unset] [(.int x1), (.int x1)])) (fun t k => XS.iloadN X2.here hx rfl (hb hby d9_23) rfl k) ?_
    refine own_stepW (st' := T2.setTop (mkF m 25 #[.val (.ref x0), .val (.int x1), .val (.int x1), .val (.int (4 : Int32)), .unset] [(.int (x1 - x1))])) (fun t k => XS.isub X2.here hx rfl (hb hby d9_24) rfl k) ?_
    rw [Int32.sub_self]
    refine own_stepW (st' := T2.setTop (mkF m 27 #[.val (.ref x0), .val (.int x1), .val (.int x1), .val (.int (4 : Int32)), .val (.int (0 : Int32))] [])) (fun t k => XS.istore X2.here hx rfl (hb hby d9_25) rfl (l' := #[.val (.ref x0), .val (.int x1), .val (.int x1), .val (.int (4 : Int32)), .val (.int (0 : Int32))]) rfl k) ?_
    refine own_stepW (st' := T2.setTop (mkF m 28 #[.val (.ref x0), .val (.int x1), .val (.int x1), .val (.int (4 : Int32)), .val (.int (0 : Int32))] [(.ref x0)])) (fun t k => XS.aloadN X2.here hx rfl (hb hby d9_27) rfl rfl k) ?_
    obtain ⟨cq14, kq14, q14a, q14b, q14c⟩ := isOf hZ e2 p_0
    obtain ⟨_, _, ⟨T14, L14, k14, n14⟩, -, X14, ⟨Lc14, hQ14, l14, y14, z14⟩, st14⟩ := X2.virtualBack hx (y := (⟨"java/lang/String", "isLatin1", "()Z"⟩ : MethodName)) (z := (⟨"java/lang/String", "isLatin1", "()Z"⟩ : MethodName)) hown (mvT hZ (own_h hw 81 rfl)) (mvT hZ (own_h hw 82 rfl)) (notFace_of_selects (args := #[]) (mvT hZ (own_h hw 84 rfl))) (mvT hZ (own_h hw 84 rfl)) (mvT hZ (own_h hw 83 rfl)) (by decide) (backOf (W := 0) (rm14 l Z a0 hw [] x0 cs h0 n0 Z0 O0 p_1 p_4 p_5) hZ (own_h hw 85 rfl) (own_h hw 3 rfl) (by decide) (by decide)) q14a q14c (g := (mkF m 28 #[.val (.ref x0), .val (.int x1), .val (.int x1), .val (.int (4 : Int32)), .val (.int (0 : Int32))] [(.ref x0)])) rfl (by rw [hml]; rfl) (Steps.refl _) (argsL := []) (rest := []) (lenOf pd_13 rfl) rfl (by show 2 * 0 + _ ≤ _; exact Nat.le_of_eq rfl) (hb hby d9_28) (fun _ _ => ⟨rfl, e2, (by decide : 0 + 0 ≤ _), (by decide : 0 + 0 ≤ _)⟩)
    dsimp only [Pt.U, Pt.locs, Pt.cells, Pt.slots] at X14 l14 y14 z14 st14 hQ14
    subst y14 z14
    obtain ⟨rfl, N14q, e14⟩ := hQ14
    have N14 := Fr.app N2 N14q
    rw [← l14] at N14
    clear l14
    refine own_stepW (st' := T14.setTop (mkF m 31 #[.val (.ref x0), .val (.int x1), .val (.int x1), .val (.int (4 : Int32)), .val (.int (0 : Int32))] [(.int (1 : Int32))])) (fun t k => st14.trans k) ?_
    refine own_stepW (st' := T14.setTop (mkF m 34 #[.val (.ref x0), .val (.int x1), .val (.int x1), .val (.int (4 : Int32)), .val (.int (0 : Int32))] [])) (fun t k => XS.ifNo X14.here hx rfl (hb hby d9_31) rfl ((if0 _ _).trans (feq (by decide)).1) k) ?_
    refine own_stepW (st' := T14.setTop (mkF m 35 #[.val (.ref x0), .val (.int x1), .val (.int x1), .val (.int (4 : Int32)), .val (.int (0 : Int32))] [(.ref x0)])) (fun t k => XS.aloadN X14.here hx rfl (hb hby d9_34) rfl rfl k) ?_
    obtain ⟨T15, X15, e15, st15⟩ := getF X14 hx hZ hown (host := "") (Or.inl (own_h hw 28 rfl)) Via.refl e14 p_2 (g := (mkF m 35 #[.val (.ref x0), .val (.int x1), .val (.int x1), .val (.int (4 : Int32)), .val (.int (0 : Int32))] [(.ref x0)])) rfl rfl (hb hby d9_35)
    refine own_stepW (st' := T15.setTop (mkF m 38 #[.val (.ref x0), .val (.int x1), .val (.int x1), .val (.int (4 : Int32)), .val (.int (0 : Int32))] [(.ref bv)])) st15 ?_
    refine own_stepW (st' := T15.setTop (mkF m 39 #[.val (.ref x0), .val (.int x1), .val (.int x1), .val (.int (4 : Int32)), .val (.int (0 : Int32))] [(.int x1), (.ref bv)])) (fun t k => XS.iloadN X15.here hx rfl (hb hby d9_38) rfl k) ?_
    refine own_stepW (st' := T15.setTop (mkF m 41 #[.val (.ref x0), .val (.int x1), .val (.int x1), .val (.int (4 : Int32)), .val (.int (0 : Int32))] [(.int (0 : Int32)), (.int x1), (.ref bv)])) (fun t k => XS.iload X15.here hx rfl (hb hby d9_39) rfl k) ?_
    obtain ⟨_, _, ⟨T16, L16, k16, n16⟩, -, X16, hS16, hgr16, ⟨Lc16, hQ16, l16, y16, z16⟩, st16⟩ := callSS X15 hx (y := (⟨"java/lang/StringLatin1", "newString", "([BII)Ljava/lang/String;"⟩ : MethodName)) hown (mvT hZ (own_h hw 86 rfl)) (mvT hZ (own_h hw 87 rfl)) (mvT hZ (own_h hw 88 rfl)) (mvT hZ (own_h hw 89 rfl)) (by decide) (own_backS (W := 0) (rmN0 l Z a0 hw [] bv x1 (0 : Int32) h0 n0 Z0 O0 rfl p_10) hZH (own_h hw 89 rfl) (own_h hw 88 rfl) (by decide) (by decide)) (g := (mkF m 41 #[.val (.ref x0), .val (.int x1), .val (.int x1), .val (.int (4 : Int32)), .val (.int (0 : Int32))] [(.int (0 : Int32)), (.int x1), (.ref bv)])) rfl (by rw [hml]; rfl) (argsL := [(.ref bv), (.int x1), (.int (0 : Int32))]) (rest := []) (lenOf pd_14 rfl) rfl (by show 2 * 0 + _ ≤ _; exact Nat.le_of_eq rfl) (hb hby d9_41) (fun _ _ => ⟨rfl, e15, (by decide : 0 + 2 ≤ _), (by decide : 0 + 4 ≤ _)⟩)
    dsimp only [Pt.U, Pt.locs, Pt.cells, Pt.slots] at X16 l16 y16 z16 st16 hQ16 hS16
    subst y16 z16
    obtain ⟨r_16, b_16, kb_16, rfl, N16q, K16, pq16_0, pq16_1, pq16_2, pq16_3⟩ := hQ16
    have N16 := Fr.app N14 N16q
    rw [← l16] at N16
    clear l16
    obtain ⟨h16, e16⟩ : ∃ z, T16.heap = z := ⟨_, rfl⟩
    rw [e16] at K16 pq16_0 pq16_1 pq16_2 pq16_3
    have f17 := p_0.keep K16
    have f18 := p_1.keep K16 nin0
    have f19 := p_2.keep K16 nin0
    have f20 := p_3.keep K16 nin0
    have O21 := O0.keep K16 all0
    have K22 : Keep h0 h16 [] := (Keep.refl h0 []).trans K16 all0
    have Z23 : n0 ≤ h16.size := Nat.le_trans Z0 K16.1
    have hZ : Z.Warmed39 (s.setVm T16.vm).vm := State.Warmed39.trans (t := s) hZ hS16.1
    have hown : (s.setVm T16.vm).vm.findClass "java/lang/String" = some m.cls := by rw [show (s.setVm T16.vm).vm = T16.vm from rfl, hS16.1.alike.findClass]; exact hown
    refine own_stepW (st' := T16.setTop (mkF m 44 #[.val (.ref x0), .val (.int x1), .val (.int x1), .val (.int (4 : Int32)), .val (.int (0 : Int32))] [(.ref r_16)])) (fun t k => st16.trans k) ?_
    refine own_stepW (st' := T16.setTop (mkF m 57 #[.val (.ref x0), .val (.int x1), .val (.int x1), .val (.int (4 : Int32)), .val (.int (0 : Int32))] [(.ref r_16)])) (fun t k => XS.goto X16.here hx rfl (pc0 := 44) (pc' := 57) rfl (hb hby d9_44) (by decide) (by decide) k) ?_
    refine own_retW X16 hS16 (Nat.le_of_eq (congrArg Array.size (e16.trans e16.symm))) Bd.notSynchronized (some (.ref r_16)) (fun h => by rw [Bd.returns] at h; cases h) (fun fs hr => retOut X16 hx Bd.returns rfl (Or.inr (Or.inr (Or.inr (Or.inr ⟨rfl, rfl, rfl⟩)))) (hb hby d9_57) hr) ?_ (by decide) (by decide)
    rw [e16]
    exact ⟨r_16, b_16, kb_16, rfl, N16, K22, pq16_0, pq16_1, pq16_2, pq16_3⟩
theorem d7_0 : decode prog_64_method_1_code 0 = .ok (.aload_n 0, 1) := by decide +kernel
theorem d7_1 : decode prog_64_method_1_code 1 = .ok (.invokespecial 1, 3) := by decide +kernel
theorem d7_4 : decode prog_64_method_1_code 4 = .ok (.aload_n 0, 1) := by decide +kernel
theorem d7_5 : decode prog_64_method_1_code 5 = .ok (.aload_n 1, 1) := by decide +kernel
theorem d7_6 : decode prog_64_method_1_code 6 = .ok (.putfield 7, 3) := by decide +kernel
theorem d7_9 : decode prog_64_method_1_code 9 = .ok (.aload_n 0, 1) := by decide +kernel
theorem d7_10 : decode prog_64_method_1_code 10 = .ok (.aload_n 2, 1) := by decide +kernel
theorem d7_11 : decode prog_64_method_1_code 11 = .ok (.putfield 13, 3) := by decide +kernel
theorem d7_14 : decode prog_64_method_1_code 14 = .ok (.aload_n 0, 1) := by decide +kernel
theorem d7_15 : decode prog_64_method_1_code 15 = .ok (.iload_n 3, 1) := by decide +kernel
theorem d7_16 : decode prog_64_method_1_code 16 = .ok (.putfield 17, 3) := by decide +kernel
theorem d7_19 : decode prog_64_method_1_code 19 = .ok (.aload_n 0, 1) := by decide +kernel
theorem d7_20 : decode prog_64_method_1_code 20 = .ok (.iload 4, 2) := by decide +kernel
theorem d7_22 : decode prog_64_method_1_code 22 = .ok (.putfield 21, 3) := by decide +kernel
theorem d7_25 : decode prog_64_method_1_code 25 = .ok (.aload_n 0, 1) := by decide +kernel
theorem d7_26 : decode prog_64_method_1_code 26 = .ok (.iload 5, 2) := by decide +kernel
theorem d7_28 : decode prog_64_method_1_code 28 = .ok (.putfield 24, 3) := by decide +kernel
theorem d7_31 : decode prog_64_method_1_code 31 = .ok (.aload_n 0, 1) := by decide +kernel
theorem d7_32 : decode prog_64_method_1_code 32 = .ok (.iload 6, 2) := by decide +kernel
theorem d7_34 : decode prog_64_method_1_code 34 = .ok (.putfield 27, 3) := by decide +kernel
theorem d7_37 : decode prog_64_method_1_code 37 = .ok (.return_, 1) := by decide +kernel
theorem pn_0 : plainName "com/example/lookahead/lookahead/runtime/Token" = true := by first | (simp [plainName, overriddenIn]; done) | decide +kernel
theorem ef_7_RRRIIII (m : MethodId) (x0 : Addr) (x1 : Addr) (x2 : Addr) (x3 : Int32) (x4 : Int32) (x5 : Int32) (x6 : Int32) : entryFrame m #[(.ref x0), (.ref x1), (.ref x2), (.int x3), (.int x4), (.int x5), (.int x6)] 7 = mkF m 0 #[.val (.ref x0), .val (.ref x1), .val (.ref x2), .val (.int x3), .val (.int x4), .val (.int x5), .val (.int x6)] [] := by first | (simp [entryFrame, mkF, argsToLocals, Value.category]; done) | rfl
def Q_rm7 (Z : State) (x0 : Addr) (x1 : Addr) (x2 : Addr) (x3 : Int32) (x4 : Int32) (x5 : Int32) (x6 : Int32) (h0 : Heap) (n0 : Nat) (v : Option Value) (h : Heap) (L : List Loc) : Prop := v = none ∧ Fr n0 L ∧ Keep h0 h [x0] ∧ Fld Z h x0 "com/example/lookahead/lookahead/runtime/Token" "input" "Ljava/lang/String;" (.ref x2) ∧ Fld Z h x0 "com/example/lookahead/lookahead/runtime/Token" "start" "I" (.int x3) ∧ Fld Z h x0 "com/example/lookahead/lookahead/runtime/Token" "end" "I" (.int x4)
set_option maxRecDepth 65536 in
set_option maxHeartbeats 40000000 in
theorem rm7 (l : Launch) (Z : State) (a0 : Array Value) (hw : ∀ d ∈ tables_1, d.before a0 Z = true) (ws : List Jvm.Cond) (x0 : Addr) (x1 : Addr) (x2 : Addr) (x3 : Int32) (x4 : Int32) (x5 : Int32) (x6 : Int32) (h0 : Heap) (n0 : Nat) (Z0 : n0 ≤ h0.size) (p_0 : Fld Z h0 x0 "com/example/lookahead/lookahead/runtime/Token" "terminal" "Lcom/example/lookahead/lookahead/core/Terminal;" .null) (p_1 : Fld Z h0 x0 "com/example/lookahead/lookahead/runtime/Token" "input" "Ljava/lang/String;" .null) (p_2 : Fld Z h0 x0 "com/example/lookahead/lookahead/runtime/Token" "start" "I" (.int (0 : Int32))) (p_3 : Fld Z h0 x0 "com/example/lookahead/lookahead/runtime/Token" "end" "I" (.int (0 : Int32))) (p_4 : Fld Z h0 x0 "com/example/lookahead/lookahead/runtime/Token" "line" "I" (.int (0 : Int32))) (p_5 : Fld Z h0 x0 "com/example/lookahead/lookahead/runtime/Token" "column" "I" (.int (0 : Int32))) (p_6 : Exa Z h0 x0 "com/example/lookahead/lookahead/runtime/Token") (p_7 : n0 ≤ x0) :
    MetFree l (⟨"com/example/lookahead/lookahead/runtime/Token", "<init>", "(Lcom/example/lookahead/lookahead/core/Terminal;Ljava/lang/String;IIII)V"⟩ : MethodName) (head1 (Jvm.Cond.code (⟨"com/example/lookahead/lookahead/runtime/Token", "<init>", "(Lcom/example/lookahead/lookahead/core/Terminal;Ljava/lang/String;IIII)V"⟩ : MethodName) prog_64_method_1_code 7 none :: ws) ({ frames := 1, cells := 0, slots := 0, locals := 12 } : Room)) (fun a U => a = #[(.ref x0), (.ref x1), (.ref x2), (.int x3), (.int x4), (.int x5), (.int x6)] ∧ Z.Warmed39 U.vm ∧ U.heap = h0) (fun _ _ _ _ _ => True) (fun _ U o U' => ∃ v L, o = .returned v ∧ Q_rm7 Z x0 x1 x2 x3 x4 x5 x6 h0 n0 v U'.heap L ∧ FrameEnd U o U' L ({ frames := 1, cells := 0, slots := 0, locals := 12 } : Room).cells ({ frames := 1, cells := 0, slots := 0, locals := 12 } : Room).slots) := by
  refine MetFree.of_bodySF (plainFor_of_name pn_0) hisR ?_
  intro p e s m args below meth c s₁ Bd hml0 hP hK
  obtain ⟨rfl, hZ, hh⟩ := hP
  have hx := Bd.exec
  have hby := Bd.bytes
  have hml : c.maxLocals = 7 := hml0
  have hown : s.vm.findClass "com/example/lookahead/lookahead/runtime/Token" = some m.cls := findClass_of_methodNamed Bd.named
  have hnm := (name_of_methodNamed Bd.named Bd.method).1
  have X0 : Stand p l e ({ frames := 1, cells := 0, slots := 0, locals := 12 } : Room) s m #[(.ref x0), (.ref x1), (.ref x2), (.int x3), (.int x4), (.int x5), (.int x6)] below meth c s₁ [] 0 0 := Stand.of_body Bd
  have e0 : s₁.heap = h0 := by rw [← hh, Bd.state]; rfl
  have N0 := Fr.nil n0
  show own_Ends p e below s ({ frames := 1, cells := 0, slots := 0, locals := 12 } : Room).cells ({ frames := 1, cells := 0, slots := 0, locals := 12 } : Room).slots (Q_rm7 Z x0 x1 x2 x3 x4 x5 x6 h0 n0) (s₁.setTop (entryFrame m #[(.ref x0), (.ref x1), (.ref x2), (.int x3), (.int x4), (.int x5), (.int x6)] 7))
  rw [ef_7_RRRIIII]
  refine own_step (st' := s₁.setTop (mkF m 1 #[.val (.ref x0), .val (.ref x1), .val (.ref x2), .val (.int x3), .val (.int x4), .val (.int x5), .val (.int x6)] [(.ref x0)])) (fun t k => XS.aloadN X0.here hx rfl (hb hby d7_0) rfl rfl k) ?_
  obtain ⟨T1, X1, e1, st1⟩ := initO X0 hx hZ hown (own_h hw 40 rfl) (own_h hw 12 rfl) (own_h hw 13 rfl) e0 (g := (mkF m 1 #[.val (.ref x0), .val (.ref x1), .val (.ref x2), .val (.int x3), .val (.int x4), .val (.int x5), .val (.int x6)] [(.ref x0)])) rfl (by rw [hml]; rfl) rfl (hb hby d7_1) (by decide) (W := 0) (by show 2 * 0 + _ ≤ _; exact Nat.le_of_eq rfl) (by decide)
  refine own_step (st' := T1.setTop (mkF m 4 #[.val (.ref x0), .val (.ref x1), .val (.ref x2), .val (.int x3), .val (.int x4), .val (.int x5), .val (.int x6)] [])) st1 ?_
  refine own_step (st' := T1.setTop (mkF m 5 #[.val (.ref x0), .val (.ref x1), .val (.ref x2), .val (.int x3), .val (.int x4), .val (.int x5), .val (.int x6)] [(.ref x0)])) (fun t k => XS.aloadN X1.here hx rfl (hb hby d7_4) rfl rfl k) ?_
  refine own_step (st' := T1.setTop (mkF m 6 #[.val (.ref x0), .val (.ref x1), .val (.ref x2), .val (.int x3), .val (.int x4), .val (.int x5), .val (.int x6)] [(.ref x1), (.ref x0)])) (fun t k => XS.aloadN X1.here hx rfl (hb hby d7_5) rfl rfl k) ?_
  obtain ⟨T2, h2, X2, e2, W2, st2⟩ := putF X1 hx hZ hown (host := "") (Or.inl (own_h hw 41 rfl)) Via.refl e1 p_0 p_6 (Or.inr ⟨(own_h hw 42 rfl), rfl, hnm⟩) (own_h hw 32 rfl) (ty := (.object "com/example/lookahead/lookahead/core/Terminal")) (by decide) rfl rfl (g := (mkF m 6 #[.val (.ref x0), .val (.ref x1), .val (.ref x2), .val (.int x3), .val (.int x4), .val (.int x5), .val (.int x6)] [(.ref x1), (.ref x0)])) rfl rfl (hb hby d7_6)
  have F2 := p_0.same W2
  have f3 := p_1.other W2 (Or.inr (slot_ne (Or.inr (own_h hw 44 rfl)) (Or.inr (own_h hw 42 rfl)) (by decide) (t := (.object "java/lang/String")) (t' := (.object "com/example/lookahead/lookahead/core/Terminal")) (by decide) (by decide)))
  have f4 := p_2.other W2 (Or.inr (slot_ne (Or.inr (own_h hw 46 rfl)) (Or.inr (own_h hw 42 rfl)) (by decide) (t := .int) (t' := (.object "com/example/lookahead/lookahead/core/Terminal")) (by decide) (by decide)))
  have f5 := p_3.other W2 (Or.inr (slot_ne (Or.inr (own_h hw 48 rfl)) (Or.inr (own_h hw 42 rfl)) (by decide) (t := .int) (t' := (.object "com/example/lookahead/lookahead/core/Terminal")) (by decide) (by decide)))
  have f6 := p_4.other W2 (Or.inr (slot_ne (Or.inr (own_h hw 50 rfl)) (Or.inr (own_h hw 42 rfl)) (by decide) (t := .int) (t' := (.object "com/example/lookahead/lookahead/core/Terminal")) (by decide) (by decide)))
  have f7 := p_5.other W2 (Or.inr (slot_ne (Or.inr (own_h hw 52 rfl)) (Or.inr (own_h hw 42 rfl)) (by decide) (t := .int) (t' := (.object "com/example/lookahead/lookahead/core/Terminal")) (by decide) (by decide)))
  have f8 := p_6.wr W2
  have K9 : Keep h0 h2 [x0] := (Keep.refl h0 [x0]).wr W2 (Or.inl (List.mem_of_getElem? (i := 0) rfl))
  have Z10 : n0 ≤ h2.size := Nat.le_trans Z0 (Keep.of_wr W2).1
  have N11 := Fr.snoc X2 N0 p_7
  refine own_step (st' := T2.setTop (mkF m 9 #[.val (.ref x0), .val (.ref x1), .val (.ref x2), .val (.int x3), .val (.int x4), .val (.int x5), .val (.int x6)] [])) st2 ?_
  refine own_step (st' := T2.setTop (mkF m 10 #[.val (.ref x0), .val (.ref x1), .val (.ref x2), .val (.int x3), .val (.int x4), .val (.int x5), .val (.int x6)] [(.ref x0)])) (fun t k => XS.aloadN X2.here hx rfl (hb hby d7_9) rfl rfl k) ?_
  refine own_step (st' := T2.setTop (mkF m 11 #[.val (.ref x0), .val (.ref x1), .val (.ref x2), .val (.int x3), .val (.int x4), .val (.int x5), .val (.int x6)] [(.ref x2), (.ref x0)])) (fun t k => XS.aloadN X2.here hx rfl (hb hby d7_10) rfl rfl k) ?_
  obtain ⟨T12, h12, X12, e12, W12, st12⟩ := putF X2 hx hZ hown (host := "") (Or.inl (own_h hw 43 rfl)) Via.refl e2 f3 f8 (Or.inr ⟨(own_h hw 44 rfl), rfl, hnm⟩) (own_h hw 32 rfl) (ty := (.object "java/lang/String")) (by decide) rfl rfl (g := (mkF m 11 #[.val (.ref x0), .val (.ref x1), .val (.ref x2), .val (.int x3), .val (.int x4), .val (.int x5), .val (.int x6)] [(.ref x2), (.ref x0)])) rfl rfl (hb hby d7_11)
  have F12 := f3.same W12
  have f13 := f4.other W12 (Or.inr (slot_ne (Or.inr (own_h hw 46 rfl)) (Or.inr (own_h hw 44 rfl)) (by decide) (t := .int) (t' := (.object "java/lang/String")) (by decide) (by decide)))
  have f14 := f5.other W12 (Or.inr (slot_ne (Or.inr (own_h hw 48 rfl)) (Or.inr (own_h hw 44 rfl)) (by decide) (t := .int) (t' := (.object "java/lang/String")) (by decide) (by decide)))
  have f15 := f6.other W12 (Or.inr (slot_ne (Or.inr (own_h hw 50 rfl)) (Or.inr (own_h hw 44 rfl)) (by decide) (t := .int) (t' := (.object "java/lang/String")) (by decide) (by decide)))
  have f16 := f7.other W12 (Or.inr (slot_ne (Or.inr (own_h hw 52 rfl)) (Or.inr (own_h hw 44 rfl)) (by decide) (t := .int) (t' := (.object "java/lang/String")) (by decide) (by decide)))
  have f17 := f8.wr W12
  have f18 := F2.other W12 (Or.inr (slot_ne (Or.inr (own_h hw 42 rfl)) (Or.inr (own_h hw 44 rfl)) (by decide) (t := (.object "com/example/lookahead/lookahead/core/Terminal")) (t' := (.object "java/lang/String")) (by decide) (by decide)))
  have K19 : Keep h0 h12 [x0] := K9.wr W12 (Or.inl (List.mem_of_getElem? (i := 0) rfl))
  have Z20 : n0 ≤ h12.size := Nat.le_trans Z10 (Keep.of_wr W12).1
  have N21 := Fr.snoc X12 N11 p_7
  refine own_step (st' := T12.setTop (mkF m 14 #[.val (.ref x0), .val (.ref x1), .val (.ref x2), .val (.int x3), .val (.int x4), .val (.int x5), .val (.int x6)] [])) st12 ?_
  refine own_step (st' := T12.setTop (mkF m 15 #[.val (.ref x0), .val (.ref x1), .val (.ref x2), .val (.int x3), .val (.int x4), .val (.int x5), .val (.int x6)] [(.ref x0)])) (fun t k => XS.aloadN X12.here hx rfl (hb hby d7_14) rfl rfl k) ?_
  refine own_step (st' := T12.setTop (mkF m 16 #[.val (.ref x0), .val (.ref x1), .val (.ref x2), .val (.int x3), .val (.int x4), .val (.int x5), .val (.int x6)] [(.int x3), (.ref x0)])) (fun t k => XS.iloadN X12.here hx rfl (hb hby d7_15) rfl k) ?_
  obtain ⟨T22, h22, X22, e22, W22, st22⟩ := putF X12 hx hZ hown (host := "") (Or.inl (own_h hw 45 rfl)) Via.refl e12 f13 f17 (Or.inr ⟨(own_h hw 46 rfl), rfl, hnm⟩) (own_h hw 32 rfl) (ty := .int) (by decide) rfl rfl (g := (mkF m 16 #[.val (.ref x0), .val (.ref x1), .val (.ref x2), .val (.int x3), .val (.int x4), .val (.int x5), .val (.int x6)] [(.int x3), (.ref x0)])) rfl rfl (hb hby d7_16)
  have F22 := f13.same W22
  have f23 := f14.other W22 (Or.inr (slot_ne (Or.inr (own_h hw 48 rfl)) (Or.inr (own_h hw 46 rfl)) (by decide) (t := .int) (t' := .int) (by decide) (by decide)))
  have f24 := f15.other W22 (Or.inr (slot_ne (Or.inr (own_h hw 50 rfl)) (Or.inr (own_h hw 46 rfl)) (by decide) (t := .int) (t' := .int) (by decide) (by decide)))
  have f25 := f16.other W22 (Or.inr (slot_ne (Or.inr (own_h hw 52 rfl)) (Or.inr (own_h hw 46 rfl)) (by decide) (t := .int) (t' := .int) (by decide) (by decide)))
  have f26 := f17.wr W22
  have f27 := f18.other W22 (Or.inr (slot_ne (Or.inr (own_h hw 42 rfl)) (Or.inr (own_h hw 46 rfl)) (by decide) (t := (.object "com/example/lookahead/lookahead/core/Terminal")) (t' := .int) (by decide) (by decide)))
  have f28 := F12.other W22 (Or.inr (slot_ne (Or.inr (own_h hw 44 rfl)) (Or.inr (own_h hw 46 rfl)) (by decide) (t := (.object "java/lang/String")) (t' := .int) (by decide) (by decide)))
  have K29 : Keep h0 h22 [x0] := K19.wr W22 (Or.inl (List.mem_of_getElem? (i := 0) rfl))
  have Z30 : n0 ≤ h22.size := Nat.le_trans Z20 (Keep.of_wr W22).1
  have N31 := Fr.snoc X22 N21 p_7
  refine own_step (st' := T22.setTop (mkF m 19 #[.val (.ref x0), .val (.ref x1), .val (.ref x2), .val (.int x3), .val (.int x4), .val (.int x5), .val (.int x6)] [])) st22 ?_
  refine own_step (st' := T22.setTop (mkF m 20 #[.val (.ref x0), .val (.ref x1), .val (.ref x2), .val (.int x3), .val (.int x4), .val (.int x5), .val (.int x6)] [(.ref x0)])) (fun t k => XS.aloadN X22.here hx rfl (hb hby d7_19) rfl rfl k) ?_
  refine own_step (st' := T22.setTop (mkF m 22 #[.val (.ref x0), .val (.ref x1), .val (.ref x2), .val (.int x3), .val (.int x4), .val (.int x5), .val (.int x6)] [(.int x4), (.ref x0)])) (fun t k => XS.iload X22.here hx rfl (hb hby d7_20) rfl k) ?_
  obtain ⟨T32, h32, X32, e32, W32, st32⟩ := putF X22 hx hZ hown (host := "") (Or.inl (own_h hw 47 rfl)) Via.refl e22 f23 f26 (Or.inr ⟨(own_h hw 48 rfl), rfl, hnm⟩) (own_h hw 32 rfl) (ty := .int) (by decide) rfl rfl (g := (mkF m 22 #[.val (.ref x0), .val (.ref x1), .val (.ref x2), .val (.int x3), .val (.int x4), .val (.int x5), .val (.int x6)] [(.int x4), (.ref x0)])) rfl rfl (hb hby d7_22)
  have F32 := f23.same W32
  have f33 := f24.other W32 (Or.inr (slot_ne (Or.inr (own_h hw 50 rfl)) (Or.inr (own_h hw 48 rfl)) (by decide) (t := .int) (t' := .int) (by decide) (by decide)))
  have f34 := f25.other W32 (Or.inr (slot_ne (Or.inr (own_h hw 52 rfl)) (Or.inr (own_h hw 48 rfl)) (by decide) (t := .int) (t' := .int) (by decide) (by decide)))
  have f35 := f26.wr W32
  have f36 := f27.other W32 (Or.inr (slot_ne (Or.inr (own_h hw 42 rfl)) (Or.inr (own_h hw 48 rfl)) (by decide) (t := (.object "com/example/lookahead/lookahead/core/Terminal")) (t' := .int) (by decide) (by decide)))
  have f37 := f28.other W32 (Or.inr (slot_ne (Or.inr (own_h hw 44 rfl)) (Or.inr (own_h hw 48 rfl)) (by decide) (t := (.object "java/lang/String")) (t' := .int) (by decide) (by decide)))
  have f38 := F22.other W32 (Or.inr (slot_ne (Or.inr (own_h hw 46 rfl)) (Or.inr (own_h hw 48 rfl)) (by decide) (t := .int) (t' := .int) (by decide) (by decide)))
  have K39 : Keep h0 h32 [x0] := K29.wr W32 (Or.inl (List.mem_of_getElem? (i := 0) rfl))
  have Z40 : n0 ≤ h32.size := Nat.le_trans Z30 (Keep.of_wr W32).1
  have N41 := Fr.snoc X32 N31 p_7
  refine own_step (st' := T32.setTop (mkF m 25 #[.val (.ref x0), .val (.ref x1), .val (.ref x2), .val (.int x3), .val (.int x4), .val (.int x5), .val (.int x6)] [])) st32 ?_
  refine own_step (st' := T32.setTop (mkF m 26 #[.val (.ref x0), .val (.ref x1), .val (.ref x2), .val (.int x3), .val (.int x4), .val (.int x5), .val (.int x6)] [(.ref x0)])) (fun t k => XS.aloadN X32.here hx rfl (hb hby d7_25) rfl rfl k) ?_
  refine own_step (st' := T32.setTop (mkF m 28 #[.val (.ref x0), .val (.ref x1), .val (.ref x2), .val (.int x3), .val (.int x4), .val (.int x5), .val (.int x6)] [(.int x5), (.ref x0)])) (fun t k => XS.iload X32.here hx rfl (hb hby d7_26) rfl k) ?_
  obtain ⟨T42, h42, X42, e42, W42, st42⟩ := putF X32 hx hZ hown (host := "") (Or.inl (own_h hw 49 rfl)) Via.refl e32 f33 f35 (Or.inr ⟨(own_h hw 50 rfl), rfl, hnm⟩) (own_h hw 32 rfl) (ty := .int) (by decide) rfl rfl (g := (mkF m 28 #[.val (.ref x0), .val (.ref x1), .val (.ref x2), .val (.int x3), .val (.int x4), .val (.int x5), .val (.int x6)] [(.int x5), (.ref x0)])) rfl rfl (hb hby d7_28)
  have F42 := f33.same W42
  have f43 := f34.other W42 (Or.inr (slot_ne (Or.inr (own_h hw 52 rfl)) (Or.inr (own_h hw 50 rfl)) (by decide) (t := .int) (t' := .int) (by decide) (by decide)))
  have f44 := f35.wr W42
  have f45 := f36.other W42 (Or.inr (slot_ne (Or.inr (own_h hw 42 rfl)) (Or.inr (own_h hw 50 rfl)) (by decide) (t := (.object "com/example/lookahead/lookahead/core/Terminal")) (t' := .int) (by decide) (by decide)))
  have f46 := f37.other W42 (Or.inr (slot_ne (Or.inr (own_h hw 44 rfl)) (Or.inr (own_h hw 50 rfl)) (by decide) (t := (.object "java/lang/String")) (t' := .int) (by decide) (by decide)))
  have f47 := f38.other W42 (Or.inr (slot_ne (Or.inr (own_h hw 46 rfl)) (Or.inr (own_h hw 50 rfl)) (by decide) (t := .int) (t' := .int) (by decide) (by decide)))
  have f48 := F32.other W42 (Or.inr (slot_ne (Or.inr (own_h hw 48 rfl)) (Or.inr (own_h hw 50 rfl)) (by decide) (t := .int) (t' := .int) (by decide) (by decide)))
  have K49 : Keep h0 h42 [x0] := K39.wr W42 (Or.inl (List.mem_of_getElem? (i := 0) rfl))
  have Z50 : n0 ≤ h42.size := Nat.le_trans Z40 (Keep.of_wr W42).1
  have N51 := Fr.snoc X42 N41 p_7
  refine own_step (st' := T42.setTop (mkF m 31 #[.val (.ref x0), .val (.ref x1), .val (.ref x2), .val (.int x3), .val (.int x4), .val (.int x5), .val (.int x6)] [])) st42 ?_
  refine own_step (st' := T42.setTop (mkF m 32 #[.val (.ref x0), .val (.ref x1), .val (.ref x2), .val (.int x3), .val (.int x4), .val (.int x5), .val (.int x6)] [(.ref x0)])) (fun t k => XS.aloadN X42.here hx rfl (hb hby d7_31) rfl rfl k) ?_
  refine own_step (st' := T42.setTop (mkF m 34 #[.val (.ref x0), .val (.ref x1), .val (.ref x2), .val (.int x3), .val (.int x4), .val (.int x5), .val (.int x6)] [(.int x6), (.ref x0)])) (fun t k => XS.iload X42.here hx rfl (hb hby d7_32) rfl k) ?_
  obtain ⟨T52, h52, X52, e52, W52, st52⟩ := putF X42 hx hZ hown (host := "") (Or.inl (own_h hw 51 rfl)) Via.refl e42 f43 f44 (Or.inr ⟨(own_h hw 52 rfl), rfl, hnm⟩) (own_h hw 32 rfl) (ty := .int) (by decide) rfl rfl (g := (mkF m 34 #[.val (.ref x0), .val (.ref x1), .val (.ref x2), .val (.int x3), .val (.int x4), .val (.int x5), .val (.int x6)] [(.int x6), (.ref x0)])) rfl rfl (hb hby d7_34)
  have F52 := f43.same W52
  have f53 := f44.wr W52
  have f54 := f45.other W52 (Or.inr (slot_ne (Or.inr (own_h hw 42 rfl)) (Or.inr (own_h hw 52 rfl)) (by decide) (t := (.object "com/example/lookahead/lookahead/core/Terminal")) (t' := .int) (by decide) (by decide)))
  have f55 := f46.other W52 (Or.inr (slot_ne (Or.inr (own_h hw 44 rfl)) (Or.inr (own_h hw 52 rfl)) (by decide) (t := (.object "java/lang/String")) (t' := .int) (by decide) (by decide)))
  have f56 := f47.other W52 (Or.inr (slot_ne (Or.inr (own_h hw 46 rfl)) (Or.inr (own_h hw 52 rfl)) (by decide) (t := .int) (t' := .int) (by decide) (by decide)))
  have f57 := f48.other W52 (Or.inr (slot_ne (Or.inr (own_h hw 48 rfl)) (Or.inr (own_h hw 52 rfl)) (by decide) (t := .int) (t' := .int) (by decide) (by decide)))
  have f58 := F42.other W52 (Or.inr (slot_ne (Or.inr (own_h hw 50 rfl)) (Or.inr (own_h hw 52 rfl)) (by decide) (t := .int) (t' := .int) (by decide) (by decide)))
  have K59 : Keep h0 h52 [x0] := K49.wr W52 (Or.inl (List.mem_of_getElem? (i := 0) rfl))
  have Z60 : n0 ≤ h52.size := Nat.le_trans Z50 (Keep.of_wr W52).1
  have N61 := Fr.snoc X52 N51 p_7
  refine own_step (st' := T52.setTop (mkF m 37 #[.val (.ref x0), .val (.ref x1), .val (.ref x2), .val (.int x3), .val (.int x4), .val (.int x5), .val (.int x6)] [])) st52 ?_
  refine own_ret X52 Bd.notSynchronized (none) (fun _ => rfl) (fun fs hr => X52.returnOut hx Bd.returns (hb hby d7_37) hr) ?_ (by decide) (by decide)
  rw [e52]
  exact ⟨rfl, N61, K59, f55, f56, f57⟩
theorem d8_0 : decode prog_64_method_3_code 0 = .ok (.aload_n 0, 1) := by decide +kernel
theorem d8_1 : decode prog_64_method_3_code 1 = .ok (.getfield 13, 3) := by decide +kernel
theorem d8_4 : decode prog_64_method_3_code 4 = .ok (.aload_n 0, 1) := by decide +kernel
theorem d8_5 : decode prog_64_method_3_code 5 = .ok (.getfield 17, 3) := by decide +kernel
theorem d8_8 : decode prog_64_method_3_code 8 = .ok (.aload_n 0, 1) := by decide +kernel
theorem d8_9 : decode prog_64_method_3_code 9 = .ok (.getfield 21, 3) := by decide +kernel
theorem d8_12 : decode prog_64_method_3_code 12 = .ok (.invokevirtual 30, 3) := by decide +kernel
theorem d8_15 : decode prog_64_method_3_code 15 = .ok (.areturn, 1) := by decide +kernel
theorem ef_8_R (m : MethodId) (x0 : Addr) : entryFrame m #[(.ref x0)] 1 = mkF m 0 #[.val (.ref x0)] [] := by first | (simp [entryFrame, mkF, argsToLocals, Value.category]; done) | rfl
def Q_rmTW (Z : State) (x0 : Addr) (si : Addr) (a : Int32) (e_ : Int32) (bv : Addr) (kv : ClassId) (vs : List Value) (cs : Int32) (fm : Value) (h0 : Heap) (n0 : Nat) (v : Option Value) (h : Heap) (L : List Loc) : Prop := v = some (.ref si) ∧ Fr n0 L ∧ h = h0
set_option maxRecDepth 65536 in
set_option maxHeartbeats 40000000 in
theorem rmTW (l : Launch) (Z : State) (a0 : Array Value) (hw : ∀ d ∈ tables_1, d.before a0 Z = true) (ws : List Jvm.Cond) (x0 : Addr) (si : Addr) (a : Int32) (e_ : Int32) (bv : Addr) (kv : ClassId) (vs : List Value) (cs : Int32) (fm : Value) (h0 : Heap) (n0 : Nat) (Z0 : n0 ≤ h0.size) (O0 : Old Z n0 h0) (p_0 : Fld Z h0 x0 "com/example/lookahead/lookahead/runtime/Token" "input" "Ljava/lang/String;" (.ref si)) (p_1 : Fld Z h0 x0 "com/example/lookahead/lookahead/runtime/Token" "start" "I" (.int a)) (p_2 : Fld Z h0 x0 "com/example/lookahead/lookahead/runtime/Token" "end" "I" (.int e_)) (p_3 : Exa Z h0 si "java/lang/String") (p_4 : Fld Z h0 si "java/lang/String" "coder" "B" (.int (0 : Int32))) (p_5 : Fld Z h0 si "java/lang/String" "value" "[B" (.ref bv)) (p_6 : Arv Z h0 bv kv .byte (4 : Int32) vs (.int (0 : Int32))) (p_7 : Sta Z Z.heap "java/lang/String" "COMPACT_STRINGS" "Z" (.int cs)) (p_8 : ¬ cs = (0 : Int32)) (p_9 : Sta Z Z.heap "jdk/internal/util/Preconditions" "SIOOBE_FORMATTER" "Ljava/util/function/BiFunction;" fm) (p_10 : fm.isRef = true) (p_11 : a = (0 : Int32)) (p_12 : e_ = (4 : Int32)) :
    MetFree l (⟨"com/example/lookahead/lookahead/runtime/Token", "text", "()Ljava/lang/String;"⟩ : MethodName) (head1 (Jvm.Cond.code (⟨"com/example/lookahead/lookahead/runtime/Token", "text", "()Ljava/lang/String;"⟩ : MethodName) prog_64_method_3_code 1 (some (.object "java/lang/String")) :: ws) ({ frames := 3, cells := 0, slots := 0, locals := 45 } : Room)) (fun a U => a = #[(.ref x0)] ∧ Z.Warmed39 U.vm ∧ U.heap = h0) (fun _ _ _ _ _ => True) (fun _ U o U' => ∃ v L, o = .returned v ∧ Q_rmTW Z x0 si a e_ bv kv vs cs fm h0 n0 v U'.heap L ∧ FrameEnd U o U' L ({ frames := 3, cells := 0, slots := 0, locals := 45 } : Room).cells ({ frames := 3, cells := 0, slots := 0, locals := 45 } : Room).slots) := by
  refine MetFree.of_bodySF (plainFor_of_name pn_0) hisR ?_
  intro p e s m args below meth c s₁ Bd hml0 hP hK
  obtain ⟨rfl, hZ, hh⟩ := hP
  have hx := Bd.exec
  have hby := Bd.bytes
  have hml : c.maxLocals = 1 := hml0
  have hown : s.vm.findClass "com/example/lookahead/lookahead/runtime/Token" = some m.cls := findClass_of_methodNamed Bd.named
  have hnm := (name_of_methodNamed Bd.named Bd.method).1
  have X0 : Stand p l e ({ frames := 3, cells := 0, slots := 0, locals := 45 } : Room) s m #[(.ref x0)] below meth c s₁ [] 0 0 := Stand.of_body Bd
  have e0 : s₁.heap = h0 := by rw [← hh, Bd.state]; rfl
  have N0 := Fr.nil n0
  show own_Ends p e below s ({ frames := 3, cells := 0, slots := 0, locals := 45 } : Room).cells ({ frames := 3, cells := 0, slots := 0, locals := 45 } : Room).slots (Q_rmTW Z x0 si a e_ bv kv vs cs fm h0 n0) (s₁.setTop (entryFrame m #[(.ref x0)] 1))
  rw [ef_8_R]
  refine own_step (st' := s₁.setTop (mkF m 1 #[.val (.ref x0)] [(.ref x0)])) (fun t k => XS.aloadN X0.here hx rfl (hb hby d8_0) rfl rfl k) ?_
  obtain ⟨T1, X1, e1, st1⟩ := getF X0 hx hZ hown (host := "") (Or.inl (own_h hw 43 rfl)) Via.refl e0 p_0 (g := (mkF m 1 #[.val (.ref x0)] [(.ref x0)])) rfl rfl (hb hby d8_1)
  refine own_step (st' := T1.setTop (mkF m 4 #[.val (.ref x0)] [(.ref si)])) st1 ?_
  refine own_step (st' := T1.setTop (mkF m 5 #[.val (.ref x0)] [(.ref x0), (.ref si)])) (fun t k => XS.aloadN X1.here hx rfl (hb hby d8_4) rfl rfl k) ?_
  obtain ⟨T2, X2, e2, st2⟩ := getF X1 hx hZ hown (host := "") (Or.inl (own_h hw 45 rfl)) Via.refl e1 p_1 (g := (mkF m 5 #[.val (.ref x0)] [(.ref x0), (.ref si)])) rfl rfl (hb hby d8_5)
  refine own_step (st' := T2.setTop (mkF m 8 #[.val (.ref x0)] [(.int a), (.ref si)])) st2 ?_
  refine own_step (st' := T2.setTop (mkF m 9 #[.val (.ref x0)] [(.ref x0), (.int a), (.ref si)])) (fun t k => XS.aloadN X2.here hx rfl (hb hby d8_8) rfl rfl k) ?_
  obtain ⟨T3, X3, e3, st3⟩ := getF X2 hx hZ hown (host := "") (Or.inl (own_h hw 47 rfl)) Via.refl e2 p_2 (g := (mkF m 9 #[.val (.ref x0)] [(.ref x0), (.int a), (.ref si)])) rfl rfl (hb hby d8_9)
  refine own_step (st' := T3.setTop (mkF m 12 #[.val (.ref x0)] [(.int e_), (.int a), (.ref si)])) st3 ?_
  obtain ⟨cq4, kq4, q4a, q4b, q4c⟩ := isOf hZ e3 p_3
  obtain ⟨_, _, ⟨T4, L4, k4, n4⟩, -, X4, ⟨Lc4, hQ4, l4, y4, z4⟩, st4⟩ := X3.virtualBack hx (y := (⟨"java/lang/String", "substring", "(II)Ljava/lang/String;"⟩ : MethodName)) (z := (⟨"java/lang/String", "substring", "(II)Ljava/lang/String;"⟩ : MethodName)) hown (mvT hZ (own_h hw 58 rfl)) (mvT hZ (own_h hw 59 rfl)) (notFace_of_selects (args := #[]) (mvT hZ (own_h hw 61 rfl))) (mvT hZ (own_h hw 61 rfl)) (mvT hZ (own_h hw 60 rfl)) (by decide) (backOf (W := 0) (rmSW l Z a0 hw [] si a e_ bv kv vs cs fm h0 n0 Z0 O0 p_3 p_4 p_5 p_6 p_7 p_8 p_9 p_10 p_11 p_12) hZ (own_h hw 62 rfl) (own_h hw 3 rfl) (by decide) (by decide)) q4a q4c (g := (mkF m 12 #[.val (.ref x0)] [(.int e_), (.int a), (.ref si)])) rfl (by rw [hml]; rfl) (Steps.refl _) (argsL := [(.int a), (.int e_)]) (rest := []) (lenOf pd_8 rfl) rfl (by show 2 * 0 + _ ≤ _; exact Nat.le_of_eq rfl) (hb hby d8_12) (fun _ _ => ⟨rfl, e3, (by decide : 0 + 0 ≤ _), (by decide : 0 + 0 ≤ _)⟩)
  dsimp only [Pt.U, Pt.locs, Pt.cells, Pt.slots] at X4 l4 y4 z4 st4 hQ4
  subst y4 z4
  obtain ⟨rfl, N4q, e4⟩ := hQ4
  have N4 := Fr.app N0 N4q
  rw [← l4] at N4
  clear l4
  refine own_step (st' := T4.setTop (mkF m 15 #[.val (.ref x0)] [(.ref si)])) (fun t k => st4.trans k) ?_
  refine own_ret X4 Bd.notSynchronized (some (.ref si)) (fun h => by rw [Bd.returns] at h; cases h) (fun fs hr => retOut X4 hx Bd.returns rfl (Or.inr (Or.inr (Or.inr (Or.inr ⟨rfl, rfl, rfl⟩)))) (hb hby d8_15) hr) ?_ (by decide) (by decide)
  rw [e4]
  exact ⟨rfl, N4, rfl⟩
def Q_rmTS (Z : State) (x0 : Addr) (si : Addr) (a : Int32) (e_ : Int32) (bv : Addr) (kv : ClassId) (vs : List Value) (cs : Int32) (fm : Value) (h0 : Heap) (n0 : Nat) (v : Option Value) (h : Heap) (L : List Loc) : Prop := ∃ r : Addr, ∃ b : Addr, ∃ kb : ClassId, ∃ vd : List Value, v = some (.ref r) ∧ Fr n0 L ∧ Keep h0 h [] ∧ h0.size ≤ r ∧ h0.size ≤ b ∧ r ≠ b ∧ Exa Z h r "java/lang/String" ∧ Fld Z h r "java/lang/String" "coder" "B" (.int (0 : Int32)) ∧ Fld Z h r "java/lang/String" "value" "[B" (.ref b) ∧ Arv Z h b kb .byte ((a + (e_ - a)) - a) vd (.int (0 : Int32)) ∧ ∀ i : Nat, vd.getD i (.int (0 : Int32)) = if i < ((a + (e_ - a)) - a).toNatClampNeg then vs.getD (a.toNatClampNeg + i) (.int (0 : Int32)) else (.int (0 : Int32))
set_option maxRecDepth 65536 in
set_option maxHeartbeats 40000000 in
theorem rmTS (l : Launch) (Z : State) (a0 : Array Value) (hw : ∀ d ∈ tables_1, d.before a0 Z = true) (ws : List Jvm.Cond) (x0 : Addr) (si : Addr) (a : Int32) (e_ : Int32) (bv : Addr) (kv : ClassId) (vs : List Value) (cs : Int32) (fm : Value) (h0 : Heap) (n0 : Nat) (Z0 : n0 ≤ h0.size) (O0 : Old Z n0 h0) (p_0 : Fld Z h0 x0 "com/example/lookahead/lookahead/runtime/Token" "input" "Ljava/lang/String;" (.ref si)) (p_1 : Fld Z h0 x0 "com/example/lookahead/lookahead/runtime/Token" "start" "I" (.int a)) (p_2 : Fld Z h0 x0 "com/example/lookahead/lookahead/runtime/Token" "end" "I" (.int e_)) (p_3 : Exa Z h0 si "java/lang/String") (p_4 : Fld Z h0 si "java/lang/String" "coder" "B" (.int (0 : Int32))) (p_5 : Fld Z h0 si "java/lang/String" "value" "[B" (.ref bv)) (p_6 : Arv Z h0 bv kv .byte (4 : Int32) vs (.int (0 : Int32))) (p_7 : Sta Z Z.heap "java/lang/String" "COMPACT_STRINGS" "Z" (.int cs)) (p_8 : ¬ cs = (0 : Int32)) (p_9 : Sta Z Z.heap "jdk/internal/util/Preconditions" "SIOOBE_FORMATTER" "Ljava/util/function/BiFunction;" fm) (p_10 : fm.isRef = true) (p_11 : 0 ≤ a.toInt ∧ a.toInt < e_.toInt ∧ e_.toInt ≤ 4) (p_12 : a = (0 : Int32) → ¬ e_ = (4 : Int32)) :
    MetFree l (⟨"com/example/lookahead/lookahead/runtime/Token", "text", "()Ljava/lang/String;"⟩ : MethodName) (head1 (Jvm.Cond.code (⟨"com/example/lookahead/lookahead/runtime/Token", "text", "()Ljava/lang/String;"⟩ : MethodName) prog_64_method_3_code 1 (some (.object "java/lang/String")) :: ws) ({ frames := 5, cells := 2, slots := 8, locals := 80 } : Room)) (fun a U => a = #[(.ref x0)] ∧ Z.Warmed39 U.vm ∧ U.heap = h0) (fun _ _ _ _ _ => True) (fun _ U o U' => ∃ v L, o = .returned v ∧ Q_rmTS Z x0 si a e_ bv kv vs cs fm h0 n0 v U'.heap L ∧ FrameEnd U o U' L ({ frames := 5, cells := 2, slots := 8, locals := 80 } : Room).cells ({ frames := 5, cells := 2, slots := 8, locals := 80 } : Room).slots) := by
  refine MetFree.of_bodySF (plainFor_of_name pn_0) hisR ?_
  intro p e s m args below meth c s₁ Bd hml0 hP hK
  obtain ⟨rfl, hZ, hh⟩ := hP
  have hx := Bd.exec
  have hby := Bd.bytes
  have hml : c.maxLocals = 1 := hml0
  have hown : s.vm.findClass "com/example/lookahead/lookahead/runtime/Token" = some m.cls := findClass_of_methodNamed Bd.named
  have hnm := (name_of_methodNamed Bd.named Bd.method).1
  have X0 : Stand p l e ({ frames := 5, cells := 2, slots := 8, locals := 80 } : Room) s m #[(.ref x0)] below meth c s₁ [] 0 0 := Stand.of_body Bd
  have e0 : s₁.heap = h0 := by rw [← hh, Bd.state]; rfl
  have N0 := Fr.nil n0
  show own_Ends p e below s ({ frames := 5, cells := 2, slots := 8, locals := 80 } : Room).cells ({ frames := 5, cells := 2, slots := 8, locals := 80 } : Room).slots (Q_rmTS Z x0 si a e_ bv kv vs cs fm h0 n0) (s₁.setTop (entryFrame m #[(.ref x0)] 1))
  rw [ef_8_R]
  refine own_step (st' := s₁.setTop (mkF m 1 #[.val (.ref x0)] [(.ref x0)])) (fun t k => XS.aloadN X0.here hx rfl (hb hby d8_0) rfl rfl k) ?_
  obtain ⟨T1, X1, e1, st1⟩ := getF X0 hx hZ hown (host := "") (Or.inl (own_h hw 43 rfl)) Via.refl e0 p_0 (g := (mkF m 1 #[.val (.ref x0)] [(.ref x0)])) rfl rfl (hb hby d8_1)
  refine own_step (st' := T1.setTop (mkF m 4 #[.val (.ref x0)] [(.ref si)])) st1 ?_
  refine own_step (st' := T1.setTop (mkF m 5 #[.val (.ref x0)] [(.ref x0), (.ref si)])) (fun t k => XS.aloadN X1.here hx rfl (hb hby d8_4) rfl rfl k) ?_
  obtain ⟨T2, X2, e2, st2⟩ := getF X1 hx hZ hown (host := "") (Or.inl (own_h hw 45 rfl)) Via.refl e1 p_1 (g := (mkF m 5 #[.val (.ref x0)] [(.ref x0), (.ref si)])) rfl rfl (hb hby d8_5)
  refine own_step (st' := T2.setTop (mkF m 8 #[.val (.ref x0)] [(.int a), (.ref si)])) st2 ?_
  refine own_step (st' := T2.setTop (mkF m 9 #[.val (.ref x0)] [(.ref x0), (.int a), (.ref si)])) (fun t k => XS.aloadN X2.here hx rfl (hb hby d8_8) rfl rfl k) ?_
  obtain ⟨T3, X3, e3, st3⟩ := getF X2 hx hZ hown (host := "") (Or.inl (own_h hw 47 rfl)) Via.refl e2 p_2 (g := (mkF m 9 #[.val (.ref x0)] [(.ref x0), (.int a), (.ref si)])) rfl rfl (hb hby d8_9)
  refine own_step (st' := T3.setTop (mkF m 12 #[.val (.ref x0)] [(.int e_), (.int a), (.ref si)])) st3 ?_
  obtain ⟨cq4, kq4, q4a, q4b, q4c⟩ := isOf hZ e3 p_3
  obtain ⟨_, _, ⟨T4, L4, k4, n4⟩, -, X4, ⟨Lc4, hQ4, l4, y4, z4⟩, st4⟩ := X3.virtualBack hx (y := (⟨"java/lang/String", "substring", "(II)Ljava/lang/String;"⟩ : MethodName)) (z := (⟨"java/lang/String", "substring", "(II)Ljava/lang/String;"⟩ : MethodName)) hown (mvT hZ (own_h hw 58 rfl)) (mvT hZ (own_h hw 59 rfl)) (notFace_of_selects (args := #[]) (mvT hZ (own_h hw 61 rfl))) (mvT hZ (own_h hw 61 rfl)) (mvT hZ (own_h hw 60 rfl)) (by decide) (backOf (W := 0) (rmSS l Z a0 hw [] si a e_ bv kv vs cs fm h0 n0 Z0 O0 p_3 p_4 p_5 p_6 p_7 p_8 p_9 p_10 p_11 p_12) hZ (own_h hw 62 rfl) (own_h hw 3 rfl) (by decide) (by decide)) q4a q4c (g := (mkF m 12 #[.val (.ref x0)] [(.int e_), (.int a), (.ref si)])) rfl (by rw [hml]; rfl) (Steps.refl _) (argsL := [(.int a), (.int e_)]) (rest := []) (lenOf pd_8 rfl) rfl (by show 2 * 0 + _ ≤ _; exact Nat.le_of_eq rfl) (hb hby d8_12) (fun _ _ => ⟨rfl, e3, (by decide : 0 + 2 ≤ _), (by decide : 0 + 8 ≤ _)⟩)
  dsimp only [Pt.U, Pt.locs, Pt.cells, Pt.slots] at X4 l4 y4 z4 st4 hQ4
  subst y4 z4
  obtain ⟨r_4, b_4, kb_4, vd_4, rfl, N4q, K4, pq4_0, pq4_1, pq4_2, pq4_3, pq4_4, pq4_5, pq4_6, pq4_7⟩ := hQ4
  have N4 := Fr.app N0 N4q
  rw [← l4] at N4
  clear l4
  obtain ⟨h4, e4⟩ : ∃ z, T4.heap = z := ⟨_, rfl⟩
  rw [e4] at K4 pq4_3 pq4_4 pq4_5 pq4_6
  have ne5 : x0 ≠ r_4 := Nat.ne_of_lt (Nat.lt_of_lt_of_le p_0.lt pq4_0)
  have ne6 : si ≠ r_4 := Nat.ne_of_lt (Nat.lt_of_lt_of_le p_3.lt pq4_0)
  have ne7 : bv ≠ r_4 := Nat.ne_of_lt (Nat.lt_of_lt_of_le p_6.lt pq4_0)
  have g_r_4 : n0 ≤ r_4 := Nat.le_trans Z0 pq4_0
  have sz_r_4 : h0.size ≤ r_4 := Nat.le_trans (Keep.refl h0 []).1 pq4_0
  have ne8 : x0 ≠ b_4 := Nat.ne_of_lt (Nat.lt_of_lt_of_le p_0.lt pq4_1)
  have ne9 : si ≠ b_4 := Nat.ne_of_lt (Nat.lt_of_lt_of_le p_3.lt pq4_1)
  have ne10 : bv ≠ b_4 := Nat.ne_of_lt (Nat.lt_of_lt_of_le p_6.lt pq4_1)
  have g_b_4 : n0 ≤ b_4 := Nat.le_trans Z0 pq4_1
  have sz_b_4 : h0.size ≤ b_4 := Nat.le_trans (Keep.refl h0 []).1 pq4_1
  have f11 := p_0.keep K4 nin0
  have f12 := p_1.keep K4 nin0
  have f13 := p_2.keep K4 nin0
  have f14 := p_3.keep K4
  have f15 := p_4.keep K4 nin0
  have f16 := p_5.keep K4 nin0
  have f17 := p_6.keep K4 nin0
  have O18 := O0.keep K4 all0
  have K19 : Keep h0 h4 [] := (Keep.refl h0 []).trans K4 all0
  have Z20 : n0 ≤ h4.size := Nat.le_trans Z0 K4.1
  refine own_step (st' := T4.setTop (mkF m 15 #[.val (.ref x0)] [(.ref r_4)])) (fun t k => st4.trans k) ?_
  refine own_ret X4 Bd.notSynchronized (some (.ref r_4)) (fun h => by rw [Bd.returns] at h; cases h) (fun fs hr => retOut X4 hx Bd.returns rfl (Or.inr (Or.inr (Or.inr (Or.inr ⟨rfl, rfl, rfl⟩)))) (hb hby d8_15) hr) ?_ (by decide) (by decide)
  rw [e4]
  exact ⟨r_4, b_4, kb_4, vd_4, rfl, N4, K19, sz_r_4, sz_b_4, pq4_2, pq4_3, pq4_4, pq4_5, pq4_6, pq4_7⟩
def Q_rmT0 (Z : State) (x0 : Addr) (si : Addr) (a : Int32) (e_ : Int32) (bv : Addr) (kv : ClassId) (vs : List Value) (cs : Int32) (fm : Value) (h0 : Heap) (n0 : Nat) (v : Option Value) (h : Heap) (L : List Loc) : Prop := ∃ r : Addr, ∃ b : Addr, ∃ kb : ClassId, v = some (.ref r) ∧ Fr n0 L ∧ Keep h0 h [] ∧ Exa Z h r "java/lang/String" ∧ Fld Z h r "java/lang/String" "coder" "B" (.int (0 : Int32)) ∧ Fld Z h r "java/lang/String" "value" "[B" (.ref b) ∧ Arv Z h b kb .byte (0 : Int32) [] (.int (0 : Int32))
set_option maxRecDepth 65536 in
set_option maxHeartbeats 40000000 in
theorem rmT0 (l : Launch) (Z : State) (a0 : Array Value) (hw : ∀ d ∈ tables_1, d.before a0 Z = true) (ws : List Jvm.Cond) (x0 : Addr) (si : Addr) (a : Int32) (e_ : Int32) (bv : Addr) (kv : ClassId) (vs : List Value) (cs : Int32) (fm : Value) (h0 : Heap) (n0 : Nat) (Z0 : n0 ≤ h0.size) (O0 : Old Z n0 h0) (p_0 : Fld Z h0 x0 "com/example/lookahead/lookahead/runtime/Token" "input" "Ljava/lang/String;" (.ref si)) (p_1 : Fld Z h0 x0 "com/example/lookahead/lookahead/runtime/Token" "start" "I" (.int a)) (p_2 : Fld Z h0 x0 "com/example/lookahead/lookahead/runtime/Token" "end" "I" (.int e_)) (p_3 : Exa Z h0 si "java/lang/String") (p_4 : Fld Z h0 si "java/lang/String" "coder" "B" (.int (0 : Int32))) (p_5 : Fld Z h0 si "java/lang/String" "value" "[B" (.ref bv)) (p_6 : Arv Z h0 bv kv .byte (4 : Int32) vs (.int (0 : Int32))) (p_7 : Sta Z Z.heap "java/lang/String" "COMPACT_STRINGS" "Z" (.int cs)) (p_8 : ¬ cs = (0 : Int32)) (p_9 : Sta Z Z.heap "jdk/internal/util/Preconditions" "SIOOBE_FORMATTER" "Ljava/util/function/BiFunction;" fm) (p_10 : fm.isRef = true) (p_11 : 0 ≤ a.toInt ∧ a.toInt ≤ 4) (p_12 : a = e_) (p_13 : CHv Z own_EL Z.vm Z.heap) :
    MetFree l (⟨"com/example/lookahead/lookahead/runtime/Token", "text", "()Ljava/lang/String;"⟩ : MethodName) (head1 (Jvm.Cond.code (⟨"com/example/lookahead/lookahead/runtime/Token", "text", "()Ljava/lang/String;"⟩ : MethodName) prog_64_method_3_code 1 (some (.object "java/lang/String")) :: ws) ({ frames := 3, cells := 2, slots := 4, locals := 45 } : Room)) (fun a U => a = #[(.ref x0)] ∧ Z.WarmedH U.vm ∧ U.heap = h0) (fun _ _ _ _ _ => True) (fun _ U o U' => ∃ v L, o = .returned v ∧ Q_rmT0 Z x0 si a e_ bv kv vs cs fm h0 n0 v U'.heap L ∧ ReturnedEndW U o U' L ({ frames := 3, cells := 2, slots := 4, locals := 45 } : Room).cells ({ frames := 3, cells := 2, slots := 4, locals := 45 } : Room).slots) := by
  refine MetFree.of_bodySF (plainFor_of_name pn_0) hisR ?_
  intro p e s m args below meth c s₁ Bd hml0 hP hK
  obtain ⟨rfl, hZH, hh⟩ := hP
  have hZ := hZH.wide
  have hx := Bd.exec
  have hby := Bd.bytes
  have hml : c.maxLocals = 1 := hml0
  have hown : s.vm.findClass "com/example/lookahead/lookahead/runtime/Token" = some m.cls := findClass_of_methodNamed Bd.named
  have hnm := (name_of_methodNamed Bd.named Bd.method).1
  have X0 : Stand p l e ({ frames := 3, cells := 2, slots := 4, locals := 45 } : Room) s m #[(.ref x0)] below meth c s₁ [] 0 0 := Stand.of_body Bd
  have e0 : s₁.heap = h0 := by rw [← hh, Bd.state]; rfl
  have N0 := Fr.nil n0
  show own_EndsW p e below s ({ frames := 3, cells := 2, slots := 4, locals := 45 } : Room).cells ({ frames := 3, cells := 2, slots := 4, locals := 45 } : Room).slots (Q_rmT0 Z x0 si a e_ bv kv vs cs fm h0 n0) (s₁.setTop (entryFrame m #[(.ref x0)] 1))
  rw [ef_8_R]
  refine own_stepW (st' := s₁.setTop (mkF m 1 #[.val (.ref x0)] [(.ref x0)])) (fun t k => XS.aloadN X0.here hx rfl (hb hby d8_0) rfl rfl k) ?_
  obtain ⟨T1, X1, e1, st1⟩ := getF X0 hx hZ hown (host := "") (Or.inl (own_h hw 43 rfl)) Via.refl e0 p_0 (g := (mkF m 1 #[.val (.ref x0)] [(.ref x0)])) rfl rfl (hb hby d8_1)
  refine own_stepW (st' := T1.setTop (mkF m 4 #[.val (.ref x0)] [(.ref si)])) st1 ?_
  refine own_stepW (st' := T1.setTop (mkF m 5 #[.val (.ref x0)] [(.ref x0), (.ref si)])) (fun t k => XS.aloadN X1.here hx rfl (hb hby d8_4) rfl rfl k) ?_
  obtain ⟨T2, X2, e2, st2⟩ := getF X1 hx hZ hown (host := "") (Or.inl (own_h hw 45 rfl)) Via.refl e1 p_1 (g := (mkF m 5 #[.val (.ref x0)] [(.ref x0), (.ref si)])) rfl rfl (hb hby d8_5)
  refine own_stepW (st' := T2.setTop (mkF m 8 #[.val (.ref x0)] [(.int a), (.ref si)])) st2 ?_
  refine own_stepW (st' := T2.setTop (mkF m 9 #[.val (.ref x0)] [(.ref x0), (.int a), (.ref si)])) (fun t k => XS.aloadN X2.here hx rfl (hb hby d8_8) rfl rfl k) ?_
  obtain ⟨T3, X3, e3, st3⟩ := getF X2 hx hZ hown (host := "") (Or.inl (own_h hw 47 rfl)) Via.refl e2 p_2 (g := (mkF m 9 #[.val (.ref x0)] [(.ref x0), (.int a), (.ref si)])) rfl rfl (hb hby d8_9)
  refine own_stepW (st' := T3.setTop (mkF m 12 #[.val (.ref x0)] [(.int e_), (.int a), (.ref si)])) st3 ?_
  obtain ⟨cq4, kq4, q4a, q4b, q4c⟩ := isOf hZ e3 p_3
  obtain ⟨_, _, ⟨T4, L4, k4, n4⟩, -, X4, hS4, hgr4, ⟨Lc4, hQ4, l4, y4, z4⟩, st4⟩ := X3.virtualBackS hx (y := (⟨"java/lang/String", "substring", "(II)Ljava/lang/String;"⟩ : MethodName)) (z := (⟨"java/lang/String", "substring", "(II)Ljava/lang/String;"⟩ : MethodName)) hown (mvT hZ (own_h hw 58 rfl)) (mvT hZ (own_h hw 59 rfl)) (notFace_of_selects (args := #[]) (mvT hZ (own_h hw 61 rfl))) (mvT hZ (own_h hw 61 rfl)) (mvT hZ (own_h hw 60 rfl)) (by decide) (own_backS (W := 0) (rmS0 l Z a0 hw [] si a e_ bv kv vs cs fm h0 n0 Z0 O0 p_3 p_4 p_5 p_6 p_7 p_8 p_9 p_10 p_11 p_12 p_13) hZH (own_h hw 62 rfl) (own_h hw 3 rfl) (by decide) (by decide)) q4a q4c (g := (mkF m 12 #[.val (.ref x0)] [(.int e_), (.int a), (.ref si)])) rfl (by rw [hml]; rfl) (Steps.refl _) (argsL := [(.int a), (.int e_)]) (rest := []) (lenOf pd_8 rfl) rfl (by show 2 * 0 + _ ≤ _; exact Nat.le_of_eq rfl) (hb hby d8_12) (fun _ _ => ⟨rfl, e3, (by decide : 0 + 2 ≤ _), (by decide : 0 + 4 ≤ _)⟩)
  dsimp only [Pt.U, Pt.locs, Pt.cells, Pt.slots] at X4 l4 y4 z4 st4 hQ4 hS4
  subst y4 z4
  obtain ⟨r_4, b_4, kb_4, rfl, N4q, K4, pq4_0, pq4_1, pq4_2, pq4_3⟩ := hQ4
  have N4 := Fr.app N0 N4q
  rw [← l4] at N4
  clear l4
  obtain ⟨h4, e4⟩ : ∃ z, T4.heap = z := ⟨_, rfl⟩
  rw [e4] at K4 pq4_0 pq4_1 pq4_2 pq4_3
  have f5 := p_0.keep K4 nin0
  have f6 := p_1.keep K4 nin0
  have f7 := p_2.keep K4 nin0
  have f8 := p_3.keep K4
  have f9 := p_4.keep K4 nin0
  have f10 := p_5.keep K4 nin0
  have f11 := p_6.keep K4 nin0
  have O12 := O0.keep K4 all0
  have K13 : Keep h0 h4 [] := (Keep.refl h0 []).trans K4 all0
  have Z14 : n0 ≤ h4.size := Nat.le_trans Z0 K4.1
  have hZ : Z.Warmed39 (s.setVm T4.vm).vm := State.Warmed39.trans (t := s) hZ hS4.1
  have hown : (s.setVm T4.vm).vm.findClass "com/example/lookahead/lookahead/runtime/Token" = some m.cls := by rw [show (s.setVm T4.vm).vm = T4.vm from rfl, hS4.1.alike.findClass]; exact hown
  refine own_stepW (st' := T4.setTop (mkF m 15 #[.val (.ref x0)] [(.ref r_4)])) (fun t k => st4.trans k) ?_
  refine own_retW X4 hS4 (Nat.le_of_eq (congrArg Array.size (e4.trans e4.symm))) Bd.notSynchronized (some (.ref r_4)) (fun h => by rw [Bd.returns] at h; cases h) (fun fs hr => retOut X4 hx Bd.returns rfl (Or.inr (Or.inr (Or.inr (Or.inr ⟨rfl, rfl, rfl⟩)))) (hb hby d8_15) hr) ?_ (by decide) (by decide)
  rw [e4]
  exact ⟨r_4, b_4, kb_4, rfl, N4, K13, pq4_0, pq4_1, pq4_2, pq4_3⟩
theorem d5_0 : decode jdk_52_method_21_code 0 = .ok (.iconst 0, 1) := by decide +kernel
theorem d5_1 : decode jdk_52_method_21_code 1 = .ok (.istore 5, 2) := by decide +kernel
theorem d5_3 : decode jdk_52_method_21_code 3 = .ok (.iload 5, 2) := by decide +kernel
theorem d5_5 : decode jdk_52_method_21_code 5 = .ok (.iload 4, 2) := by decide +kernel
theorem d5_7 : decode jdk_52_method_21_code 7 = .ok (.if_icmp .ge 37, 3) := by decide +kernel
theorem d5_10 : decode jdk_52_method_21_code 10 = .ok (.aload_n 0, 1) := by decide +kernel
theorem d5_11 : decode jdk_52_method_21_code 11 = .ok (.iload_n 1, 1) := by decide +kernel
theorem d5_12 : decode jdk_52_method_21_code 12 = .ok (.caload, 1) := by decide +kernel
theorem d5_13 : decode jdk_52_method_21_code 13 = .ok (.istore 6, 2) := by decide +kernel
theorem d5_15 : decode jdk_52_method_21_code 15 = .ok (.iload 6, 2) := by decide +kernel
theorem d5_17 : decode jdk_52_method_21_code 17 = .ok (.sipush 255, 3) := by decide +kernel
theorem d5_20 : decode jdk_52_method_21_code 20 = .ok (.if_icmp .le 6, 3) := by decide +kernel
theorem d5_26 : decode jdk_52_method_21_code 26 = .ok (.aload_n 2, 1) := by decide +kernel
theorem d5_27 : decode jdk_52_method_21_code 27 = .ok (.iload_n 3, 1) := by decide +kernel
theorem d5_28 : decode jdk_52_method_21_code 28 = .ok (.iload 6, 2) := by decide +kernel
theorem d5_30 : decode jdk_52_method_21_code 30 = .ok (.i2b, 1) := by decide +kernel
theorem d5_31 : decode jdk_52_method_21_code 31 = .ok (.bastore, 1) := by decide +kernel
theorem d5_32 : decode jdk_52_method_21_code 32 = .ok (.iinc 1 1, 3) := by decide +kernel
theorem d5_35 : decode jdk_52_method_21_code 35 = .ok (.iinc 3 1, 3) := by decide +kernel
theorem d5_38 : decode jdk_52_method_21_code 38 = .ok (.iinc 5 1, 3) := by decide +kernel
theorem d5_41 : decode jdk_52_method_21_code 41 = .ok (.goto (-38), 3) := by decide +kernel
theorem d5_44 : decode jdk_52_method_21_code 44 = .ok (.iload 4, 2) := by decide +kernel
theorem d5_46 : decode jdk_52_method_21_code 46 = .ok (.ireturn, 1) := by decide +kernel
theorem pn_6 : plainName "java/lang/StringUTF16" = true := by first | (simp [plainName, overriddenIn]; done) | decide +kernel
theorem ef_5_RIRII (m : MethodId) (x0 : Addr) (x1 : Int32) (x2 : Addr) (x3 : Int32) (x4 : Int32) : entryFrame m #[(.ref x0), (.int x1), (.ref x2), (.int x3), (.int x4)] 7 = mkF m 0 #[.val (.ref x0), .val (.int x1), .val (.ref x2), .val (.int x3), .val (.int x4), .unset, .unset] [] := by first | (simp [entryFrame, mkF, argsToLocals, Value.category]; done) | rfl
def Q_rm5 (Z : State) (x0 : Addr) (x1 : Int32) (x2 : Addr) (x3 : Int32) (x4 : Int32) (kc : ClassId) (kb : ClassId) (q0 : Int32) (q1 : Int32) (q2 : Int32) (q3 : Int32) (h0 : Heap) (n0 : Nat) (v : Option Value) (h : Heap) (L : List Loc) : Prop := v = some (.int (4 : Int32)) ∧ Fr n0 L ∧ Keep h0 h [x2] ∧ Arv Z h x2 kb .byte (4 : Int32) [(.int ((q0.toInt8.toInt32).toInt8.toInt32)), (.int ((q1.toInt8.toInt32).toInt8.toInt32)), (.int ((q2.toInt8.toInt32).toInt8.toInt32)), (.int ((q3.toInt8.toInt32).toInt8.toInt32))] (.int (0 : Int32))
set_option maxRecDepth 65536 in
set_option maxHeartbeats 40000000 in
theorem rm5 (l : Launch) (Z : State) (a0 : Array Value) (hw : ∀ d ∈ tables_1, d.before a0 Z = true) (ws : List Jvm.Cond) (x0 : Addr) (x1 : Int32) (x2 : Addr) (x3 : Int32) (x4 : Int32) (kc : ClassId) (kb : ClassId) (q0 : Int32) (q1 : Int32) (q2 : Int32) (q3 : Int32) (h0 : Heap) (n0 : Nat) (Z0 : n0 ≤ h0.size) (p_0 : Arv Z h0 x0 kc .char (4 : Int32) [(.int q0), (.int q1), (.int q2), (.int q3)] (.int (0 : Int32))) (p_1 : Arv Z h0 x2 kb .byte (4 : Int32) [(.int (0 : Int32)), (.int (0 : Int32)), (.int (0 : Int32)), (.int (0 : Int32))] (.int (0 : Int32))) (p_2 : n0 ≤ x2) (p_3 : x0 ≠ x2) (p_4 : 0 ≤ q0.toInt ∧ q0.toInt ≤ 255) (p_5 : 0 ≤ q1.toInt ∧ q1.toInt ≤ 255) (p_6 : 0 ≤ q2.toInt ∧ q2.toInt ≤ 255) (p_7 : 0 ≤ q3.toInt ∧ q3.toInt ≤ 255) (p_8 : x1 = (0 : Int32)) (p_9 : x3 = (0 : Int32)) (p_10 : x4 = (4 : Int32)) :
    MetFree l (⟨"java/lang/StringUTF16", "compress", "([CI[BII)I"⟩ : MethodName) (head1 (Jvm.Cond.code (⟨"java/lang/StringUTF16", "compress", "([CI[BII)I"⟩ : MethodName) jdk_52_method_21_code 7 (some .int) :: ws) ({ frames := 0, cells := 0, slots := 0, locals := 0 } : Room)) (fun a U => a = #[(.ref x0), (.int x1), (.ref x2), (.int x3), (.int x4)] ∧ Z.Warmed39 U.vm ∧ U.heap = h0) (fun _ _ _ _ _ => True) (fun _ U o U' => ∃ v L, o = .returned v ∧ Q_rm5 Z x0 x1 x2 x3 x4 kc kb q0 q1 q2 q3 h0 n0 v U'.heap L ∧ FrameEnd U o U' L ({ frames := 0, cells := 0, slots := 0, locals := 0 } : Room).cells ({ frames := 0, cells := 0, slots := 0, locals := 0 } : Room).slots) := by
  refine MetFree.of_bodySF (plainFor_of_name pn_6) hisR ?_
  intro p e s m args below meth c s₁ Bd hml0 hP hK
  obtain ⟨rfl, hZ, hh⟩ := hP
  have hx := Bd.exec
  have hby := Bd.bytes
  have hml : c.maxLocals = 7 := hml0
  have hown : s.vm.findClass "java/lang/StringUTF16" = some m.cls := findClass_of_methodNamed Bd.named
  have hnm := (name_of_methodNamed Bd.named Bd.method).1
  have X0 : Stand p l e ({ frames := 0, cells := 0, slots := 0, locals := 0 } : Room) s m #[(.ref x0), (.int x1), (.ref x2), (.int x3), (.int x4)] below meth c s₁ [] 0 0 := Stand.of_body Bd
  have e0 : s₁.heap = h0 := by rw [← hh, Bd.state]; rfl
  have N0 := Fr.nil n0
  show own_Ends p e below s ({ frames := 0, cells := 0, slots := 0, locals := 0 } : Room).cells ({ frames := 0, cells := 0, slots := 0, locals := 0 } : Room).slots (Q_rm5 Z x0 x1 x2 x3 x4 kc kb q0 q1 q2 q3 h0 n0) (s₁.setTop (entryFrame m #[(.ref x0), (.int x1), (.ref x2), (.int x3), (.int x4)] 7))
  rw [ef_5_RIRII]
  have h255 : (255 : Int32).toInt = 255 := by decide
  subst p_8
  subst p_9
  subst p_10
  refine own_step (st' := s₁.setTop (mkF m 1 #[.val (.ref x0), .val (.int (0 : Int32)), .val (.ref x2), .val (.int (0 : Int32)), .val (.int (4 : Int32)), .unset, .unset] [(.int (0 : Int32))])) (fun t k => XS.iconst X0.here hx rfl (hb hby d5_0) k) ?_
  refine own_step (st' := s₁.setTop (mkF m 3 #[.val (.ref x0), .val (.int (0 : Int32)), .val (.ref x2), .val (.int (0 : Int32)), .val (.int (4 : Int32)), .val (.int (0 : Int32)), .unset] [])) (fun t k => XS.istore X0.here hx rfl (hb hby d5_1) rfl (l' := #[.val (.ref x0), .val (.int (0 : Int32)), .val (.ref x2), .val (.int (0 : Int32)), .val (.int (4 : Int32)), .val (.int (0 : Int32)), .unset]) rfl k) ?_
  refine own_step (st' := s₁.setTop (mkF m 5 #[.val (.ref x0), .val (.int (0 : Int32)), .val (.ref x2), .val (.int (0 : Int32)), .val (.int (4 : Int32)), .val (.int (0 : Int32)), .unset] [(.int (0 : Int32))])) (fun t k => XS.iload X0.here hx rfl (hb hby d5_3) rfl k) ?_
  refine own_step (st' := s₁.setTop (mkF m 7 #[.val (.ref x0), .val (.int (0 : Int32)), .val (.ref x2), .val (.int (0 : Int32)), .val (.int (4 : Int32)), .val (.int (0 : Int32)), .unset] [(.int (4 : Int32)), (.int (0 : Int32))])) (fun t k => XS.iload X0.here hx rfl (hb hby d5_5) rfl k) ?_
  refine own_step (st' := s₁.setTop (mkF m 10 #[.val (.ref x0), .val (.int (0 : Int32)), .val (.ref x2), .val (.int (0 : Int32)), .val (.int (4 : Int32)), .val (.int (0 : Int32)), .unset] [])) (fun t k => XS.icmpNo X0.here hx rfl (hb hby d5_7) rfl (tlt (by decide)).2.1 k) ?_
  refine own_step (st' := s₁.setTop (mkF m 11 #[.val (.ref x0), .val (.int (0 : Int32)), .val (.ref x2), .val (.int (0 : Int32)), .val (.int (4 : Int32)), .val (.int (0 : Int32)), .unset] [(.ref x0)])) (fun t k => XS.aloadN X0.here hx rfl (hb hby d5_10) rfl rfl k) ?_
  refine own_step (st' := s₁.setTop (mkF m 12 #[.val (.ref x0), .val (.int (0 : Int32)), .val (.ref x2), .val (.int (0 : Int32)), .val (.int (4 : Int32)), .val (.int (0 : Int32)), .unset] [(.int (0 : Int32)), (.ref x0)])) (fun t k => XS.iloadN X0.here hx rfl (hb hby d5_11) rfl k) ?_
  refine own_step (st' := s₁.setTop (mkF m 13 #[.val (.ref x0), .val (.int (0 : Int32)), .val (.ref x2), .val (.int (0 : Int32)), .val (.int (4 : Int32)), .val (.int (0 : Int32)), .unset] [(.int q0)])) (fun t k => own_ldC X0 hx hZ e0 p_0 (j := (0 : Int32)) (v := (.int q0)) ⟨by decide, by decide⟩ rfl (g := (mkF m 12 #[.val (.ref x0), .val (.int (0 : Int32)), .val (.ref x2), .val (.int (0 : Int32)), .val (.int (4 : Int32)), .val (.int (0 : Int32)), .unset] [(.int (0 : Int32)), (.ref x0)])) rfl rfl (hb hby d5_12) t k) ?_
  refine own_step (st' := s₁.setTop (mkF m 15 #[.val (.ref x0), .val (.int (0 : Int32)), .val (.ref x2), .val (.int (0 : Int32)), .val (.int (4 : Int32)), .val (.int (0 : Int32)), .val (.int q0)] [])) (fun t k => XS.istore X0.here hx rfl (hb hby d5_13) rfl (l' := #[.val (.ref x0), .val (.int (0 : Int32)), .val (.ref x2), .val (.int (0 : Int32)), .val (.int (4 : Int32)), .val (.int (0 : Int32)), .val (.int q0)]) rfl k) ?_
  refine own_step (st' := s₁.setTop (mkF m 17 #[.val (.ref x0), .val (.int (0 : Int32)), .val (.ref x2), .val (.int (0 : Int32)), .val (.int (4 : Int32)), .val (.int (0 : Int32)), .val (.int q0)] [(.int q0)])) (fun t k => XS.iload X0.here hx rfl (hb hby d5_15) rfl k) ?_
  refine own_step (st' := s₁.setTop (mkF m 20 #[.val (.ref x0), .val (.int (0 : Int32)), .val (.ref x2), .val (.int (0 : Int32)), .val (.int (4 : Int32)), .val (.int (0 : Int32)), .val (.int q0)] [(.int (255 : Int32)), (.int q0)])) (fun t k => XS.sipush X0.here hx rfl (hb hby d5_17) k) ?_
  refine own_step (st' := s₁.setTop (mkF m 26 #[.val (.ref x0), .val (.int (0 : Int32)), .val (.ref x2), .val (.int (0 : Int32)), .val (.int (4 : Int32)), .val (.int (0 : Int32)), .val (.int q0)] [])) (fun t k => XS.icmpYes X0.here hx rfl (pc0 := 20) (pc' := 26) rfl (hb hby d5_20) rfl (flt (own_ge (by rw [h255]; exact p_4.2))).2.2.2 (by decide) (by decide) k) ?_
  refine own_step (st' := s₁.setTop (mkF m 27 #[.val (.ref x0), .val (.int (0 : Int32)), .val (.ref x2), .val (.int (0 : Int32)), .val (.int (4 : Int32)), .val (.int (0 : Int32)), .val (.int q0)] [(.ref x2)])) (fun t k => XS.aloadN X0.here hx rfl (hb hby d5_26) rfl rfl k) ?_
  refine own_step (st' := s₁.setTop (mkF m 28 #[.val (.ref x0), .val (.int (0 : Int32)), .val (.ref x2), .val (.int (0 : Int32)), .val (.int (4 : Int32)), .val (.int (0 : Int32)), .val (.int q0)] [(.int (0 : Int32)), (.ref x2)])) (fun t k => XS.iloadN X0.here hx rfl (hb hby d5_27) rfl k) ?_
  refine own_step (st' := s₁.setTop (mkF m 30 #[.val (.ref x0), .val (.int (0 : Int32)), .val (.ref x2), .val (.int (0 : Int32)), .val (.int (4 : Int32)), .val (.int (0 : Int32)), .val (.int q0)] [(.int q0), (.int (0 : Int32)), (.ref x2)])) (fun t k => XS.iload X0.here hx rfl (hb hby d5_28) rfl k) ?_
  refine own_step (st' := s₁.setTop (mkF m 31 #[.val (.ref x0), .val (.int (0 : Int32)), .val (.ref x2), .val (.int (0 : Int32)), .val (.int (4 : Int32)), .val (.int (0 : Int32)), .val (.int q0)] [(.int (q0.toInt8.toInt32)), (.int (0 : Int32)), (.ref x2)])) (fun t k => XS.i2b X0.here hx rfl (hb hby d5_30) rfl k) ?_
  obtain ⟨T1, h1, X1, e1, W1, V1, st1⟩ := own_stB X0 hx hZ e0 p_1 (j := (0 : Int32)) (i := 0) ⟨by decide, by decide⟩ rfl (Nat.le_of_ble_eq_true rfl) (g := (mkF m 31 #[.val (.ref x0), .val (.int (0 : Int32)), .val (.ref x2), .val (.int (0 : Int32)), .val (.int (4 : Int32)), .val (.int (0 : Int32)), .val (.int q0)] [(.int (q0.toInt8.toInt32)), (.int (0 : Int32)), (.ref x2)])) rfl rfl (hb hby d5_31)
  have V1 : Arv Z h1 x2 kb .byte (4 : Int32) [(.int ((q0.toInt8.toInt32).toInt8.toInt32)), (.int (0 : Int32)), (.int (0 : Int32)), (.int (0 : Int32))] (.int (0 : Int32)) := V1
  have f2 := p_0.other W1 p_3
  have K3 : Keep h0 h1 [x2] := (Keep.refl h0 [x2]).wr W1 (Or.inl (List.mem_of_getElem? (i := 0) rfl))
  have Z4 : n0 ≤ h1.size := Nat.le_trans Z0 (Keep.of_wr W1).1
  have N5 := Fr.snoc X1 N0 p_2
  refine own_step (st' := T1.setTop (mkF m 32 #[.val (.ref x0), .val (.int (0 : Int32)), .val (.ref x2), .val (.int (0 : Int32)), .val (.int (4 : Int32)), .val (.int (0 : Int32)), .val (.int q0)] [])) st1 ?_
  refine own_step (st' := T1.setTop (mkF m 35 #[.val (.ref x0), .val (.int (1 : Int32)), .val (.ref x2), .val (.int (0 : Int32)), .val (.int (4 : Int32)), .val (.int (0 : Int32)), .val (.int q0)] [])) (fun t k => XS.iinc X1.here hx rfl (hb hby d5_32) rfl (l' := #[.val (.ref x0), .val (.int (1 : Int32)), .val (.ref x2), .val (.int (0 : Int32)), .val (.int (4 : Int32)), .val (.int (0 : Int32)), .val (.int q0)]) rfl k) ?_
  refine own_step (st' := T1.setTop (mkF m 38 #[.val (.ref x0), .val (.int (1 : Int32)), .val (.ref x2), .val (.int (1 : Int32)), .val (.int (4 : Int32)), .val (.int (0 : Int32)), .val (.int q0)] [])) (fun t k => XS.iinc X1.here hx rfl (hb hby d5_35) rfl (l' := #[.val (.ref x0), .val (.int (1 : Int32)), .val (.ref x2), .val (.int (1 : Int32)), .val (.int (4 : Int32)), .val (.int (0 : Int32)), .val (.int q0)]) rfl k) ?_
  refine own_step (st' := T1.setTop (mkF m 41 #[.val (.ref x0), .val (.int (1 : Int32)), .val (.ref x2), .val (.int (1 : Int32)), .val (.int (4 : Int32)), .val (.int (1 : Int32)), .val (.int q0)] [])) (fun t k => XS.iinc X1.here hx rfl (hb hby d5_38) rfl (l' := #[.val (.ref x0), .val (.int (1 : Int32)), .val (.ref x2), .val (.int (1 : Int32)), .val (.int (4 : Int32)), .val (.int (1 : Int32)), .val (.int q0)]) rfl k) ?_
  refine own_step (st' := T1.setTop (mkF m 3 #[.val (.ref x0), .val (.int (1 : Int32)), .val (.ref x2), .val (.int (1 : Int32)), .val (.int (4 : Int32)), .val (.int (1 : Int32)), .val (.int q0)] [])) (fun t k => XS.goto X1.here hx rfl (pc0 := 41) (pc' := 3) rfl (hb hby d5_41) (by decide) (by decide) k) ?_
  refine own_step (st' := T1.setTop (mkF m 5 #[.val (.ref x0), .val (.int (1 : Int32)), .val (.ref x2), .val (.int (1 : Int32)), .val (.int (4 : Int32)), .val (.int (1 : Int32)), .val (.int q0)] [(.int (1 : Int32))])) (fun t k => XS.iload X1.here hx rfl (hb hby d5_3) rfl k) ?_
  refine own_step (st' := T1.setTop (mkF m 7 #[.val (.ref x0), .val (.int (1 : Int32)), .val (.ref x2), .val (.int (1 : Int32)), .val (.int (4 : Int32)), .val (.int (1 : Int32)), .val (.int q0)] [(.int (4 : Int32)), (.int (1 : Int32))])) (fun t k => XS.iload X1.here hx rfl (hb hby d5_5) rfl k) ?_
  refine own_step (st' := T1.setTop (mkF m 10 #[.val (.ref x0), .val (.int (1 : Int32)), .val (.ref x2), .val (.int (1 : Int32)), .val (.int (4 : Int32)), .val (.int (1 : Int32)), .val (.int q0)] [])) (fun t k => XS.icmpNo X1.here hx rfl (hb hby d5_7) rfl (tlt (by decide)).2.1 k) ?_
  refine own_step (st' := T1.setTop (mkF m 11 #[.val (.ref x0), .val (.int (1 : Int32)), .val (.ref x2), .val (.int (1 : Int32)), .val (.int (4 : Int32)), .val (.int (1 : Int32)), .val (.int q0)] [(.ref x0)])) (fun t k => XS.aloadN X1.here hx rfl (hb hby d5_10) rfl rfl k) ?_
  refine own_step (st' := T1.setTop (mkF m 12 #[.val (.ref x0), .val (.int (1 : Int32)), .val (.ref x2), .val (.int (1 : Int32)), .val (.int (4 : Int32)), .val (.int (1 : Int32)), .val (.int q0)] [(.int (1 : Int32)), (.ref x0)])) (fun t k => XS.iloadN X1.here hx rfl (hb hby d5_11) rfl k) ?_
  refine own_step (st' := T1.setTop (mkF m 13 #[.val (.ref x0), .val (.int (1 : Int32)), .val (.ref x2), .val (.int (1 : Int32)), .val (.int (4 : Int32)), .val (.int (1 : Int32)), .val (.int q0)] [(.int q1)])) (fun t k => own_ldC X1 hx hZ e1 f2 (j := (1 : Int32)) (v := (.int q1)) ⟨by decide, by decide⟩ rfl (g := (mkF m 12 #[.val (.ref x0), .val (.int (1 : Int32)), .val (.ref x2), .val (.int (1 : Int32)), .val (.int (4 : Int32)), .val (.int (1 : Int32)), .val (.int q0)] [(.int (1 : Int32)), (.ref x0)])) rfl rfl (hb hby d5_12) t k) ?_
  refine own_step (st' := T1.setTop (mkF m 15 #[.val (.ref x0), .val (.int (1 : Int32)), .val (.ref x2), .val (.int (1 : Int32)), .val (.int (4 : Int32)), .val (.int (1 : Int32)), .val (.int q1)] [])) (fun t k => XS.istore X1.here hx rfl (hb hby d5_13) rfl (l' := #[.val (.ref x0), .val (.int (1 : Int32)), .val (.ref x2), .val (.int (1 : Int32)), .val (.int (4 : Int32)), .val (.int (1 : Int32)), .val (.int q1)]) rfl k) ?_
  refine own_step (st' := T1.setTop (mkF m 17 #[.val (.ref x0), .val (.int (1 : Int32)), .val (.ref x2), .val (.int (1 : Int32)), .val (.int (4 : Int32)), .val (.int (1 : Int32)), .val (.int q1)] [(.int q1)])) (fun t k => XS.iload X1.here hx rfl (hb hby d5_15) rfl k) ?_
  refine own_step (st' := T1.setTop (mkF m 20 #[.val (.ref x0), .val (.int (1 : Int32)), .val (.ref x2), .val (.int (1 : Int32)), .val (.int (4 : Int32)), .val (.int (1 : Int32)), .val (.int q1)] [(.int (255 : Int32)), (.int q1)])) (fun t k => XS.sipush X1.here hx rfl (hb hby d5_17) k) ?_
  refine own_step (st' := T1.setTop (mkF m 26 #[.val (.ref x0), .val (.int (1 : Int32)), .val (.ref x2), .val (.int (1 : Int32)), .val (.int (4 : Int32)), .val (.int (1 : Int32)), .val (.int q1)] [])) (fun t k => XS.icmpYes X1.here hx rfl (pc0 := 20) (pc' := 26) rfl (hb hby d5_20) rfl (flt (own_ge (by rw [h255]; exact p_5.2))).2.2.2 (by decide) (by decide) k) ?_
  refine own_step (st' := T1.setTop (mkF m 27 #[.val (.ref x0), .val (.int (1 : Int32)), .val (.ref x2), .val (.int (1 : Int32)), .val (.int (4 : Int32)), .val (.int (1 : Int32)), .val (.int q1)] [(.ref x2)])) (fun t k => XS.aloadN X1.here hx rfl (hb hby d5_26) rfl rfl k) ?_
  refine own_step (st' := T1.setTop (mkF m 28 #[.val (.ref x0), .val (.int (1 : Int32)), .val (.ref x2), .val (.int (1 : Int32)), .val (.int (4 : Int32)), .val (.int (1 : Int32)), .val (.int q1)] [(.int (1 : Int32)), (.ref x2)])) (fun t k => XS.iloadN X1.here hx rfl (hb hby d5_27) rfl k) ?_
  refine own_step (st' := T1.setTop (mkF m 30 #[.val (.ref x0), .val (.int (1 : Int32)), .val (.ref x2), .val (.int (1 : Int32)), .val (.int (4 : Int32)), .val (.int (1 : Int32)), .val (.int q1)] [(.int q1), (.int (1 : Int32)), (.ref x2)])) (fun t k => XS.iload X1.here hx rfl (hb hby d5_28) rfl k) ?_
  refine own_step (st' := T1.setTop (mkF m 31 #[.val (.ref x0), .val (.int (1 : Int32)), .val (.ref x2), .val (.int (1 : Int32)), .val (.int (4 : Int32)), .val (.int (1 : Int32)), .val (.int q1)] [(.int (q1.toInt8.toInt32)), (.int (1 : Int32)), (.ref x2)])) (fun t k => XS.i2b X1.here hx rfl (hb hby d5_30) rfl k) ?_
  obtain ⟨T6, h6, X6, e6, W6, V6, st6⟩ := own_stB X1 hx hZ e1 V1 (j := (1 : Int32)) (i := 1) ⟨by decide, by decide⟩ rfl (Nat.le_of_ble_eq_true rfl) (g := (mkF m 31 #[.val (.ref x0), .val (.int (1 : Int32)), .val (.ref x2), .val (.int (1 : Int32)), .val (.int (4 : Int32)), .val (.int (1 : Int32)), .val (.int q1)] [(.int (q1.toInt8.toInt32)), (.int (1 : Int32)), (.ref x2)])) rfl rfl (hb hby d5_31)
  have V6 : Arv Z h6 x2 kb .byte (4 : Int32) [(.int ((q0.toInt8.toInt32).toInt8.toInt32)), (.int ((q1.toInt8.toInt32).toInt8.toInt32)), (.int (0 : Int32)), (.int (0 : Int32))] (.int (0 : Int32)) := V6
  have f7 := f2.other W6 p_3
  have K8 : Keep h0 h6 [x2] := K3.wr W6 (Or.inl (List.mem_of_getElem? (i := 0) rfl))
  have Z9 : n0 ≤ h6.size := Nat.le_trans Z4 (Keep.of_wr W6).1
  have N10 := Fr.snoc X6 N5 p_2
  refine own_step (st' := T6.setTop (mkF m 32 #[.val (.ref x0), .val (.int (1 : Int32)), .val (.ref x2), .val (.int (1 : Int32)), .val (.int (4 : Int32)), .val (.int (1 : Int32)), .val (.int q1)] [])) st6 ?_
  refine own_step (st' := T6.setTop (mkF m 35 #[.val (.ref x0), .val (.int (2 : Int32)), .val (.ref x2), .val (.int (1 : Int32)), .val (.int (4 : Int32)), .val (.int (1 : Int32)), .val (.int q1)] [])) (fun t k => XS.iinc X6.here hx rfl (hb hby d5_32) rfl (l' := #[.val (.ref x0), .val (.int (2 : Int32)), .val (.ref x2), .val (.int (1 : Int32)), .val (.int (4 : Int32)), .val (.int (1 : Int32)), .val (.int q1)]) rfl k) ?_
  refine own_step (st' := T6.setTop (mkF m 38 #[.val (.ref x0), .val (.int (2 : Int32)), .val (.ref x2), .val (.int (2 : Int32)), .val (.int (4 : Int32)), .val (.int (1 : Int32)), .val (.int q1)] [])) (fun t k => XS.iinc X6.here hx rfl (hb hby d5_35) rfl (l' := #[.val (.ref x0), .val (.int (2 : Int32)), .val (.ref x2), .val (.int (2 : Int32)), .val (.int (4 : Int32)), .val (.int (1 : Int32)), .val (.int q1)]) rfl k) ?_
  refine own_step (st' := T6.setTop (mkF m 41 #[.val (.ref x0), .val (.int (2 : Int32)), .val (.ref x2), .val (.int (2 : Int32)), .val (.int (4 : Int32)), .val (.int (2 : Int32)), .val (.int q1)] [])) (fun t k => XS.iinc X6.here hx rfl (hb hby d5_38) rfl (l' := #[.val (.ref x0), .val (.int (2 : Int32)), .val (.ref x2), .val (.int (2 : Int32)), .val (.int (4 : Int32)), .val (.int (2 : Int32)), .val (.int q1)]) rfl k) ?_
  refine own_step (st' := T6.setTop (mkF m 3 #[.val (.ref x0), .val (.int (2 : Int32)), .val (.ref x2), .val (.int (2 : Int32)), .val (.int (4 : Int32)), .val (.int (2 : Int32)), .val (.int q1)] [])) (fun t k => XS.goto X6.here hx rfl (pc0 := 41) (pc' := 3) rfl (hb hby d5_41) (by decide) (by decide) k) ?_
  refine own_step (st' := T6.setTop (mkF m 5 #[.val (.ref x0), .val (.int (2 : Int32)), .val (.ref x2), .val (.int (2 : Int32)), .val (.int (4 : Int32)), .val (.int (2 : Int32)), .val (.int q1)] [(.int (2 : Int32))])) (fun t k => XS.iload X6.here hx rfl (hb hby d5_3) rfl k) ?_
  refine own_step (st' := T6.setTop (mkF m 7 #[.val (.ref x0), .val (.int (2 : Int32)), .val (.ref x2), .val (.int (2 : Int32)), .val (.int (4 : Int32)), .val (.int (2 : Int32)), .val (.int q1)] [(.int (4 : Int32)), (.int (2 : Int32))])) (fun t k => XS.iload X6.here hx rfl (hb hby d5_5) rfl k) ?_
  refine own_step (st' := T6.setTop (mkF m 10 #[.val (.ref x0), .val (.int (2 : Int32)), .val (.ref x2), .val (.int (2 : Int32)), .val (.int (4 : Int32)), .val (.int (2 : Int32)), .val (.int q1)] [])) (fun t k => XS.icmpNo X6.here hx rfl (hb hby d5_7) rfl (tlt (by decide)).2.1 k) ?_
  refine own_step (st' := T6.setTop (mkF m 11 #[.val (.ref x0), .val (.int (2 : Int32)), .val (.ref x2), .val (.int (2 : Int32)), .val (.int (4 : Int32)), .val (.int (2 : Int32)), .val (.int q1)] [(.ref x0)])) (fun t k => XS.aloadN X6.here hx rfl (hb hby d5_10) rfl rfl k) ?_
  refine own_step (st' := T6.setTop (mkF m 12 #[.val (.ref x0), .val (.int (2 : Int32)), .val (.ref x2), .val (.int (2 : Int32)), .val (.int (4 : Int32)), .val (.int (2 : Int32)), .val (.int q1)] [(.int (2 : Int32)), (.ref x0)])) (fun t k => XS.iloadN X6.here hx rfl (hb hby d5_11) rfl k) ?_
  refine own_step (st' := T6.setTop (mkF m 13 #[.val (.ref x0), .val (.int (2 : Int32)), .val (.ref x2), .val (.int (2 : Int32)), .val (.int (4 : Int32)), .val (.int (2 : Int32)), .val (.int q1)] [(.int q2)])) (fun t k => own_ldC X6 hx hZ e6 f7 (j := (2 : Int32)) (v := (.int q2)) ⟨by decide, by decide⟩ rfl (g := (mkF m 12 #[.val (.ref x0), .val (.int (2 : Int32)), .val (.ref x2), .val (.int (2 : Int32)), .val (.int (4 : Int32)), .val (.int (2 : Int32)), .val (.int q1)] [(.int (2 : Int32)), (.ref x0)])) rfl rfl (hb hby d5_12) t k) ?_
  refine own_step (st' := T6.setTop (mkF m 15 #[.val (.ref x0), .val (.int (2 : Int32)), .val (.ref x2), .val (.int (2 : Int32)), .val (.int (4 : Int32)), .val (.int (2 : Int32)), .val (.int q2)] [])) (fun t k => XS.istore X6.here hx rfl (hb hby d5_13) rfl (l' := #[.val (.ref x0), .val (.int (2 : Int32)), .val (.ref x2), .val (.int (2 : Int32)), .val (.int (4 : Int32)), .val (.int (2 : Int32)), .val (.int q2)]) rfl k) ?_
  refine own_step (st' := T6.setTop (mkF m 17 #[.val (.ref x0), .val (.int (2 : Int32)), .val (.ref x2), .val (.int (2 : Int32)), .val (.int (4 : Int32)), .val (.int (2 : Int32)), .val (.int q2)] [(.int q2)])) (fun t k => XS.iload X6.here hx rfl (hb hby d5_15) rfl k) ?_
  refine own_step (st' := T6.setTop (mkF m 20 #[.val (.ref x0), .val (.int (2 : Int32)), .val (.ref x2), .val (.int (2 : Int32)), .val (.int (4 : Int32)), .val (.int (2 : Int32)), .val (.int q2)] [(.int (255 : Int32)), (.int q2)])) (fun t k => XS.sipush X6.here hx rfl (hb hby d5_17) k) ?_
  refine own_step (st' := T6.setTop (mkF m 26 #[.val (.ref x0), .val (.int (2 : Int32)), .val (.ref x2), .val (.int (2 : Int32)), .val (.int (4 : Int32)), .val (.int (2 : Int32)), .val (.int q2)] [])) (fun t k => XS.icmpYes X6.here hx rfl (pc0 := 20) (pc' := 26) rfl (hb hby d5_20) rfl (flt (own_ge (by rw [h255]; exact p_6.2))).2.2.2 (by decide) (by decide) k) ?_
  refine own_step (st' := T6.setTop (mkF m 27 #[.val (.ref x0), .val (.int (2 : Int32)), .val (.ref x2), .val (.int (2 : Int32)), .val (.int (4 : Int32)), .val (.int (2 : Int32)), .val (.int q2)] [(.ref x2)])) (fun t k => XS.aloadN X6.here hx rfl (hb hby d5_26) rfl rfl k) ?_
  refine own_step (st' := T6.setTop (mkF m 28 #[.val (.ref x0), .val (.int (2 : Int32)), .val (.ref x2), .val (.int (2 : Int32)), .val (.int (4 : Int32)), .val (.int (2 : Int32)), .val (.int q2)] [(.int (2 : Int32)), (.ref x2)])) (fun t k => XS.iloadN X6.here hx rfl (hb hby d5_27) rfl k) ?_
  refine own_step (st' := T6.setTop (mkF m 30 #[.val (.ref x0), .val (.int (2 : Int32)), .val (.ref x2), .val (.int (2 : Int32)), .val (.int (4 : Int32)), .val (.int (2 : Int32)), .val (.int q2)] [(.int q2), (.int (2 : Int32)), (.ref x2)])) (fun t k => XS.iload X6.here hx rfl (hb hby d5_28) rfl k) ?_
  refine own_step (st' := T6.setTop (mkF m 31 #[.val (.ref x0), .val (.int (2 : Int32)), .val (.ref x2), .val (.int (2 : Int32)), .val (.int (4 : Int32)), .val (.int (2 : Int32)), .val (.int q2)] [(.int (q2.toInt8.toInt32)), (.int (2 : Int32)), (.ref x2)])) (fun t k => XS.i2b X6.here hx rfl (hb hby d5_30) rfl k) ?_
  obtain ⟨T11, h11, X11, e11, W11, V11, st11⟩ := own_stB X6 hx hZ e6 V6 (j := (2 : Int32)) (i := 2) ⟨by decide, by decide⟩ rfl (Nat.le_of_ble_eq_true rfl) (g := (mkF m 31 #[.val (.ref x0), .val (.int (2 : Int32)), .val (.ref x2), .val (.int (2 : Int32)), .val (.int (4 : Int32)), .val (.int (2 : Int32)), .val (.int q2)] [(.int (q2.toInt8.toInt32)), (.int (2 : Int32)), (.ref x2)])) rfl rfl (hb hby d5_31)
  have V11 : Arv Z h11 x2 kb .byte (4 : Int32) [(.int ((q0.toInt8.toInt32).toInt8.toInt32)), (.int ((q1.toInt8.toInt32).toInt8.toInt32)), (.int ((q2.toInt8.toInt32).toInt8.toInt32)), (.int (0 : Int32))] (.int (0 : Int32)) := V11
  have f12 := f7.other W11 p_3
  have K13 : Keep h0 h11 [x2] := K8.wr W11 (Or.inl (List.mem_of_getElem? (i := 0) rfl))
  have Z14 : n0 ≤ h11.size := Nat.le_trans Z9 (Keep.of_wr W11).1
  have N15 := Fr.snoc X11 N10 p_2
  refine own_step (st' := T11.setTop (mkF m 32 #[.val (.ref x0), .val (.int (2 : Int32)), .val (.ref x2), .val (.int (2 : Int32)), .val (.int (4 : Int32)), .val (.int (2 : Int32)), .val (.int q2)] [])) st11 ?_
  refine own_step (st' := T11.setTop (mkF m 35 #[.val (.ref x0), .val (.int (3 : Int32)), .val (.ref x2), .val (.int (2 : Int32)), .val (.int (4 : Int32)), .val (.int (2 : Int32)), .val (.int q2)] [])) (fun t k => XS.iinc X11.here hx rfl (hb hby d5_32) rfl (l' := #[.val (.ref x0), .val (.int (3 : Int32)), .val (.ref x2), .val (.int (2 : Int32)), .val (.int (4 : Int32)), .val (.int (2 : Int32)), .val (.int q2)]) rfl k) ?_
  refine own_step (st' := T11.setTop (mkF m 38 #[.val (.ref x0), .val (.int (3 : Int32)), .val (.ref x2), .val (.int (3 : Int32)), .val (.int (4 : Int32)), .val (.int (2 : Int32)), .val (.int q2)] [])) (fun t k => XS.iinc X11.here hx rfl (hb hby d5_35) rfl (l' := #[.val (.ref x0), .val (.int (3 : Int32)), .val (.ref x2), .val (.int (3 : Int32)), .val (.int (4 : Int32)), .val (.int (2 : Int32)), .val (.int q2)]) rfl k) ?_
  refine own_step (st' := T11.setTop (mkF m 41 #[.val (.ref x0), .val (.int (3 : Int32)), .val (.ref x2), .val (.int (3 : Int32)), .val (.int (4 : Int32)), .val (.int (3 : Int32)), .val (.int q2)] [])) (fun t k => XS.iinc X11.here hx rfl (hb hby d5_38) rfl (l' := #[.val (.ref x0), .val (.int (3 : Int32)), .val (.ref x2), .val (.int (3 : Int32)), .val (.int (4 : Int32)), .val (.int (3 : Int32)), .val (.int q2)]) rfl k) ?_
  refine own_step (st' := T11.setTop (mkF m 3 #[.val (.ref x0), .val (.int (3 : Int32)), .val (.ref x2), .val (.int (3 : Int32)), .val (.int (4 : Int32)), .val (.int (3 : Int32)), .val (.int q2)] [])) (fun t k => XS.goto X11.here hx rfl (pc0 := 41) (pc' := 3) rfl (hb hby d5_41) (by decide) (by decide) k) ?_
  refine own_step (st' := T11.setTop (mkF m 5 #[.val (.ref x0), .val (.int (3 : Int32)), .val (.ref x2), .val (.int (3 : Int32)), .val (.int (4 : Int32)), .val (.int (3 : Int32)), .val (.int q2)] [(.int (3 : Int32))])) (fun t k => XS.iload X11.here hx rfl (hb hby d5_3) rfl k) ?_
  refine own_step (st' := T11.setTop (mkF m 7 #[.val (.ref x0), .val (.int (3 : Int32)), .val (.ref x2), .val (.int (3 : Int32)), .val (.int (4 : Int32)), .val (.int (3 : Int32)), .val (.int q2)] [(.int (4 : Int32)), (.int (3 : Int32))])) (fun t k => XS.iload X11.here hx rfl (hb hby d5_5) rfl k) ?_
  refine own_step (st' := T11.setTop (mkF m 10 #[.val (.ref x0), .val (.int (3 : Int32)), .val (.ref x2), .val (.int (3 : Int32)), .val (.int (4 : Int32)), .val (.int (3 : Int32)), .val (.int q2)] [])) (fun t k => XS.icmpNo X11.here hx rfl (hb hby d5_7) rfl (tlt (by decide)).2.1 k) ?_
  refine own_step (st' := T11.setTop (mkF m 11 #[.val (.ref x0), .val (.int (3 : Int32)), .val (.ref x2), .val (.int (3 : Int32)), .val (.int (4 : Int32)), .val (.int (3 : Int32)), .val (.int q2)] [(.ref x0)])) (fun t k => XS.aloadN X11.here hx rfl (hb hby d5_10) rfl rfl k) ?_
  refine own_step (st' := T11.setTop (mkF m 12 #[.val (.ref x0), .val (.int (3 : Int32)), .val (.ref x2), .val (.int (3 : Int32)), .val (.int (4 : Int32)), .val (.int (3 : Int32)), .val (.int q2)] [(.int (3 : Int32)), (.ref x0)])) (fun t k => XS.iloadN X11.here hx rfl (hb hby d5_11) rfl k) ?_
  refine own_step (st' := T11.setTop (mkF m 13 #[.val (.ref x0), .val (.int (3 : Int32)), .val (.ref x2), .val (.int (3 : Int32)), .val (.int (4 : Int32)), .val (.int (3 : Int32)), .val (.int q2)] [(.int q3)])) (fun t k => own_ldC X11 hx hZ e11 f12 (j := (3 : Int32)) (v := (.int q3)) ⟨by decide, by decide⟩ rfl (g := (mkF m 12 #[.val (.ref x0), .val (.int (3 : Int32)), .val (.ref x2), .val (.int (3 : Int32)), .val (.int (4 : Int32)), .val (.int (3 : Int32)), .val (.int q2)] [(.int (3 : Int32)), (.ref x0)])) rfl rfl (hb hby d5_12) t k) ?_
  refine own_step (st' := T11.setTop (mkF m 15 #[.val (.ref x0), .val (.int (3 : Int32)), .val (.ref x2), .val (.int (3 : Int32)), .val (.int (4 : Int32)), .val (.int (3 : Int32)), .val (.int q3)] [])) (fun t k => XS.istore X11.here hx rfl (hb hby d5_13) rfl (l' := #[.val (.ref x0), .val (.int (3 : Int32)), .val (.ref x2), .val (.int (3 : Int32)), .val (.int (4 : Int32)), .val (.int (3 : Int32)), .val (.int q3)]) rfl k) ?_
  refine own_step (st' := T11.setTop (mkF m 17 #[.val (.ref x0), .val (.int (3 : Int32)), .val (.ref x2), .val (.int (3 : Int32)), .val (.int (4 : Int32)), .val (.int (3 : Int32)), .val (.int q3)] [(.int q3)])) (fun t k => XS.iload X11.here hx rfl (hb hby d5_15) rfl k) ?_
  refine own_step (st' := T11.setTop (mkF m 20 #[.val (.ref x0), .val (.int (3 : Int32)), .val (.ref x2), .val (.int (3 : Int32)), .val (.int (4 : Int32)), .val (.int (3 : Int32)), .val (.int q3)] [(.int (255 : Int32)), (.int q3)])) (fun t k => XS.sipush X11.here hx rfl (hb hby d5_17) k) ?_
  refine own_step (st' := T11.setTop (mkF m 26 #[.val (.ref x0), .val (.int (3 : Int32)), .val (.ref x2), .val (.int (3 : Int32)), .val (.int (4 : Int32)), .val (.int (3 : Int32)), .val (.int q3)] [])) (fun t k => XS.icmpYes X11.here hx rfl (pc0 := 20) (pc' := 26) rfl (hb hby d5_20) rfl (flt (own_ge (by rw [h255]; exact p_7.2))).2.2.2 (by decide) (by decide) k) ?_
  refine own_step (st' := T11.setTop (mkF m 27 #[.val (.ref x0), .val (.int (3 : Int32)), .val (.ref x2), .val (.int (3 : Int32)), .val (.int (4 : Int32)), .val (.int (3 : Int32)), .val (.int q3)] [(.ref x2)])) (fun t k => XS.aloadN X11.here hx rfl (hb hby d5_26) rfl rfl k) ?_
  refine own_step (st' := T11.setTop (mkF m 28 #[.val (.ref x0), .val (.int (3 : Int32)), .val (.ref x2), .val (.int (3 : Int32)), .val (.int (4 : Int32)), .val (.int (3 : Int32)), .val (.int q3)] [(.int (3 : Int32)), (.ref x2)])) (fun t k => XS.iloadN X11.here hx rfl (hb hby d5_27) rfl k) ?_
  refine own_step (st' := T11.setTop (mkF m 30 #[.val (.ref x0), .val (.int (3 : Int32)), .val (.ref x2), .val (.int (3 : Int32)), .val (.int (4 : Int32)), .val (.int (3 : Int32)), .val (.int q3)] [(.int q3), (.int (3 : Int32)), (.ref x2)])) (fun t k => XS.iload X11.here hx rfl (hb hby d5_28) rfl k) ?_
  refine own_step (st' := T11.setTop (mkF m 31 #[.val (.ref x0), .val (.int (3 : Int32)), .val (.ref x2), .val (.int (3 : Int32)), .val (.int (4 : Int32)), .val (.int (3 : Int32)), .val (.int q3)] [(.int (q3.toInt8.toInt32)), (.int (3 : Int32)), (.ref x2)])) (fun t k => XS.i2b X11.here hx rfl (hb hby d5_30) rfl k) ?_
  obtain ⟨T16, h16, X16, e16, W16, V16, st16⟩ := own_stB X11 hx hZ e11 V11 (j := (3 : Int32)) (i := 3) ⟨by decide, by decide⟩ rfl (Nat.le_of_ble_eq_true rfl) (g := (mkF m 31 #[.val (.ref x0), .val (.int (3 : Int32)), .val (.ref x2), .val (.int (3 : Int32)), .val (.int (4 : Int32)), .val (.int (3 : Int32)), .val (.int q3)] [(.int (q3.toInt8.toInt32)), (.int (3 : Int32)), (.ref x2)])) rfl rfl (hb hby d5_31)
  have V16 : Arv Z h16 x2 kb .byte (4 : Int32) [(.int ((q0.toInt8.toInt32).toInt8.toInt32)), (.int ((q1.toInt8.toInt32).toInt8.toInt32)), (.int ((q2.toInt8.toInt32).toInt8.toInt32)), (.int ((q3.toInt8.toInt32).toInt8.toInt32))] (.int (0 : Int32)) := V16
  have f17 := f12.other W16 p_3
  have K18 : Keep h0 h16 [x2] := K13.wr W16 (Or.inl (List.mem_of_getElem? (i := 0) rfl))
  have Z19 : n0 ≤ h16.size := Nat.le_trans Z14 (Keep.of_wr W16).1
  have N20 := Fr.snoc X16 N15 p_2
  refine own_step (st' := T16.setTop (mkF m 32 #[.val (.ref x0), .val (.int (3 : Int32)), .val (.ref x2), .val (.int (3 : Int32)), .val (.int (4 : Int32)), .val (.int (3 : Int32)), .val (.int q3)] [])) st16 ?_
  refine own_step (st' := T16.setTop (mkF m 35 #[.val (.ref x0), .val (.int (4 : Int32)), .val (.ref x2), .val (.int (3 : Int32)), .val (.int (4 : Int32)), .val (.int (3 : Int32)), .val (.int q3)] [])) (fun t k => XS.iinc X16.here hx rfl (hb hby d5_32) rfl (l' := #[.val (.ref x0), .val (.int (4 : Int32)), .val (.ref x2), .val (.int (3 : Int32)), .val (.int (4 : Int32)), .val (.int (3 : Int32)), .val (.int q3)]) rfl k) ?_
  refine own_step (st' := T16.setTop (mkF m 38 #[.val (.ref x0), .val (.int (4 : Int32)), .val (.ref x2), .val (.int (4 : Int32)), .val (.int (4 : Int32)), .val (.int (3 : Int32)), .val (.int q3)] [])) (fun t k => XS.iinc X16.here hx rfl (hb hby d5_35) rfl (l' := #[.val (.ref x0), .val (.int (4 : Int32)), .val (.ref x2), .val (.int (4 : Int32)), .val (.int (4 : Int32)), .val (.int (3 : Int32)), .val (.int q3)]) rfl k) ?_
  refine own_step (st' := T16.setTop (mkF m 41 #[.val (.ref x0), .val (.int (4 : Int32)), .val (.ref x2), .val (.int (4 : Int32)), .val (.int (4 : Int32)), .val (.int (4 : Int32)), .val (.int q3)] [])) (fun t k => XS.iinc X16.here hx rfl (hb hby d5_38) rfl (l' := #[.val (.ref x0), .val (.int (4 : Int32)), .val (.ref x2), .val (.int (4 : Int32)), .val (.int (4 : Int32)), .val (.int (4 : Int32)), .val (.int q3)]) rfl k) ?_
  refine own_step (st' := T16.setTop (mkF m 3 #[.val (.ref x0), .val (.int (4 : Int32)), .val (.ref x2), .val (.int (4 : Int32)), .val (.int (4 : Int32)), .val (.int (4 : Int32)), .val (.int q3)] [])) (fun t k => XS.goto X16.here hx rfl (pc0 := 41) (pc' := 3) rfl (hb hby d5_41) (by decide) (by decide) k) ?_
  refine own_step (st' := T16.setTop (mkF m 5 #[.val (.ref x0), .val (.int (4 : Int32)), .val (.ref x2), .val (.int (4 : Int32)), .val (.int (4 : Int32)), .val (.int (4 : Int32)), .val (.int q3)] [(.int (4 : Int32))])) (fun t k => XS.iload X16.here hx rfl (hb hby d5_3) rfl k) ?_
  refine own_step (st' := T16.setTop (mkF m 7 #[.val (.ref x0), .val (.int (4 : Int32)), .val (.ref x2), .val (.int (4 : Int32)), .val (.int (4 : Int32)), .val (.int (4 : Int32)), .val (.int q3)] [(.int (4 : Int32)), (.int (4 : Int32))])) (fun t k => XS.iload X16.here hx rfl (hb hby d5_5) rfl k) ?_
  refine own_step (st' := T16.setTop (mkF m 44 #[.val (.ref x0), .val (.int (4 : Int32)), .val (.ref x2), .val (.int (4 : Int32)), .val (.int (4 : Int32)), .val (.int (4 : Int32)), .val (.int q3)] [])) (fun t k => XS.icmpYes X16.here hx rfl (pc0 := 7) (pc' := 44) rfl (hb hby d5_7) rfl (flt (by decide)).2.1 (by decide) (by decide) k) ?_
  refine own_step (st' := T16.setTop (mkF m 46 #[.val (.ref x0), .val (.int (4 : Int32)), .val (.ref x2), .val (.int (4 : Int32)), .val (.int (4 : Int32)), .val (.int (4 : Int32)), .val (.int q3)] [(.int (4 : Int32))])) (fun t k => XS.iload X16.here hx rfl (hb hby d5_44) rfl k) ?_
  refine own_ret X16 Bd.notSynchronized (some (.int (4 : Int32))) (fun h => by rw [Bd.returns] at h; cases h) (fun fs hr => own_retI X16 hx Bd.returns (hb hby d5_46) hr) ?_ (by decide) (by decide)
  rw [e16]
  exact ⟨rfl, N20, K18, V16⟩
theorem d4_0 : decode jdk_52_method_16_code 0 = .ok (.iload_n 2, 1) := by decide +kernel
theorem d4_1 : decode jdk_52_method_16_code 1 = .ok (.newarray .byte, 2) := by decide +kernel
theorem d4_3 : decode jdk_52_method_16_code 3 = .ok (.astore_n 3, 1) := by decide +kernel
theorem d4_4 : decode jdk_52_method_16_code 4 = .ok (.aload_n 0, 1) := by decide +kernel
theorem d4_5 : decode jdk_52_method_16_code 5 = .ok (.iload_n 1, 1) := by decide +kernel
theorem d4_6 : decode jdk_52_method_16_code 6 = .ok (.aload_n 3, 1) := by decide +kernel
theorem d4_7 : decode jdk_52_method_16_code 7 = .ok (.iconst 0, 1) := by decide +kernel
theorem d4_8 : decode jdk_52_method_16_code 8 = .ok (.iload_n 2, 1) := by decide +kernel
theorem d4_9 : decode jdk_52_method_16_code 9 = .ok (.invokestatic 115, 3) := by decide +kernel
theorem d4_12 : decode jdk_52_method_16_code 12 = .ok (.istore 4, 2) := by decide +kernel
theorem d4_14 : decode jdk_52_method_16_code 14 = .ok (.iload 4, 2) := by decide +kernel
theorem d4_16 : decode jdk_52_method_16_code 16 = .ok (.iload_n 2, 1) := by decide +kernel
theorem d4_17 : decode jdk_52_method_16_code 17 = .ok (.if_icmp .eq 40, 3) := by decide +kernel
theorem d4_57 : decode jdk_52_method_16_code 57 = .ok (.aload_n 3, 1) := by decide +kernel
theorem d4_58 : decode jdk_52_method_16_code 58 = .ok (.areturn, 1) := by decide +kernel
theorem ef_4_RII (m : MethodId) (x0 : Addr) (x1 : Int32) (x2 : Int32) : entryFrame m #[(.ref x0), (.int x1), (.int x2)] 6 = mkF m 0 #[.val (.ref x0), .val (.int x1), .val (.int x2), .unset, .unset, .unset] [] := by first | (simp [entryFrame, mkF, argsToLocals, Value.category]; done) | rfl
def Q_rm4 (Z : State) (x0 : Addr) (x1 : Int32) (x2 : Int32) (kc : ClassId) (q0 : Int32) (q1 : Int32) (q2 : Int32) (q3 : Int32) (h0 : Heap) (n0 : Nat) (v : Option Value) (h : Heap) (L : List Loc) : Prop := ∃ b : Addr, ∃ kb : ClassId, v = some (.ref b) ∧ Fr n0 L ∧ Keep h0 h [] ∧ h0.size ≤ b ∧ Arv Z h b kb .byte (4 : Int32) [(.int ((q0.toInt8.toInt32).toInt8.toInt32)), (.int ((q1.toInt8.toInt32).toInt8.toInt32)), (.int ((q2.toInt8.toInt32).toInt8.toInt32)), (.int ((q3.toInt8.toInt32).toInt8.toInt32))] (.int (0 : Int32))
set_option maxRecDepth 65536 in
set_option maxHeartbeats 40000000 in
theorem rm4 (l : Launch) (Z : State) (a0 : Array Value) (hw : ∀ d ∈ tables_1, d.before a0 Z = true) (ws : List Jvm.Cond) (x0 : Addr) (x1 : Int32) (x2 : Int32) (kc : ClassId) (q0 : Int32) (q1 : Int32) (q2 : Int32) (q3 : Int32) (h0 : Heap) (n0 : Nat) (Z0 : n0 ≤ h0.size) (p_0 : Arv Z h0 x0 kc .char (4 : Int32) [(.int q0), (.int q1), (.int q2), (.int q3)] (.int (0 : Int32))) (p_1 : 0 ≤ q0.toInt ∧ q0.toInt ≤ 255) (p_2 : 0 ≤ q1.toInt ∧ q1.toInt ≤ 255) (p_3 : 0 ≤ q2.toInt ∧ q2.toInt ≤ 255) (p_4 : 0 ≤ q3.toInt ∧ q3.toInt ≤ 255) (p_5 : x1 = (0 : Int32)) (p_6 : x2 = (4 : Int32)) :
    MetFree l (⟨"java/lang/StringUTF16", "compress", "([CII)[B"⟩ : MethodName) (head1 (Jvm.Cond.code (⟨"java/lang/StringUTF16", "compress", "([CII)[B"⟩ : MethodName) jdk_52_method_16_code 6 (some (.array .byte)) :: ws) ({ frames := 1, cells := 1, slots := 4, locals := 18 } : Room)) (fun a U => a = #[(.ref x0), (.int x1), (.int x2)] ∧ Z.Warmed39 U.vm ∧ U.heap = h0) (fun _ _ _ _ _ => True) (fun _ U o U' => ∃ v L, o = .returned v ∧ Q_rm4 Z x0 x1 x2 kc q0 q1 q2 q3 h0 n0 v U'.heap L ∧ FrameEnd U o U' L ({ frames := 1, cells := 1, slots := 4, locals := 18 } : Room).cells ({ frames := 1, cells := 1, slots := 4, locals := 18 } : Room).slots) := by
  refine MetFree.of_bodySF (plainFor_of_name pn_6) hisR ?_
  intro p e s m args below meth c s₁ Bd hml0 hP hK
  obtain ⟨rfl, hZ, hh⟩ := hP
  have hx := Bd.exec
  have hby := Bd.bytes
  have hml : c.maxLocals = 6 := hml0
  have hown : s.vm.findClass "java/lang/StringUTF16" = some m.cls := findClass_of_methodNamed Bd.named
  have hnm := (name_of_methodNamed Bd.named Bd.method).1
  have X0 : Stand p l e ({ frames := 1, cells := 1, slots := 4, locals := 18 } : Room) s m #[(.ref x0), (.int x1), (.int x2)] below meth c s₁ [] 0 0 := Stand.of_body Bd
  have e0 : s₁.heap = h0 := by rw [← hh, Bd.state]; rfl
  have N0 := Fr.nil n0
  show own_Ends p e below s ({ frames := 1, cells := 1, slots := 4, locals := 18 } : Room).cells ({ frames := 1, cells := 1, slots := 4, locals := 18 } : Room).slots (Q_rm4 Z x0 x1 x2 kc q0 q1 q2 q3 h0 n0) (s₁.setTop (entryFrame m #[(.ref x0), (.int x1), (.int x2)] 6))
  rw [ef_4_RII]
  subst p_5
  subst p_6
  refine own_step (st' := s₁.setTop (mkF m 1 #[.val (.ref x0), .val (.int (0 : Int32)), .val (.int (4 : Int32)), .unset, .unset, .unset] [(.int (4 : Int32))])) (fun t k => XS.iloadN X0.here hx rfl (hb hby d4_0) rfl k) ?_
  obtain ⟨T1, h1, k1, X1, e1, E1, A1, st1⟩ := newP X0 hx hZ (own_h hw 19 rfl) e0 (g := (mkF m 1 #[.val (.ref x0), .val (.int (0 : Int32)), .val (.int (4 : Int32)), .unset, .unset, .unset] [(.int (4 : Int32))])) rfl (hb hby d4_1) rfl (by decide) (cap := 4) (by decide) (by decide) (by decide) (by decide)
  obtain ⟨b1, g1⟩ : ∃ z, z = h0.size := ⟨_, rfl⟩
  rw [← g1] at A1 st1
  have ne2 : x0 ≠ b1 := Nat.ne_of_lt (Nat.lt_of_lt_of_le p_0.lt (Nat.le_of_eq g1.symm))
  have g_b1 : n0 ≤ b1 := Nat.le_trans Z0 (Nat.le_of_eq g1.symm)
  have sz_b1 : h0.size ≤ b1 := Nat.le_trans (Keep.refl h0 []).1 (Nat.le_of_eq g1.symm)
  have f3 := p_0.ext E1
  have K4 : Keep h0 h1 [] := (Keep.refl h0 []).ext E1
  have Z5 : n0 ≤ h1.size := Nat.le_trans Z0 E1.1
  have V1 : Arv Z h1 b1 k1 .byte (4 : Int32) [(.int (0 : Int32)), (.int (0 : Int32)), (.int (0 : Int32)), (.int (0 : Int32))] (.int (0 : Int32)) := (Arv.new A1 (by decide)).pad (pad_rep [] (.int (0 : Int32)) 4)
  refine own_step (st' := T1.setTop (mkF m 3 #[.val (.ref x0), .val (.int (0 : Int32)), .val (.int (4 : Int32)), .unset, .unset, .unset] [(.ref b1)])) st1 ?_
  refine own_step (st' := T1.setTop (mkF m 4 #[.val (.ref x0), .val (.int (0 : Int32)), .val (.int (4 : Int32)), .val (.ref b1), .unset, .unset] [])) (fun t k => XS.astoreN X1.here hx rfl (hb hby d4_3) rfl rfl (l' := #[.val (.ref x0), .val (.int (0 : Int32)), .val (.int (4 : Int32)), .val (.ref b1), .unset, .unset]) rfl k) ?_
  refine own_step (st' := T1.setTop (mkF m 5 #[.val (.ref x0), .val (.int (0 : Int32)), .val (.int (4 : Int32)), .val (.ref b1), .unset, .unset] [(.ref x0)])) (fun t k => XS.aloadN X1.here hx rfl (hb hby d4_4) rfl rfl k) ?_
  refine own_step (st' := T1.setTop (mkF m 6 #[.val (.ref x0), .val (.int (0 : Int32)), .val (.int (4 : Int32)), .val (.ref b1), .unset, .unset] [(.int (0 : Int32)), (.ref x0)])) (fun t k => XS.iloadN X1.here hx rfl (hb hby d4_5) rfl k) ?_
  refine own_step (st' := T1.setTop (mkF m 7 #[.val (.ref x0), .val (.int (0 : Int32)), .val (.int (4 : Int32)), .val (.ref b1), .unset, .unset] [(.ref b1), (.int (0 : Int32)), (.ref x0)])) (fun t k => XS.aloadN X1.here hx rfl (hb hby d4_6) rfl rfl k) ?_
  refine own_step (st' := T1.setTop (mkF m 8 #[.val (.ref x0), .val (.int (0 : Int32)), .val (.int (4 : Int32)), .val (.ref b1), .unset, .unset] [(.int (0 : Int32)), (.ref b1), (.int (0 : Int32)), (.ref x0)])) (fun t k => XS.iconst X1.here hx rfl (hb hby d4_7) k) ?_
  refine own_step (st' := T1.setTop (mkF m 9 #[.val (.ref x0), .val (.int (0 : Int32)), .val (.int (4 : Int32)), .val (.ref b1), .unset, .unset] [(.int (4 : Int32)), (.int (0 : Int32)), (.ref b1), (.int (0 : Int32)), (.ref x0)])) (fun t k => XS.iloadN X1.here hx rfl (hb hby d4_8) rfl k) ?_
  obtain ⟨_, _, ⟨T6, L6, k6, n6⟩, -, X6, ⟨Lc6, hQ6, l6, y6, z6⟩, st6⟩ := Jvm.LawKit.callS X1 hx (y := (⟨"java/lang/StringUTF16", "compress", "([CI[BII)I"⟩ : MethodName)) hown (mvT hZ (own_h hw 20 rfl)) (mvT hZ (own_h hw 21 rfl)) (mvT hZ (own_h hw 17 rfl)) (mvT hZ (own_h hw 22 rfl)) (by decide) (backOf (W := 0) (rm5 l Z a0 hw [] x0 (0 : Int32) b1 (0 : Int32) (4 : Int32) kc k1 q0 q1 q2 q3 h1 n0 Z5 f3 V1 g_b1 ne2 p_1 p_2 p_3 p_4 rfl rfl rfl) hZ (own_h hw 22 rfl) (own_h hw 17 rfl) (by decide) (by decide)) (g := (mkF m 9 #[.val (.ref x0), .val (.int (0 : Int32)), .val (.int (4 : Int32)), .val (.ref b1), .unset, .unset] [(.int (4 : Int32)), (.int (0 : Int32)), (.ref b1), (.int (0 : Int32)), (.ref x0)])) rfl (by rw [hml]; rfl) (argsL := [(.ref x0), (.int (0 : Int32)), (.ref b1), (.int (0 : Int32)), (.int (4 : Int32))]) (rest := []) (lenOf pd_4 rfl) rfl (by show 2 * 0 + _ ≤ _; exact Nat.le_of_eq rfl) (hb hby d4_9) (fun _ _ => ⟨rfl, e1, (by decide : 1 + 0 ≤ _), (by decide : 4 + 0 ≤ _)⟩)
  dsimp only [Pt.U, Pt.locs, Pt.cells, Pt.slots] at X6 l6 y6 z6 st6 hQ6
  subst y6 z6
  obtain ⟨rfl, N6q, K6, pq6_0⟩ := hQ6
  have N6 := Fr.app N0 N6q
  rw [← l6] at N6
  clear l6
  obtain ⟨h6, e6⟩ : ∃ z, T6.heap = z := ⟨_, rfl⟩
  rw [e6] at K6 pq6_0
  have f7 := f3.keep K6 (ninS ne2 nin0)
  have K8 : Keep h0 h6 [] := K4.trans K6 (allS (Or.inr sz_b1) all0)
  have Z9 : n0 ≤ h6.size := Nat.le_trans Z5 K6.1
  refine own_step (st' := T6.setTop (mkF m 12 #[.val (.ref x0), .val (.int (0 : Int32)), .val (.int (4 : Int32)), .val (.ref b1), .unset, .unset] [(.int (4 : Int32))])) st6 ?_
  refine own_step (st' := T6.setTop (mkF m 14 #[.val (.ref x0), .val (.int (0 : Int32)), .val (.int (4 : Int32)), .val (.ref b1), .val (.int (4 : Int32)), .unset] [])) (fun t k => XS.istore X6.here hx rfl (hb hby d4_12) rfl (l' := #[.val (.ref x0), .val (.int (0 : Int32)), .val (.int (4 : Int32)), .val (.ref b1), .val (.int (4 : Int32)), .unset]) rfl k) ?_
  refine own_step (st' := T6.setTop (mkF m 16 #[.val (.ref x0), .val (.int (0 : Int32)), .val (.int (4 : Int32)), .val (.ref b1), .val (.int (4 : Int32)), .unset] [(.int (4 : Int32))])) (fun t k => XS.iload X6.here hx rfl (hb hby d4_14) rfl k) ?_
  refine own_step (st' := T6.setTop (mkF m 17 #[.val (.ref x0), .val (.int (0 : Int32)), .val (.int (4 : Int32)), .val (.ref b1), .val (.int (4 : Int32)), .unset] [(.int (4 : Int32)), (.int (4 : Int32))])) (fun t k => XS.iloadN X6.here hx rfl (hb hby d4_16) rfl k) ?_
  refine own_step (st' := T6.setTop (mkF m 57 #[.val (.ref x0), .val (.int (0 : Int32)), .val (.int (4 : Int32)), .val (.ref b1), .val (.int (4 : Int32)), .unset] [])) (fun t k => XS.icmpYes X6.here hx rfl (pc0 := 17) (pc' := 57) rfl (hb hby d4_17) rfl (teq (by decide)).1 (by decide) (by decide) k) ?_
  refine own_step (st' := T6.setTop (mkF m 58 #[.val (.ref x0), .val (.int (0 : Int32)), .val (.int (4 : Int32)), .val (.ref b1), .val (.int (4 : Int32)), .unset] [(.ref b1)])) (fun t k => XS.aloadN X6.here hx rfl (hb hby d4_57) rfl rfl k) ?_
  refine own_ret X6 Bd.notSynchronized (some (.ref b1)) (fun h => by rw [Bd.returns] at h; cases h) (fun fs hr => retOut X6 hx Bd.returns rfl (Or.inr (Or.inr (Or.inr (Or.inr ⟨rfl, rfl, rfl⟩)))) (hb hby d4_58) hr) ?_ (by decide) (by decide)
  rw [e6]
  exact ⟨b1, k1, rfl, N6, K8, sz_b1, pq6_0⟩
theorem d6_0 : decode jdk_52_method_15_code 0 = .ok (.iload_n 1, 1) := by decide +kernel
theorem d6_1 : decode jdk_52_method_15_code 1 = .ok (.aload_n 0, 1) := by decide +kernel
theorem d6_2 : decode jdk_52_method_15_code 2 = .ok (.arraylength, 1) := by decide +kernel
theorem d6_3 : decode jdk_52_method_15_code 3 = .ok (.isub, 1) := by decide +kernel
theorem d6_4 : decode jdk_52_method_15_code 4 = .ok (.bipush 31, 2) := by decide +kernel
theorem d6_6 : decode jdk_52_method_15_code 6 = .ok (.iushr, 1) := by decide +kernel
theorem d6_7 : decode jdk_52_method_15_code 7 = .ok (.i2b, 1) := by decide +kernel
theorem d6_8 : decode jdk_52_method_15_code 8 = .ok (.ireturn, 1) := by decide +kernel
theorem ef_6_RI (m : MethodId) (x0 : Addr) (x1 : Int32) : entryFrame m #[(.ref x0), (.int x1)] 2 = mkF m 0 #[.val (.ref x0), .val (.int x1)] [] := by first | (simp [entryFrame, mkF, argsToLocals, Value.category]; done) | rfl
def Q_rm6 (Z : State) (x0 : Addr) (x1 : Int32) (k : ClassId) (n : Int32) (vs : List Value) (h0 : Heap) (n0 : Nat) (v : Option Value) (h : Heap) (L : List Loc) : Prop := v = some (.int (0 : Int32)) ∧ Fr n0 L ∧ h = h0
set_option maxRecDepth 65536 in
set_option maxHeartbeats 40000000 in
theorem rm6 (l : Launch) (Z : State) (a0 : Array Value) (hw : ∀ d ∈ tables_1, d.before a0 Z = true) (ws : List Jvm.Cond) (x0 : Addr) (x1 : Int32) (k : ClassId) (n : Int32) (vs : List Value) (h0 : Heap) (n0 : Nat) (Z0 : n0 ≤ h0.size) (p_0 : Arv Z h0 x0 k .byte n vs (.int (0 : Int32))) (p_1 : n = (4 : Int32)) (p_2 : x1 = (4 : Int32)) :
    MetFree l (⟨"java/lang/StringUTF16", "coderFromArrayLen", "([BI)B"⟩ : MethodName) (head1 (Jvm.Cond.code (⟨"java/lang/StringUTF16", "coderFromArrayLen", "([BI)B"⟩ : MethodName) jdk_52_method_15_code 2 (some .byte) :: ws) ({ frames := 0, cells := 0, slots := 0, locals := 0 } : Room)) (fun a U => a = #[(.ref x0), (.int x1)] ∧ Z.Warmed39 U.vm ∧ U.heap = h0) (fun _ _ _ _ _ => True) (fun _ U o U' => ∃ v L, o = .returned v ∧ Q_rm6 Z x0 x1 k n vs h0 n0 v U'.heap L ∧ FrameEnd U o U' L ({ frames := 0, cells := 0, slots := 0, locals := 0 } : Room).cells ({ frames := 0, cells := 0, slots := 0, locals := 0 } : Room).slots) := by
  refine MetFree.of_bodySF (plainFor_of_name pn_6) hisR ?_
  intro p e s m args below meth c s₁ Bd hml0 hP hK
  obtain ⟨rfl, hZ, hh⟩ := hP
  have hx := Bd.exec
  have hby := Bd.bytes
  have hml : c.maxLocals = 2 := hml0
  have hown : s.vm.findClass "java/lang/StringUTF16" = some m.cls := findClass_of_methodNamed Bd.named
  have hnm := (name_of_methodNamed Bd.named Bd.method).1
  have X0 : Stand p l e ({ frames := 0, cells := 0, slots := 0, locals := 0 } : Room) s m #[(.ref x0), (.int x1)] below meth c s₁ [] 0 0 := Stand.of_body Bd
  have e0 : s₁.heap = h0 := by rw [← hh, Bd.state]; rfl
  have N0 := Fr.nil n0
  show own_Ends p e below s ({ frames := 0, cells := 0, slots := 0, locals := 0 } : Room).cells ({ frames := 0, cells := 0, slots := 0, locals := 0 } : Room).slots (Q_rm6 Z x0 x1 k n vs h0 n0) (s₁.setTop (entryFrame m #[(.ref x0), (.int x1)] 2))
  rw [ef_6_RI]
  subst p_1
  subst p_2
  refine own_step (st' := s₁.setTop (mkF m 1 #[.val (.ref x0), .val (.int (4 : Int32))] [(.int (4 : Int32))])) (fun t k => XS.iloadN X0.here hx rfl (hb hby d6_0) rfl k) ?_
  refine own_step (st' := s₁.setTop (mkF m 2 #[.val (.ref x0), .val (.int (4 : Int32))] [(.ref x0), (.int (4 : Int32))])) (fun t k => XS.aloadN X0.here hx rfl (hb hby d6_1) rfl rfl k) ?_
  refine own_step (st' := s₁.setTop (mkF m 3 #[.val (.ref x0), .val (.int (4 : Int32))] [(.int (4 : Int32)), (.int (4 : Int32))])) (fun t k => own_len X0 hx hZ e0 p_0 (g := (mkF m 2 #[.val (.ref x0), .val (.int (4 : Int32))] [(.ref x0), (.int (4 : Int32))])) rfl rfl (hb hby d6_2) t k) ?_
  refine own_step (st' := s₁.setTop (mkF m 4 #[.val (.ref x0), .val (.int (4 : Int32))] [(.int (0 : Int32))])) (fun t k => XS.isub X0.here hx rfl (hb hby d6_3) rfl k) ?_
  refine own_step (st' := s₁.setTop (mkF m 6 #[.val (.ref x0), .val (.int (4 : Int32))] [(.int (31 : Int32)), (.int (0 : Int32))])) (fun t k => XS.bipush X0.here hx rfl (hb hby d6_4) k) ?_
  refine own_step (st' := s₁.setTop (mkF m 7 #[.val (.ref x0), .val (.int (4 : Int32))] [(.int (0 : Int32))])) (fun t k => XS.iushr X0.here hx rfl (hb hby d6_6) rfl k) ?_
  refine own_step (st' := s₁.setTop (mkF m 8 #[.val (.ref x0), .val (.int (4 : Int32))] [(.int ((0 : Int32).toInt8.toInt32))])) (fun t k => XS.i2b X0.here hx rfl (hb hby d6_7) rfl k) ?_
  refine own_ret X0 Bd.notSynchronized (some (.int (nar .byte ((0 : Int32).toInt8.toInt32)))) (fun h => by rw [Bd.returns] at h; cases h) (fun fs hr => retN X0 hx (t := .byte) Bd.returns (by simp) (hb hby d6_8) hr) ?_ (by decide) (by decide)
  rw [e0]
  exact ⟨rfl, N0, rfl⟩
theorem d2_0 : decode jdk_42_method_149_code 0 = .ok (.aload_n 0, 1) := by decide +kernel
theorem d2_1 : decode jdk_42_method_149_code 1 = .ok (.invokespecial 1, 3) := by decide +kernel
theorem d2_4 : decode jdk_42_method_149_code 4 = .ok (.iload_n 3, 1) := by decide +kernel
theorem d2_5 : decode jdk_42_method_149_code 5 = .ok (.ifCond .ne 22, 3) := by decide +kernel
theorem d2_27 : decode jdk_42_method_149_code 27 = .ok (.getstatic 38, 3) := by decide +kernel
theorem d2_30 : decode jdk_42_method_149_code 30 = .ok (.ifCond .eq 28, 3) := by decide +kernel
theorem d2_33 : decode jdk_42_method_149_code 33 = .ok (.aload_n 1, 1) := by decide +kernel
theorem d2_34 : decode jdk_42_method_149_code 34 = .ok (.iload_n 2, 1) := by decide +kernel
theorem d2_35 : decode jdk_42_method_149_code 35 = .ok (.iload_n 3, 1) := by decide +kernel
theorem d2_36 : decode jdk_42_method_149_code 36 = .ok (.invokestatic 177, 3) := by decide +kernel
theorem d2_39 : decode jdk_42_method_149_code 39 = .ok (.astore 5, 2) := by decide +kernel
theorem d2_41 : decode jdk_42_method_149_code 41 = .ok (.aload_n 0, 1) := by decide +kernel
theorem d2_42 : decode jdk_42_method_149_code 42 = .ok (.aload 5, 2) := by decide +kernel
theorem d2_44 : decode jdk_42_method_149_code 44 = .ok (.iload_n 3, 1) := by decide +kernel
theorem d2_45 : decode jdk_42_method_149_code 45 = .ok (.invokestatic 47, 3) := by decide +kernel
theorem d2_48 : decode jdk_42_method_149_code 48 = .ok (.putfield 15, 3) := by decide +kernel
theorem d2_51 : decode jdk_42_method_149_code 51 = .ok (.aload_n 0, 1) := by decide +kernel
theorem d2_52 : decode jdk_42_method_149_code 52 = .ok (.aload 5, 2) := by decide +kernel
theorem d2_54 : decode jdk_42_method_149_code 54 = .ok (.putfield 9, 3) := by decide +kernel
theorem d2_57 : decode jdk_42_method_149_code 57 = .ok (.return_, 1) := by decide +kernel
theorem ef_2_RRIIN (m : MethodId) (x0 : Addr) (x1 : Addr) (x2 : Int32) (x3 : Int32) : entryFrame m #[(.ref x0), (.ref x1), (.int x2), (.int x3), .null] 6 = mkF m 0 #[.val (.ref x0), .val (.ref x1), .val (.int x2), .val (.int x3), .val .null, .unset] [] := by first | (simp [entryFrame, mkF, argsToLocals, Value.category]; done) | rfl
def Q_rm2 (Z : State) (x0 : Addr) (x1 : Addr) (x2 : Int32) (x3 : Int32) (kc : ClassId) (q0 : Int32) (q1 : Int32) (q2 : Int32) (q3 : Int32) (cs : Int32) (h0 : Heap) (n0 : Nat) (v : Option Value) (h : Heap) (L : List Loc) : Prop := ∃ b : Addr, ∃ kb : ClassId, v = none ∧ Fr n0 L ∧ Keep h0 h [x0] ∧ h0.size ≤ b ∧ Fld Z h x0 "java/lang/String" "coder" "B" (.int (0 : Int32)) ∧ Fld Z h x0 "java/lang/String" "value" "[B" (.ref b) ∧ Arv Z h b kb .byte (4 : Int32) [(.int ((q0.toInt8.toInt32).toInt8.toInt32)), (.int ((q1.toInt8.toInt32).toInt8.toInt32)), (.int ((q2.toInt8.toInt32).toInt8.toInt32)), (.int ((q3.toInt8.toInt32).toInt8.toInt32))] (.int (0 : Int32))
set_option maxRecDepth 65536 in
set_option maxHeartbeats 40000000 in
theorem rm2 (l : Launch) (Z : State) (a0 : Array Value) (hw : ∀ d ∈ tables_1, d.before a0 Z = true) (ws : List Jvm.Cond) (x0 : Addr) (x1 : Addr) (x2 : Int32) (x3 : Int32) (kc : ClassId) (q0 : Int32) (q1 : Int32) (q2 : Int32) (q3 : Int32) (cs : Int32) (h0 : Heap) (n0 : Nat) (Z0 : n0 ≤ h0.size) (O0 : Old Z n0 h0) (p_0 : Fld Z h0 x0 "java/lang/String" "coder" "B" (.int (0 : Int32))) (p_1 : Fld Z h0 x0 "java/lang/String" "value" "[B" .null) (p_2 : Exa Z h0 x0 "java/lang/String") (p_3 : n0 ≤ x0) (p_4 : x1 ≠ x0) (p_5 : Arv Z h0 x1 kc .char (4 : Int32) [(.int q0), (.int q1), (.int q2), (.int q3)] (.int (0 : Int32))) (p_6 : 0 ≤ q0.toInt ∧ q0.toInt ≤ 255) (p_7 : 0 ≤ q1.toInt ∧ q1.toInt ≤ 255) (p_8 : 0 ≤ q2.toInt ∧ q2.toInt ≤ 255) (p_9 : 0 ≤ q3.toInt ∧ q3.toInt ≤ 255) (p_10 : Sta Z Z.heap "java/lang/String" "COMPACT_STRINGS" "Z" (.int cs)) (p_11 : ¬ cs = (0 : Int32)) (p_12 : x2 = (0 : Int32)) (p_13 : x3 = (4 : Int32)) :
    MetFree l (⟨"java/lang/String", "<init>", "([CIILjava/lang/Void;)V"⟩ : MethodName) (head1 (Jvm.Cond.code (⟨"java/lang/String", "<init>", "([CIILjava/lang/Void;)V"⟩ : MethodName) jdk_42_method_149_code 6 none :: ws) ({ frames := 2, cells := 1, slots := 4, locals := 35 } : Room)) (fun a U => a = #[(.ref x0), (.ref x1), (.int x2), (.int x3), .null] ∧ Z.Warmed39 U.vm ∧ U.heap = h0) (fun _ _ _ _ _ => True) (fun _ U o U' => ∃ v L, o = .returned v ∧ Q_rm2 Z x0 x1 x2 x3 kc q0 q1 q2 q3 cs h0 n0 v U'.heap L ∧ FrameEnd U o U' L ({ frames := 2, cells := 1, slots := 4, locals := 35 } : Room).cells ({ frames := 2, cells := 1, slots := 4, locals := 35 } : Room).slots) := by
  refine MetFree.of_bodySF (plainFor_of_name pn_4) hisR ?_
  intro p e s m args below meth c s₁ Bd hml0 hP hK
  obtain ⟨rfl, hZ, hh⟩ := hP
  have hx := Bd.exec
  have hby := Bd.bytes
  have hml : c.maxLocals = 6 := hml0
  have hown : s.vm.findClass "java/lang/String" = some m.cls := findClass_of_methodNamed Bd.named
  have hnm := (name_of_methodNamed Bd.named Bd.method).1
  have X0 : Stand p l e ({ frames := 2, cells := 1, slots := 4, locals := 35 } : Room) s m #[(.ref x0), (.ref x1), (.int x2), (.int x3), .null] below meth c s₁ [] 0 0 := Stand.of_body Bd
  have e0 : s₁.heap = h0 := by rw [← hh, Bd.state]; rfl
  have N0 := Fr.nil n0
  show own_Ends p e below s ({ frames := 2, cells := 1, slots := 4, locals := 35 } : Room).cells ({ frames := 2, cells := 1, slots := 4, locals := 35 } : Room).slots (Q_rm2 Z x0 x1 x2 x3 kc q0 q1 q2 q3 cs h0 n0) (s₁.setTop (entryFrame m #[(.ref x0), (.ref x1), (.int x2), (.int x3), .null] 6))
  rw [ef_2_RRIIN]
  subst p_12
  subst p_13
  refine own_step (st' := s₁.setTop (mkF m 1 #[.val (.ref x0), .val (.ref x1), .val (.int (0 : Int32)), .val (.int (4 : Int32)), .val .null, .unset] [(.ref x0)])) (fun t k => XS.aloadN X0.here hx rfl (hb hby d2_0) rfl rfl k) ?_
  obtain ⟨T1, X1, e1, st1⟩ := initO X0 hx hZ hown (own_h hw 11 rfl) (own_h hw 12 rfl) (own_h hw 13 rfl) e0 (g := (mkF m 1 #[.val (.ref x0), .val (.ref x1), .val (.int (0 : Int32)), .val (.int (4 : Int32)), .val .null, .unset] [(.ref x0)])) rfl (by rw [hml]; rfl) rfl (hb hby d2_1) (by decide) (W := 0) (by show 2 * 0 + _ ≤ _; exact Nat.le_of_eq rfl) (by decide)
  refine own_step (st' := T1.setTop (mkF m 4 #[.val (.ref x0), .val (.ref x1), .val (.int (0 : Int32)), .val (.int (4 : Int32)), .val .null, .unset] [])) st1 ?_
  refine own_step (st' := T1.setTop (mkF m 5 #[.val (.ref x0), .val (.ref x1), .val (.int (0 : Int32)), .val (.int (4 : Int32)), .val .null, .unset] [(.int (4 : Int32))])) (fun t k => XS.iloadN X1.here hx rfl (hb hby d2_4) rfl k) ?_
  refine own_step (st' := T1.setTop (mkF m 27 #[.val (.ref x0), .val (.ref x1), .val (.int (0 : Int32)), .val (.int (4 : Int32)), .val .null, .unset] [])) (fun t k => XS.ifYes X1.here hx rfl (pc0 := 5) (pc' := 27) rfl (hb hby d2_5) rfl ((if0 _ _).trans (feq (by decide)).2) (by decide) (by decide) k) ?_
  obtain ⟨T2, X2, e2, st2⟩ := getS2 X1 hx hZ hown (host := "") (Or.inl (own_h hw 14 rfl)) Via.refl e1 (p_10.ext O0.2) (g := (mkF m 27 #[.val (.ref x0), .val (.ref x1), .val (.int (0 : Int32)), .val (.int (4 : Int32)), .val .null, .unset] [])) rfl (hb hby d2_27)
  refine own_step (st' := T2.setTop (mkF m 30 #[.val (.ref x0), .val (.ref x1), .val (.int (0 : Int32)), .val (.int (4 : Int32)), .val .null, .unset] [(.int cs)])) st2 ?_
  refine own_step (st' := T2.setTop (mkF m 33 #[.val (.ref x0), .val (.ref x1), .val (.int (0 : Int32)), .val (.int (4 : Int32)), .val .null, .unset] [])) (fun t k => XS.ifNo X2.here hx rfl (hb hby d2_30) rfl ((if0 _ _).trans (feq p_11).1) k) ?_
  refine own_step (st' := T2.setTop (mkF m 34 #[.val (.ref x0), .val (.ref x1), .val (.int (0 : Int32)), .val (.int (4 : Int32)), .val .null, .unset] [(.ref x1)])) (fun t k => XS.aloadN X2.here hx rfl (hb hby d2_33) rfl rfl k) ?_
  refine own_step (st' := T2.setTop (mkF m 35 #[.val (.ref x0), .val (.ref x1), .val (.int (0 : Int32)), .val (.int (4 : Int32)), .val .null, .unset] [(.int (0 : Int32)), (.ref x1)])) (fun t k => XS.iloadN X2.here hx rfl (hb hby d2_34) rfl k) ?_
  refine own_step (st' := T2.setTop (mkF m 36 #[.val (.ref x0), .val (.ref x1), .val (.int (0 : Int32)), .val (.int (4 : Int32)), .val .null, .unset] [(.int (4 : Int32)), (.int (0 : Int32)), (.ref x1)])) (fun t k => XS.iloadN X2.here hx rfl (hb hby d2_35) rfl k) ?_
  obtain ⟨_, _, ⟨T3, L3, k3, n3⟩, -, X3, ⟨Lc3, hQ3, l3, y3, z3⟩, st3⟩ := Jvm.LawKit.callS X2 hx (y := (⟨"java/lang/StringUTF16", "compress", "([CII)[B"⟩ : MethodName)) hown (mvT hZ (own_h hw 15 rfl)) (mvT hZ (own_h hw 16 rfl)) (mvT hZ (own_h hw 17 rfl)) (mvT hZ (own_h hw 18 rfl)) (by decide) (backOf (W := 0) (rm4 l Z a0 hw [] x1 (0 : Int32) (4 : Int32) kc q0 q1 q2 q3 h0 n0 Z0 p_5 p_6 p_7 p_8 p_9 rfl rfl) hZ (own_h hw 18 rfl) (own_h hw 17 rfl) (by decide) (by decide)) (g := (mkF m 36 #[.val (.ref x0), .val (.ref x1), .val (.int (0 : Int32)), .val (.int (4 : Int32)), .val .null, .unset] [(.int (4 : Int32)), (.int (0 : Int32)), (.ref x1)])) rfl (by rw [hml]; rfl) (argsL := [(.ref x1), (.int (0 : Int32)), (.int (4 : Int32))]) (rest := []) (lenOf pd_3 rfl) rfl (by show 2 * 0 + _ ≤ _; exact Nat.le_of_eq rfl) (hb hby d2_36) (fun _ _ => ⟨rfl, e2, (by decide : 0 + 1 ≤ _), (by decide : 0 + 4 ≤ _)⟩)
  dsimp only [Pt.U, Pt.locs, Pt.cells, Pt.slots] at X3 l3 y3 z3 st3 hQ3
  subst y3 z3
  obtain ⟨b_3, kb_3, rfl, N3q, K3, pq3_0, pq3_1⟩ := hQ3
  have N3 := Fr.app N0 N3q
  rw [← l3] at N3
  clear l3
  obtain ⟨h3, e3⟩ : ∃ z, T3.heap = z := ⟨_, rfl⟩
  rw [e3] at K3 pq3_1
  have ne4 : x0 ≠ b_3 := Nat.ne_of_lt (Nat.lt_of_lt_of_le p_0.lt pq3_0)
  have ne5 : x1 ≠ b_3 := Nat.ne_of_lt (Nat.lt_of_lt_of_le p_5.lt pq3_0)
  have g_b_3 : n0 ≤ b_3 := Nat.le_trans Z0 pq3_0
  have sz_b_3 : h0.size ≤ b_3 := Nat.le_trans (Keep.refl h0 [x0]).1 pq3_0
  have f6 := p_0.keep K3 nin0
  have f7 := p_1.keep K3 nin0
  have f8 := p_2.keep K3
  have f9 := p_5.keep K3 nin0
  have O10 := O0.keep K3 all0
  have K11 : Keep h0 h3 [x0] := (Keep.refl h0 [x0]).trans K3 all0
  have Z12 : n0 ≤ h3.size := Nat.le_trans Z0 K3.1
  refine own_step (st' := T3.setTop (mkF m 39 #[.val (.ref x0), .val (.ref x1), .val (.int (0 : Int32)), .val (.int (4 : Int32)), .val .null, .unset] [(.ref b_3)])) st3 ?_
  refine own_step (st' := T3.setTop (mkF m 41 #[.val (.ref x0), .val (.ref x1), .val (.int (0 : Int32)), .val (.int (4 : Int32)), .val .null, .val (.ref b_3)] [])) (fun t k => XS.astore X3.here hx rfl (hb hby d2_39) rfl rfl (l' := #[.val (.ref x0), .val (.ref x1), .val (.int (0 : Int32)), .val (.int (4 : Int32)), .val .null, .val (.ref b_3)]) rfl k) ?_
  refine own_step (st' := T3.setTop (mkF m 42 #[.val (.ref x0), .val (.ref x1), .val (.int (0 : Int32)), .val (.int (4 : Int32)), .val .null, .val (.ref b_3)] [(.ref x0)])) (fun t k => XS.aloadN X3.here hx rfl (hb hby d2_41) rfl rfl k) ?_
  refine own_step (st' := T3.setTop (mkF m 44 #[.val (.ref x0), .val (.ref x1), .val (.int (0 : Int32)), .val (.int (4 : Int32)), .val .null, .val (.ref b_3)] [(.ref b_3), (.ref x0)])) (fun t k => XS.aload X3.here hx rfl (hb hby d2_42) rfl rfl k) ?_
  refine own_step (st' := T3.setTop (mkF m 45 #[.val (.ref x0), .val (.ref x1), .val (.int (0 : Int32)), .val (.int (4 : Int32)), .val .null, .val (.ref b_3)] [(.int (4 : Int32)), (.ref b_3), (.ref x0)])) (fun t k => XS.iloadN X3.here hx rfl (hb hby d2_44) rfl k) ?_
  obtain ⟨_, _, ⟨T13, L13, k13, n13⟩, -, X13, ⟨Lc13, hQ13, l13, y13, z13⟩, st13⟩ := Jvm.LawKit.callS X3 hx (y := (⟨"java/lang/StringUTF16", "coderFromArrayLen", "([BI)B"⟩ : MethodName)) hown (mvT hZ (own_h hw 23 rfl)) (mvT hZ (own_h hw 24 rfl)) (mvT hZ (own_h hw 17 rfl)) (mvT hZ (own_h hw 25 rfl)) (by decide) (backOf (W := 1) (rm6 l Z a0 hw [] b_3 (4 : Int32) kb_3 (4 : Int32) [(.int ((q0.toInt8.toInt32).toInt8.toInt32)), (.int ((q1.toInt8.toInt32).toInt8.toInt32)), (.int ((q2.toInt8.toInt32).toInt8.toInt32)), (.int ((q3.toInt8.toInt32).toInt8.toInt32))] h3 n0 Z12 pq3_1 rfl rfl) hZ (own_h hw 25 rfl) (own_h hw 17 rfl) (by decide) (by decide)) (g := (mkF m 45 #[.val (.ref x0), .val (.ref x1), .val (.int (0 : Int32)), .val (.int (4 : Int32)), .val .null, .val (.ref b_3)] [(.int (4 : Int32)), (.ref b_3), (.ref x0)])) rfl (by rw [hml]; rfl) (argsL := [(.ref b_3), (.int (4 : Int32))]) (rest := [(.ref x0)]) (lenOf pd_5 rfl) rfl (by show 2 * 0 + _ ≤ _; exact Nat.le_of_eq rfl) (hb hby d2_45) (fun _ _ => ⟨rfl, e3, (by decide : 1 + 0 ≤ _), (by decide : 4 + 0 ≤ _)⟩)
  dsimp only [Pt.U, Pt.locs, Pt.cells, Pt.slots] at X13 l13 y13 z13 st13 hQ13
  subst y13 z13
  obtain ⟨rfl, N13q, e13⟩ := hQ13
  have N13 := Fr.app N3 N13q
  rw [← l13] at N13
  clear l13
  refine own_step (st' := T13.setTop (mkF m 48 #[.val (.ref x0), .val (.ref x1), .val (.int (0 : Int32)), .val (.int (4 : Int32)), .val .null, .val (.ref b_3)] [(.int (0 : Int32)), (.ref x0)])) st13 ?_
  obtain ⟨T14, h14, X14, e14, W14, st14⟩ := putFN X13 hx hZ hown (own_h hw 26 rfl) Via.refl e13 f6 f8 (Or.inr ⟨(own_h hw 27 rfl), rfl, hnm⟩) (own_h hw 2 rfl) (ty := .byte) (v' := .int (0 : Int32)) (by decide) rfl rfl (g := (mkF m 48 #[.val (.ref x0), .val (.ref x1), .val (.int (0 : Int32)), .val (.int (4 : Int32)), .val .null, .val (.ref b_3)] [(.int (0 : Int32)), (.ref x0)])) rfl rfl (hb hby d2_48)
  have F14 := f6.same W14
  have f15 := f7.other W14 (Or.inr (slot_ne (Or.inr (own_h hw 29 rfl)) (Or.inr (own_h hw 27 rfl)) (by decide) (t := (.array .byte)) (t' := .byte) (by decide) (by decide)))
  have f16 := f8.wr W14
  have f17 := f9.other W14 p_4
  have f18 := pq3_1.other W14 (Ne.symm ne4)
  have O19 := O10.wr W14 p_3
  have K20 : Keep h0 h14 [x0] := K11.wr W14 (Or.inl (List.mem_of_getElem? (i := 0) rfl))
  have Z21 : n0 ≤ h14.size := Nat.le_trans Z12 (Keep.of_wr W14).1
  have N22 := Fr.snoc X14 N13 p_3
  refine own_step (st' := T14.setTop (mkF m 51 #[.val (.ref x0), .val (.ref x1), .val (.int (0 : Int32)), .val (.int (4 : Int32)), .val .null, .val (.ref b_3)] [])) st14 ?_
  refine own_step (st' := T14.setTop (mkF m 52 #[.val (.ref x0), .val (.ref x1), .val (.int (0 : Int32)), .val (.int (4 : Int32)), .val .null, .val (.ref b_3)] [(.ref x0)])) (fun t k => XS.aloadN X14.here hx rfl (hb hby d2_51) rfl rfl k) ?_
  refine own_step (st' := T14.setTop (mkF m 54 #[.val (.ref x0), .val (.ref x1), .val (.int (0 : Int32)), .val (.int (4 : Int32)), .val .null, .val (.ref b_3)] [(.ref b_3), (.ref x0)])) (fun t k => XS.aload X14.here hx rfl (hb hby d2_52) rfl rfl k) ?_
  obtain ⟨T23, h23, X23, e23, W23, st23⟩ := putF X14 hx hZ hown (host := "") (Or.inl (own_h hw 28 rfl)) Via.refl e14 f15 f16 (Or.inr ⟨(own_h hw 29 rfl), rfl, hnm⟩) (own_h hw 2 rfl) (ty := (.array .byte)) (by decide) rfl rfl (g := (mkF m 54 #[.val (.ref x0), .val (.ref x1), .val (.int (0 : Int32)), .val (.int (4 : Int32)), .val .null, .val (.ref b_3)] [(.ref b_3), (.ref x0)])) rfl rfl (hb hby d2_54)
  have F23 := f15.same W23
  have f24 := f16.wr W23
  have f25 := f17.other W23 p_4
  have f26 := f18.other W23 (Ne.symm ne4)
  have f27 := F14.other W23 (Or.inr (slot_ne (Or.inr (own_h hw 27 rfl)) (Or.inr (own_h hw 29 rfl)) (by decide) (t := .byte) (t' := (.array .byte)) (by decide) (by decide)))
  have O28 := O19.wr W23 p_3
  have K29 : Keep h0 h23 [x0] := K20.wr W23 (Or.inl (List.mem_of_getElem? (i := 0) rfl))
  have Z30 : n0 ≤ h23.size := Nat.le_trans Z21 (Keep.of_wr W23).1
  have N31 := Fr.snoc X23 N22 p_3
  refine own_step (st' := T23.setTop (mkF m 57 #[.val (.ref x0), .val (.ref x1), .val (.int (0 : Int32)), .val (.int (4 : Int32)), .val .null, .val (.ref b_3)] [])) st23 ?_
  refine own_ret X23 Bd.notSynchronized (none) (fun _ => rfl) (fun fs hr => X23.returnOut hx Bd.returns (hb hby d2_57) hr) ?_ (by decide) (by decide)
  rw [e23]
  exact ⟨b_3, kb_3, rfl, N31, K29, sz_b_3, f27, F23, f26⟩
theorem d1_0 : decode jdk_42_method_3_code 0 = .ok (.aload_n 0, 1) := by decide +kernel
theorem d1_1 : decode jdk_42_method_3_code 1 = .ok (.aload_n 1, 1) := by decide +kernel
theorem d1_2 : decode jdk_42_method_3_code 2 = .ok (.iconst 0, 1) := by decide +kernel
theorem d1_3 : decode jdk_42_method_3_code 3 = .ok (.aload_n 1, 1) := by decide +kernel
theorem d1_4 : decode jdk_42_method_3_code 4 = .ok (.arraylength, 1) := by decide +kernel
theorem d1_5 : decode jdk_42_method_3_code 5 = .ok (.aconst_null, 1) := by decide +kernel
theorem d1_6 : decode jdk_42_method_3_code 6 = .ok (.invokespecial 27, 3) := by decide +kernel
theorem d1_9 : decode jdk_42_method_3_code 9 = .ok (.return_, 1) := by decide +kernel
theorem ef_1_RR (m : MethodId) (x0 : Addr) (x1 : Addr) : entryFrame m #[(.ref x0), (.ref x1)] 2 = mkF m 0 #[.val (.ref x0), .val (.ref x1)] [] := by first | (simp [entryFrame, mkF, argsToLocals, Value.category]; done) | rfl
def Q_rm1 (Z : State) (x0 : Addr) (x1 : Addr) (kc : ClassId) (q0 : Int32) (q1 : Int32) (q2 : Int32) (q3 : Int32) (cs : Int32) (h0 : Heap) (n0 : Nat) (v : Option Value) (h : Heap) (L : List Loc) : Prop := ∃ b : Addr, ∃ kb : ClassId, v = none ∧ Fr n0 L ∧ Keep h0 h [x0] ∧ h0.size ≤ b ∧ Fld Z h x0 "java/lang/String" "coder" "B" (.int (0 : Int32)) ∧ Fld Z h x0 "java/lang/String" "value" "[B" (.ref b) ∧ Arv Z h b kb .byte (4 : Int32) [(.int ((q0.toInt8.toInt32).toInt8.toInt32)), (.int ((q1.toInt8.toInt32).toInt8.toInt32)), (.int ((q2.toInt8.toInt32).toInt8.toInt32)), (.int ((q3.toInt8.toInt32).toInt8.toInt32))] (.int (0 : Int32))
set_option maxRecDepth 65536 in
set_option maxHeartbeats 40000000 in
theorem rm1 (l : Launch) (Z : State) (a0 : Array Value) (hw : ∀ d ∈ tables_1, d.before a0 Z = true) (ws : List Jvm.Cond) (x0 : Addr) (x1 : Addr) (kc : ClassId) (q0 : Int32) (q1 : Int32) (q2 : Int32) (q3 : Int32) (cs : Int32) (h0 : Heap) (n0 : Nat) (Z0 : n0 ≤ h0.size) (O0 : Old Z n0 h0) (p_0 : Fld Z h0 x0 "java/lang/String" "coder" "B" (.int (0 : Int32))) (p_1 : Fld Z h0 x0 "java/lang/String" "value" "[B" .null) (p_2 : Exa Z h0 x0 "java/lang/String") (p_3 : n0 ≤ x0) (p_4 : x1 ≠ x0) (p_5 : Arv Z h0 x1 kc .char (4 : Int32) [(.int q0), (.int q1), (.int q2), (.int q3)] (.int (0 : Int32))) (p_6 : 0 ≤ q0.toInt ∧ q0.toInt ≤ 255) (p_7 : 0 ≤ q1.toInt ∧ q1.toInt ≤ 255) (p_8 : 0 ≤ q2.toInt ∧ q2.toInt ≤ 255) (p_9 : 0 ≤ q3.toInt ∧ q3.toInt ≤ 255) (p_10 : Sta Z Z.heap "java/lang/String" "COMPACT_STRINGS" "Z" (.int cs)) (p_11 : ¬ cs = (0 : Int32)) :
    MetFree l (⟨"java/lang/String", "<init>", "([C)V"⟩ : MethodName) (head1 (Jvm.Cond.code (⟨"java/lang/String", "<init>", "([C)V"⟩ : MethodName) jdk_42_method_3_code 2 none :: ws) ({ frames := 3, cells := 1, slots := 4, locals := 52 } : Room)) (fun a U => a = #[(.ref x0), (.ref x1)] ∧ Z.Warmed39 U.vm ∧ U.heap = h0) (fun _ _ _ _ _ => True) (fun _ U o U' => ∃ v L, o = .returned v ∧ Q_rm1 Z x0 x1 kc q0 q1 q2 q3 cs h0 n0 v U'.heap L ∧ FrameEnd U o U' L ({ frames := 3, cells := 1, slots := 4, locals := 52 } : Room).cells ({ frames := 3, cells := 1, slots := 4, locals := 52 } : Room).slots) := by
  refine MetFree.of_bodySF (plainFor_of_name pn_4) hisR ?_
  intro p e s m args below meth c s₁ Bd hml0 hP hK
  obtain ⟨rfl, hZ, hh⟩ := hP
  have hx := Bd.exec
  have hby := Bd.bytes
  have hml : c.maxLocals = 2 := hml0
  have hown : s.vm.findClass "java/lang/String" = some m.cls := findClass_of_methodNamed Bd.named
  have hnm := (name_of_methodNamed Bd.named Bd.method).1
  have X0 : Stand p l e ({ frames := 3, cells := 1, slots := 4, locals := 52 } : Room) s m #[(.ref x0), (.ref x1)] below meth c s₁ [] 0 0 := Stand.of_body Bd
  have e0 : s₁.heap = h0 := by rw [← hh, Bd.state]; rfl
  have N0 := Fr.nil n0
  show own_Ends p e below s ({ frames := 3, cells := 1, slots := 4, locals := 52 } : Room).cells ({ frames := 3, cells := 1, slots := 4, locals := 52 } : Room).slots (Q_rm1 Z x0 x1 kc q0 q1 q2 q3 cs h0 n0) (s₁.setTop (entryFrame m #[(.ref x0), (.ref x1)] 2))
  rw [ef_1_RR]
  refine own_step (st' := s₁.setTop (mkF m 1 #[.val (.ref x0), .val (.ref x1)] [(.ref x0)])) (fun t k => XS.aloadN X0.here hx rfl (hb hby d1_0) rfl rfl k) ?_
  refine own_step (st' := s₁.setTop (mkF m 2 #[.val (.ref x0), .val (.ref x1)] [(.ref x1), (.ref x0)])) (fun t k => XS.aloadN X0.here hx rfl (hb hby d1_1) rfl rfl k) ?_
  refine own_step (st' := s₁.setTop (mkF m 3 #[.val (.ref x0), .val (.ref x1)] [(.int (0 : Int32)), (.ref x1), (.ref x0)])) (fun t k => XS.iconst X0.here hx rfl (hb hby d1_2) k) ?_
  refine own_step (st' := s₁.setTop (mkF m 4 #[.val (.ref x0), .val (.ref x1)] [(.ref x1), (.int (0 : Int32)), (.ref x1), (.ref x0)])) (fun t k => XS.aloadN X0.here hx rfl (hb hby d1_3) rfl rfl k) ?_
  refine own_step (st' := s₁.setTop (mkF m 5 #[.val (.ref x0), .val (.ref x1)] [(.int (4 : Int32)), (.int (0 : Int32)), (.ref x1), (.ref x0)])) (fun t k => own_len X0 hx hZ e0 p_5 (g := (mkF m 4 #[.val (.ref x0), .val (.ref x1)] [(.ref x1), (.int (0 : Int32)), (.ref x1), (.ref x0)])) rfl rfl (hb hby d1_4) t k) ?_
  refine own_step (st' := s₁.setTop (mkF m 6 #[.val (.ref x0), .val (.ref x1)] [.null, (.int (4 : Int32)), (.int (0 : Int32)), (.ref x1), (.ref x0)])) (fun t k => XS.aconstNull X0.here hx rfl (hb hby d1_5) k) ?_
  obtain ⟨_, _, ⟨T1, L1, k1, n1⟩, -, X1, ⟨Lc1, hQ1, l1, y1, z1⟩, st1⟩ := X0.specialBack hx (y := (⟨"java/lang/String", "<init>", "([CIILjava/lang/Void;)V"⟩ : MethodName)) rfl hown (mvT hZ (own_h hw 7 rfl)) (mvT hZ (own_h hw 8 rfl)) (mvT hZ (own_h hw 10 rfl)) (by decide) (backOf (W := 0) (rm2 l Z a0 hw [] x0 x1 (0 : Int32) (4 : Int32) kc q0 q1 q2 q3 cs h0 n0 Z0 O0 p_0 p_1 p_2 p_3 p_4 p_5 p_6 p_7 p_8 p_9 p_10 p_11 rfl rfl) hZ (own_h hw 10 rfl) (own_h hw 3 rfl) (by decide) (by decide)) (g := (mkF m 6 #[.val (.ref x0), .val (.ref x1)] [.null, (.int (4 : Int32)), (.int (0 : Int32)), (.ref x1), (.ref x0)])) rfl (by rw [hml]; rfl) (Steps.refl _) (a := x0) (argsL := [(.ref x1), (.int (0 : Int32)), (.int (4 : Int32)), .null]) (rest := []) (lenOf pd_1 rfl) rfl (by show 2 * 0 + _ ≤ _; exact Nat.le_of_eq rfl) (hb hby d1_6) (fun _ _ => ⟨rfl, e0, (by decide : 0 + 1 ≤ _), (by decide : 0 + 4 ≤ _)⟩)
  dsimp only [Pt.U, Pt.locs, Pt.cells, Pt.slots] at X1 l1 y1 z1 st1 hQ1
  subst y1 z1
  obtain ⟨b_1, kb_1, rfl, N1q, K1, pq1_0, pq1_1, pq1_2, pq1_3⟩ := hQ1
  have N1 := Fr.app N0 N1q
  rw [← l1] at N1
  clear l1
  obtain ⟨h1, e1⟩ : ∃ z, T1.heap = z := ⟨_, rfl⟩
  rw [e1] at K1 pq1_1 pq1_2 pq1_3
  have ne2 : x0 ≠ b_1 := Nat.ne_of_lt (Nat.lt_of_lt_of_le p_0.lt pq1_0)
  have ne3 : x1 ≠ b_1 := Nat.ne_of_lt (Nat.lt_of_lt_of_le p_5.lt pq1_0)
  have g_b_1 : n0 ≤ b_1 := Nat.le_trans Z0 pq1_0
  have sz_b_1 : h0.size ≤ b_1 := Nat.le_trans (Keep.refl h0 [x0]).1 pq1_0
  have f4 := p_2.keep K1
  have f5 := p_5.keep K1 (ninS p_4 nin0)
  have O6 := O0.keep K1 (allS p_3 all0)
  have K7 : Keep h0 h1 [x0] := (Keep.refl h0 [x0]).trans K1 (allS (Or.inl (List.mem_of_getElem? (i := 0) rfl)) all0)
  have Z8 : n0 ≤ h1.size := Nat.le_trans Z0 K1.1
  refine own_step (st' := T1.setTop (mkF m 9 #[.val (.ref x0), .val (.ref x1)] [])) (fun t k => st1.trans k) ?_
  refine own_ret X1 Bd.notSynchronized (none) (fun _ => rfl) (fun fs hr => X1.returnOut hx Bd.returns (hb hby d1_9) hr) ?_ (by decide) (by decide)
  rw [e1]
  exact ⟨b_1, kb_1, rfl, N1, K7, sz_b_1, pq1_1, pq1_2, pq1_3⟩
theorem ef_0_IIIII (m : MethodId) (x0 : Int32) (x1 : Int32) (x2 : Int32) (x3 : Int32) (x4 : Int32) : entryFrame m #[(.int x0), (.int x1), (.int x2), (.int x3), (.int x4)] maxLocals = mkF m 0 #[.val (.int x0), .val (.int x1), .val (.int x2), .val (.int x3), .val (.int x4), .unset, .unset, .unset, .unset, .unset, .unset] [] := by first | (simp [entryFrame, mkF, argsToLocals, Value.category, maxLocals]; done) | rfl
def Q_rm0 (Z : State) (x0 : Int32) (x1 : Int32) (x2 : Int32) (x3 : Int32) (x4 : Int32) (cs : Int32) (fm : Value) (tm : Addr) (h0 : Heap) (n0 : Nat) (v : Option Value) (h : Heap) (L : List Loc) : Prop := v = some (.int (1 : Int32)) ∧ Fr n0 L
set_option maxRecDepth 65536 in
set_option maxHeartbeats 40000000 in
theorem rm0 (l : Launch) (Z : State) (a0 : Array Value) (hw : ∀ d ∈ tables_1, d.before a0 Z = true) (ws : List Jvm.Cond) (x0 : Int32) (x1 : Int32) (x2 : Int32) (x3 : Int32) (x4 : Int32) (cs : Int32) (fm : Value) (tm : Addr) (h0 : Heap) (n0 : Nat) (Z0 : n0 ≤ h0.size) (O0 : Old Z n0 h0) (p_0 : Sta Z Z.heap "java/lang/String" "COMPACT_STRINGS" "Z" (.int cs)) (p_1 : ¬ cs = (0 : Int32)) (p_2 : Sta Z Z.heap "jdk/internal/util/Preconditions" "SIOOBE_FORMATTER" "Ljava/util/function/BiFunction;" fm) (p_3 : fm.isRef = true) (p_4 : Sta Z Z.heap "com/example/lookahead/lookahead/core/Terminal" "END" "Lcom/example/lookahead/lookahead/core/Terminal;" (.ref tm)) (p_5 : CHv Z own_EL Z.vm Z.heap) :
    MetFree l x (head1 (Jvm.Cond.code x code maxLocals ret :: ws) room_1) (fun a U => a = #[(.int x0), (.int x1), (.int x2), (.int x3), (.int x4)] ∧ Z.WarmedH U.vm ∧ U.heap = h0) (fun _ _ _ _ _ => True) (fun _ U o U' => ∃ v L, o = .returned v ∧ Q_rm0 Z x0 x1 x2 x3 x4 cs fm tm h0 n0 v U'.heap L ∧ ReturnedEndW U o U' L room_1.cells room_1.slots) := by
  refine MetFree.of_bodySF (plainFor_of_name pn_1) hisR ?_
  intro p e s m args below meth c s₁ Bd hml0 hP hK
  obtain ⟨rfl, hZH, hh⟩ := hP
  have hZ := hZH.wide
  have hx := Bd.exec
  have hby := Bd.bytes
  have hml : c.maxLocals = 11 := hml0
  have hown : s.vm.findClass "com/example/lookahead/lookahead/runtime/TokenTextPinLaw" = some m.cls := findClass_of_methodNamed Bd.named
  have hnm := (name_of_methodNamed Bd.named Bd.method).1
  have X0 : Stand p l e room_1 s m #[(.int x0), (.int x1), (.int x2), (.int x3), (.int x4)] below meth c s₁ [] 0 0 := Stand.of_body Bd
  have e0 : s₁.heap = h0 := by rw [← hh, Bd.state]; rfl
  have N0 := Fr.nil n0
  show own_EndsW p e below s room_1.cells room_1.slots (Q_rm0 Z x0 x1 x2 x3 x4 cs fm tm h0 n0) (s₁.setTop (entryFrame m #[(.int x0), (.int x1), (.int x2), (.int x3), (.int x4)] maxLocals))
  rw [ef_0_IIIII]
  refine own_stepW (st' := s₁.setTop (mkF m 1 #[.val (.int x0), .val (.int x1), .val (.int x2), .val (.int x3), .val (.int x4), .unset, .unset, .unset, .unset, .unset, .unset] [(.int (4 : Int32))])) (fun t k => XS.iconst X0.here hx rfl (hb hby at_0) k) ?_
  obtain ⟨T1, h1, k1, X1, e1, E1, A1, st1⟩ := newP X0 hx hZ (own_h hw 0 rfl) e0 (g := (mkF m 1 #[.val (.int x0), .val (.int x1), .val (.int x2), .val (.int x3), .val (.int x4), .unset, .unset, .unset, .unset, .unset, .unset] [(.int (4 : Int32))])) rfl (hb hby at_1) rfl (by decide) (cap := 4) (by decide) (by decide) (by decide) (by decide)
  obtain ⟨b1, g1⟩ : ∃ z, z = h0.size := ⟨_, rfl⟩
  rw [← g1] at A1 st1
  have g_b1 : n0 ≤ b1 := Nat.le_trans Z0 (Nat.le_of_eq g1.symm)
  have O2 := O0.ext E1
  have Z3 : n0 ≤ h1.size := Nat.le_trans Z0 E1.1
  have V1 : Arv Z h1 b1 k1 .char (4 : Int32) [(.int (0 : Int32)), (.int (0 : Int32)), (.int (0 : Int32)), (.int (0 : Int32))] (.int (0 : Int32)) := (Arv.new A1 (by decide)).pad (pad_rep [] (.int (0 : Int32)) 4)
  refine own_stepW (st' := T1.setTop (mkF m 3 #[.val (.int x0), .val (.int x1), .val (.int x2), .val (.int x3), .val (.int x4), .unset, .unset, .unset, .unset, .unset, .unset] [(.ref b1)])) st1 ?_
  refine own_stepW (st' := T1.setTop (mkF m 5 #[.val (.int x0), .val (.int x1), .val (.int x2), .val (.int x3), .val (.int x4), .val (.ref b1), .unset, .unset, .unset, .unset, .unset] [])) (fun t k => XS.astore X1.here hx rfl (hb hby at_3) rfl rfl (l' := #[.val (.int x0), .val (.int x1), .val (.int x2), .val (.int x3), .val (.int x4), .val (.ref b1), .unset, .unset, .unset, .unset, .unset]) rfl k) ?_
  refine own_stepW (st' := T1.setTop (mkF m 7 #[.val (.int x0), .val (.int x1), .val (.int x2), .val (.int x3), .val (.int x4), .val (.ref b1), .unset, .unset, .unset, .unset, .unset] [(.ref b1)])) (fun t k => XS.aload X1.here hx rfl (hb hby at_5) rfl rfl k) ?_
  refine own_stepW (st' := T1.setTop (mkF m 8 #[.val (.int x0), .val (.int x1), .val (.int x2), .val (.int x3), .val (.int x4), .val (.ref b1), .unset, .unset, .unset, .unset, .unset] [(.int (0 : Int32)), (.ref b1)])) (fun t k => XS.iconst X1.here hx rfl (hb hby at_7) k) ?_
  refine own_stepW (st' := T1.setTop (mkF m 9 #[.val (.int x0), .val (.int x1), .val (.int x2), .val (.int x3), .val (.int x4), .val (.ref b1), .unset, .unset, .unset, .unset, .unset] [(.int x0), (.int (0 : Int32)), (.ref b1)])) (fun t k => XS.iloadN X1.here hx rfl (hb hby at_8) rfl k) ?_
  refine own_stepW (st' := T1.setTop (mkF m 12 #[.val (.int x0), .val (.int x1), .val (.int x2), .val (.int x3), .val (.int x4), .val (.ref b1), .unset, .unset, .unset, .unset, .unset] [(.int (255 : Int32)), (.int x0), (.int (0 : Int32)), (.ref b1)])) (fun t k => XS.sipush X1.here hx rfl (hb hby at_9) k) ?_
  refine own_stepW (st' := T1.setTop (mkF m 13 #[.val (.int x0), .val (.int x1), .val (.int x2), .val (.int x3), .val (.int x4), .val (.ref b1), .unset, .unset, .unset, .unset, .unset] [(.int (x0 &&& (255 : Int32))), (.int (0 : Int32)), (.ref b1)])) (fun t k => XS.iand X1.here hx rfl (hb hby at_12) rfl k) ?_
  refine own_stepW (st' := T1.setTop (mkF m 14 #[.val (.int x0), .val (.int x1), .val (.int x2), .val (.int x3), .val (.int x4), .val (.ref b1), .unset, .unset, .unset, .unset, .unset] [(.int ((x0 &&& (255 : Int32)).toUInt32.toUInt16.toUInt32.toInt32)), (.int (0 : Int32)), (.ref b1)])) (fun t k => XS.i2c X1.here hx rfl (hb hby at_13) rfl k) ?_
  obtain ⟨q0, e_q0⟩ : ∃ z : Int32, z = ((x0 &&& (255 : Int32)).toUInt32.toUInt16.toUInt32.toInt32) := ⟨_, rfl⟩
  rw [← e_q0]
  have b_q0 := own_b8 e_q0
  obtain ⟨T4, h4, X4, e4, W4, V4, st4⟩ := own_stC X1 hx hZ e1 V1 (j := (0 : Int32)) (i := 0) ⟨by decide, by decide⟩ rfl (Nat.le_of_ble_eq_true rfl) (g := (mkF m 14 #[.val (.int x0), .val (.int x1), .val (.int x2), .val (.int x3), .val (.int x4), .val (.ref b1), .unset, .unset, .unset, .unset, .unset] [(.int q0), (.int (0 : Int32)), (.ref b1)])) rfl rfl (hb hby at_14)
  have V4 : Arv Z h4 b1 k1 .char (4 : Int32) [(.int (q0.toUInt32.toUInt16.toUInt32.toInt32)), (.int (0 : Int32)), (.int (0 : Int32)), (.int (0 : Int32))] (.int (0 : Int32)) := V4
  have O5 := O2.wr W4 g_b1
  have Z6 : n0 ≤ h4.size := Nat.le_trans Z3 (Keep.of_wr W4).1
  have N7 := Fr.snoc X4 N0 g_b1
  refine own_stepW (st' := T4.setTop (mkF m 15 #[.val (.int x0), .val (.int x1), .val (.int x2), .val (.int x3), .val (.int x4), .val (.ref b1), .unset, .unset, .unset, .unset, .unset] [])) st4 ?_
  refine own_stepW (st' := T4.setTop (mkF m 17 #[.val (.int x0), .val (.int x1), .val (.int x2), .val (.int x3), .val (.int x4), .val (.ref b1), .unset, .unset, .unset, .unset, .unset] [(.ref b1)])) (fun t k => XS.aload X4.here hx rfl (hb hby at_15) rfl rfl k) ?_
  refine own_stepW (st' := T4.setTop (mkF m 18 #[.val (.int x0), .val (.int x1), .val (.int x2), .val (.int x3), .val (.int x4), .val (.ref b1), .unset, .unset, .unset, .unset, .unset] [(.int (1 : Int32)), (.ref b1)])) (fun t k => XS.iconst X4.here hx rfl (hb hby at_17) k) ?_
  refine own_stepW (st' := T4.setTop (mkF m 19 #[.val (.int x0), .val (.int x1), .val (.int x2), .val (.int x3), .val (.int x4), .val (.ref b1), .unset, .unset, .unset, .unset, .unset] [(.int x0), (.int (1 : Int32)), (.ref b1)])) (fun t k => XS.iloadN X4.here hx rfl (hb hby at_18) rfl k) ?_
  refine own_stepW (st' := T4.setTop (mkF m 21 #[.val (.int x0), .val (.int x1), .val (.int x2), .val (.int x3), .val (.int x4), .val (.ref b1), .unset, .unset, .unset, .unset, .unset] [(.int (8 : Int32)), (.int x0), (.int (1 : Int32)), (.ref b1)])) (fun t k => XS.bipush X4.here hx rfl (hb hby at_19) k) ?_
  refine own_stepW (st' := T4.setTop (mkF m 22 #[.val (.int x0), .val (.int x1), .val (.int x2), .val (.int x3), .val (.int x4), .val (.ref b1), .unset, .unset, .unset, .unset, .unset] [(.int ((x0.toUInt32 >>> ((8 : Int32) &&& 31).toUInt32).toInt32)), (.int (1 : Int32)), (.ref b1)])) (fun t k => XS.iushr X4.here hx rfl (hb hby at_21) rfl k) ?_
  refine own_stepW (st' := T4.setTop (mkF m 25 #[.val (.int x0), .val (.int x1), .val (.int x2), .val (.int x3), .val (.int x4), .val (.ref b1), .unset, .unset, .unset, .unset, .unset] [(.int (255 : Int32)), (.int ((x0.toUInt32 >>> ((8 : Int32) &&& 31).toUInt32).toInt32)), (.int (1 : Int32)), (.ref b1)])) (fun t k => XS.sipush X4.here hx rfl (hb hby at_22) k) ?_
  refine own_stepW (st' := T4.setTop (mkF m 26 #[.val (.int x0), .val (.int x1), .val (.int x2), .val (.int x3), .val (.int x4), .val (.ref b1), .unset, .unset, .unset, .unset, .unset] [(.int (((x0.toUInt32 >>> ((8 : Int32) &&& 31).toUInt32).toInt32) &&& (255 : Int32))), (.int (1 : Int32)), (.ref b1)])) (fun t k => XS.iand X4.here hx rfl (hb hby at_25) rfl k) ?_
  refine own_stepW (st' := T4.setTop (mkF m 27 #[.val (.int x0), .val (.int x1), .val (.int x2), .val (.int x3), .val (.int x4), .val (.ref b1), .unset, .unset, .unset, .unset, .unset] [(.int ((((x0.toUInt32 >>> ((8 : Int32) &&& 31).toUInt32).toInt32) &&& (255 : Int32)).toUInt32.toUInt16.toUInt32.toInt32)), (.int (1 : Int32)), (.ref b1)])) (fun t k => XS.i2c X4.here hx rfl (hb hby at_26) rfl k) ?_
  obtain ⟨q1, e_q1⟩ : ∃ z : Int32, z = ((((x0.toUInt32 >>> ((8 : Int32) &&& 31).toUInt32).toInt32) &&& (255 : Int32)).toUInt32.toUInt16.toUInt32.toInt32) := ⟨_, rfl⟩
  rw [← e_q1]
  have b_q1 := own_b8 e_q1
  obtain ⟨T8, h8, X8, e8, W8, V8, st8⟩ := own_stC X4 hx hZ e4 V4 (j := (1 : Int32)) (i := 1) ⟨by decide, by decide⟩ rfl (Nat.le_of_ble_eq_true rfl) (g := (mkF m 27 #[.val (.int x0), .val (.int x1), .val (.int x2), .val (.int x3), .val (.int x4), .val (.ref b1), .unset, .unset, .unset, .unset, .unset] [(.int q1), (.int (1 : Int32)), (.ref b1)])) rfl rfl (hb hby at_27)
  have V8 : Arv Z h8 b1 k1 .char (4 : Int32) [(.int (q0.toUInt32.toUInt16.toUInt32.toInt32)), (.int (q1.toUInt32.toUInt16.toUInt32.toInt32)), (.int (0 : Int32)), (.int (0 : Int32))] (.int (0 : Int32)) := V8
  have O9 := O5.wr W8 g_b1
  have Z10 : n0 ≤ h8.size := Nat.le_trans Z6 (Keep.of_wr W8).1
  have N11 := Fr.snoc X8 N7 g_b1
  refine own_stepW (st' := T8.setTop (mkF m 28 #[.val (.int x0), .val (.int x1), .val (.int x2), .val (.int x3), .val (.int x4), .val (.ref b1), .unset, .unset, .unset, .unset, .unset] [])) st8 ?_
  refine own_stepW (st' := T8.setTop (mkF m 30 #[.val (.int x0), .val (.int x1), .val (.int x2), .val (.int x3), .val (.int x4), .val (.ref b1), .unset, .unset, .unset, .unset, .unset] [(.ref b1)])) (fun t k => XS.aload X8.here hx rfl (hb hby at_28) rfl rfl k) ?_
  refine own_stepW (st' := T8.setTop (mkF m 31 #[.val (.int x0), .val (.int x1), .val (.int x2), .val (.int x3), .val (.int x4), .val (.ref b1), .unset, .unset, .unset, .unset, .unset] [(.int (2 : Int32)), (.ref b1)])) (fun t k => XS.iconst X8.here hx rfl (hb hby at_30) k) ?_
  refine own_stepW (st' := T8.setTop (mkF m 32 #[.val (.int x0), .val (.int x1), .val (.int x2), .val (.int x3), .val (.int x4), .val (.ref b1), .unset, .unset, .unset, .unset, .unset] [(.int x0), (.int (2 : Int32)), (.ref b1)])) (fun t k => XS.iloadN X8.here hx rfl (hb hby at_31) rfl k) ?_
  refine own_stepW (st' := T8.setTop (mkF m 34 #[.val (.int x0), .val (.int x1), .val (.int x2), .val (.int x3), .val (.int x4), .val (.ref b1), .unset, .unset, .unset, .unset, .unset] [(.int (16 : Int32)), (.int x0), (.int (2 : Int32)), (.ref b1)])) (fun t k => XS.bipush X8.here hx rfl (hb hby at_32) k) ?_
  refine own_stepW (st' := T8.setTop (mkF m 35 #[.val (.int x0), .val (.int x1), .val (.int x2), .val (.int x3), .val (.int x4), .val (.ref b1), .unset, .unset, .unset, .unset, .unset] [(.int ((x0.toUInt32 >>> ((16 : Int32) &&& 31).toUInt32).toInt32)), (.int (2 : Int32)), (.ref b1)])) (fun t k => XS.iushr X8.here hx rfl (hb hby at_34) rfl k) ?_
  refine own_stepW (st' := T8.setTop (mkF m 38 #[.val (.int x0), .val (.int x1), .val (.int x2), .val (.int x3), .val (.int x4), .val (.ref b1), .unset, .unset, .unset, .unset, .unset] [(.int (255 : Int32)), (.int ((x0.toUInt32 >>> ((16 : Int32) &&& 31).toUInt32).toInt32)), (.int (2 : Int32)), (.ref b1)])) (fun t k => XS.sipush X8.here hx rfl (hb hby at_35) k) ?_
  refine own_stepW (st' := T8.setTop (mkF m 39 #[.val (.int x0), .val (.int x1), .val (.int x2), .val (.int x3), .val (.int x4), .val (.ref b1), .unset, .unset, .unset, .unset, .unset] [(.int (((x0.toUInt32 >>> ((16 : Int32) &&& 31).toUInt32).toInt32) &&& (255 : Int32))), (.int (2 : Int32)), (.ref b1)])) (fun t k => XS.iand X8.here hx rfl (hb hby at_38) rfl k) ?_
  refine own_stepW (st' := T8.setTop (mkF m 40 #[.val (.int x0), .val (.int x1), .val (.int x2), .val (.int x3), .val (.int x4), .val (.ref b1), .unset, .unset, .unset, .unset, .unset] [(.int ((((x0.toUInt32 >>> ((16 : Int32) &&& 31).toUInt32).toInt32) &&& (255 : Int32)).toUInt32.toUInt16.toUInt32.toInt32)), (.int (2 : Int32)), (.ref b1)])) (fun t k => XS.i2c X8.here hx rfl (hb hby at_39) rfl k) ?_
  obtain ⟨q2, e_q2⟩ : ∃ z : Int32, z = ((((x0.toUInt32 >>> ((16 : Int32) &&& 31).toUInt32).toInt32) &&& (255 : Int32)).toUInt32.toUInt16.toUInt32.toInt32) := ⟨_, rfl⟩
  rw [← e_q2]
  have b_q2 := own_b8 e_q2
  obtain ⟨T12, h12, X12, e12, W12, V12, st12⟩ := own_stC X8 hx hZ e8 V8 (j := (2 : Int32)) (i := 2) ⟨by decide, by decide⟩ rfl (Nat.le_of_ble_eq_true rfl) (g := (mkF m 40 #[.val (.int x0), .val (.int x1), .val (.int x2), .val (.int x3), .val (.int x4), .val (.ref b1), .unset, .unset, .unset, .unset, .unset] [(.int q2), (.int (2 : Int32)), (.ref b1)])) rfl rfl (hb hby at_40)
  have V12 : Arv Z h12 b1 k1 .char (4 : Int32) [(.int (q0.toUInt32.toUInt16.toUInt32.toInt32)), (.int (q1.toUInt32.toUInt16.toUInt32.toInt32)), (.int (q2.toUInt32.toUInt16.toUInt32.toInt32)), (.int (0 : Int32))] (.int (0 : Int32)) := V12
  have O13 := O9.wr W12 g_b1
  have Z14 : n0 ≤ h12.size := Nat.le_trans Z10 (Keep.of_wr W12).1
  have N15 := Fr.snoc X12 N11 g_b1
  refine own_stepW (st' := T12.setTop (mkF m 41 #[.val (.int x0), .val (.int x1), .val (.int x2), .val (.int x3), .val (.int x4), .val (.ref b1), .unset, .unset, .unset, .unset, .unset] [])) st12 ?_
  refine own_stepW (st' := T12.setTop (mkF m 43 #[.val (.int x0), .val (.int x1), .val (.int x2), .val (.int x3), .val (.int x4), .val (.ref b1), .unset, .unset, .unset, .unset, .unset] [(.ref b1)])) (fun t k => XS.aload X12.here hx rfl (hb hby at_41) rfl rfl k) ?_
  refine own_stepW (st' := T12.setTop (mkF m 44 #[.val (.int x0), .val (.int x1), .val (.int x2), .val (.int x3), .val (.int x4), .val (.ref b1), .unset, .unset, .unset, .unset, .unset] [(.int (3 : Int32)), (.ref b1)])) (fun t k => XS.iconst X12.here hx rfl (hb hby at_43) k) ?_
  refine own_stepW (st' := T12.setTop (mkF m 45 #[.val (.int x0), .val (.int x1), .val (.int x2), .val (.int x3), .val (.int x4), .val (.ref b1), .unset, .unset, .unset, .unset, .unset] [(.int x0), (.int (3 : Int32)), (.ref b1)])) (fun t k => XS.iloadN X12.here hx rfl (hb hby at_44) rfl k) ?_
  refine own_stepW (st' := T12.setTop (mkF m 47 #[.val (.int x0), .val (.int x1), .val (.int x2), .val (.int x3), .val (.int x4), .val (.ref b1), .unset, .unset, .unset, .unset, .unset] [(.int (24 : Int32)), (.int x0), (.int (3 : Int32)), (.ref b1)])) (fun t k => XS.bipush X12.here hx rfl (hb hby at_45) k) ?_
  refine own_stepW (st' := T12.setTop (mkF m 48 #[.val (.int x0), .val (.int x1), .val (.int x2), .val (.int x3), .val (.int x4), .val (.ref b1), .unset, .unset, .unset, .unset, .unset] [(.int ((x0.toUInt32 >>> ((24 : Int32) &&& 31).toUInt32).toInt32)), (.int (3 : Int32)), (.ref b1)])) (fun t k => XS.iushr X12.here hx rfl (hb hby at_47) rfl k) ?_
  refine own_stepW (st' := T12.setTop (mkF m 51 #[.val (.int x0), .val (.int x1), .val (.int x2), .val (.int x3), .val (.int x4), .val (.ref b1), .unset, .unset, .unset, .unset, .unset] [(.int (255 : Int32)), (.int ((x0.toUInt32 >>> ((24 : Int32) &&& 31).toUInt32).toInt32)), (.int (3 : Int32)), (.ref b1)])) (fun t k => XS.sipush X12.here hx rfl (hb hby at_48) k) ?_
  refine own_stepW (st' := T12.setTop (mkF m 52 #[.val (.int x0), .val (.int x1), .val (.int x2), .val (.int x3), .val (.int x4), .val (.ref b1), .unset, .unset, .unset, .unset, .unset] [(.int (((x0.toUInt32 >>> ((24 : Int32) &&& 31).toUInt32).toInt32) &&& (255 : Int32))), (.int (3 : Int32)), (.ref b1)])) (fun t k => XS.iand X12.here hx rfl (hb hby at_51) rfl k) ?_
  refine own_stepW (st' := T12.setTop (mkF m 53 #[.val (.int x0), .val (.int x1), .val (.int x2), .val (.int x3), .val (.int x4), .val (.ref b1), .unset, .unset, .unset, .unset, .unset] [(.int ((((x0.toUInt32 >>> ((24 : Int32) &&& 31).toUInt32).toInt32) &&& (255 : Int32)).toUInt32.toUInt16.toUInt32.toInt32)), (.int (3 : Int32)), (.ref b1)])) (fun t k => XS.i2c X12.here hx rfl (hb hby at_52) rfl k) ?_
  obtain ⟨q3, e_q3⟩ : ∃ z : Int32, z = ((((x0.toUInt32 >>> ((24 : Int32) &&& 31).toUInt32).toInt32) &&& (255 : Int32)).toUInt32.toUInt16.toUInt32.toInt32) := ⟨_, rfl⟩
  rw [← e_q3]
  have b_q3 := own_b8 e_q3
  obtain ⟨T16, h16, X16, e16, W16, V16, st16⟩ := own_stC X12 hx hZ e12 V12 (j := (3 : Int32)) (i := 3) ⟨by decide, by decide⟩ rfl (Nat.le_of_ble_eq_true rfl) (g := (mkF m 53 #[.val (.int x0), .val (.int x1), .val (.int x2), .val (.int x3), .val (.int x4), .val (.ref b1), .unset, .unset, .unset, .unset, .unset] [(.int q3), (.int (3 : Int32)), (.ref b1)])) rfl rfl (hb hby at_53)
  have V16 : Arv Z h16 b1 k1 .char (4 : Int32) [(.int (q0.toUInt32.toUInt16.toUInt32.toInt32)), (.int (q1.toUInt32.toUInt16.toUInt32.toInt32)), (.int (q2.toUInt32.toUInt16.toUInt32.toInt32)), (.int (q3.toUInt32.toUInt16.toUInt32.toInt32))] (.int (0 : Int32)) := V16
  have O17 := O13.wr W16 g_b1
  have Z18 : n0 ≤ h16.size := Nat.le_trans Z14 (Keep.of_wr W16).1
  have N19 := Fr.snoc X16 N15 g_b1
  refine own_stepW (st' := T16.setTop (mkF m 54 #[.val (.int x0), .val (.int x1), .val (.int x2), .val (.int x3), .val (.int x4), .val (.ref b1), .unset, .unset, .unset, .unset, .unset] [])) st16 ?_
  have VC0 : Arv Z h16 b1 k1 .char (4 : Int32) [(.int q0), (.int q1), (.int q2), (.int q3)] (.int (0 : Int32)) := by
    have q := V16
    rw [show q0.toUInt32.toUInt16.toUInt32.toInt32 = q0 from own_nc b_q0, show q1.toUInt32.toUInt16.toUInt32.toInt32 = q1 from own_nc b_q1, show q2.toUInt32.toUInt16.toUInt32.toInt32 = q2 from own_nc b_q2, show q3.toUInt32.toUInt16.toUInt32.toInt32 = q3 from own_nc b_q3] at q
    exact q
  obtain ⟨T20, h20, X20, e20, E20, A20, D20, -, st20⟩ := newO X16 hx hZ hown (own_h hw 1 rfl) (own_h hw 2 rfl) (own_h hw 3 rfl) e16 (g := (mkF m 54 #[.val (.int x0), .val (.int x1), .val (.int x2), .val (.int x3), .val (.int x4), .val (.ref b1), .unset, .unset, .unset, .unset, .unset] [])) rfl (hb hby at_54) (by decide) (by decide)
  obtain ⟨b20, g20⟩ : ∃ z, z = h16.size := ⟨_, rfl⟩
  rw [← g20] at A20 D20 st20
  have ne21 : b1 ≠ b20 := Nat.ne_of_lt (Nat.lt_of_lt_of_le VC0.lt (Nat.le_of_eq g20.symm))
  have g_b20 : n0 ≤ b20 := Nat.le_trans Z18 (Nat.le_of_eq g20.symm)
  have f22 := VC0.ext E20
  have O23 := O17.ext E20
  have Z24 : n0 ≤ h20.size := Nat.le_trans Z18 E20.1
  have f25 : Fld Z h20 b20 "java/lang/String" "coder" "B" (.int (0 : Int32)) := D20 (Or.inr (own_h hw 27 rfl)) (ty := .byte) (by decide)
  have f26 : Fld Z h20 b20 "java/lang/String" "value" "[B" .null := D20 (Or.inr (own_h hw 29 rfl)) (ty := (.array .byte)) (by decide)
  refine own_stepW (st' := T20.setTop (mkF m 57 #[.val (.int x0), .val (.int x1), .val (.int x2), .val (.int x3), .val (.int x4), .val (.ref b1), .unset, .unset, .unset, .unset, .unset] [(.ref b20)])) st20 ?_
  refine own_stepW (st' := T20.setTop (mkF m 58 #[.val (.int x0), .val (.int x1), .val (.int x2), .val (.int x3), .val (.int x4), .val (.ref b1), .unset, .unset, .unset, .unset, .unset] [(.ref b20), (.ref b20)])) (fun t k => XS.dup X20.here hx rfl (hb hby at_57) rfl rfl k) ?_
  refine own_stepW (st' := T20.setTop (mkF m 60 #[.val (.int x0), .val (.int x1), .val (.int x2), .val (.int x3), .val (.int x4), .val (.ref b1), .unset, .unset, .unset, .unset, .unset] [(.ref b1), (.ref b20), (.ref b20)])) (fun t k => XS.aload X20.here hx rfl (hb hby at_58) rfl rfl k) ?_
  obtain ⟨_, _, ⟨T27, L27, k27, n27⟩, -, X27, ⟨Lc27, hQ27, l27, y27, z27⟩, st27⟩ := X20.specialBack hx (y := (⟨"java/lang/String", "<init>", "([C)V"⟩ : MethodName)) rfl hown (mvT hZ (own_h hw 4 rfl)) (mvT hZ (own_h hw 5 rfl)) (mvT hZ (own_h hw 6 rfl)) (by decide) (backOf (W := 1) (rm1 l Z a0 hw [] b20 b1 k1 q0 q1 q2 q3 cs h20 n0 Z24 O23 f25 f26 A20 g_b20 ne21 f22 b_q0 b_q1 b_q2 b_q3 p_0 p_1) hZ (own_h hw 6 rfl) (own_h hw 3 rfl) (by decide) (by decide)) (g := (mkF m 60 #[.val (.int x0), .val (.int x1), .val (.int x2), .val (.int x3), .val (.int x4), .val (.ref b1), .unset, .unset, .unset, .unset, .unset] [(.ref b1), (.ref b20), (.ref b20)])) rfl (by rw [hml]; rfl) (Steps.refl _) (a := b20) (argsL := [(.ref b1)]) (rest := [(.ref b20)]) (lenOf pd_0 rfl) rfl (by show 2 * 0 + _ ≤ _; exact Nat.le_of_eq rfl) (hb hby at_60) (fun _ _ => ⟨rfl, e20, (by decide : 2 + 1 ≤ _), (by decide : 8 + 4 ≤ _)⟩)
  dsimp only [Pt.U, Pt.locs, Pt.cells, Pt.slots] at X27 l27 y27 z27 st27 hQ27
  subst y27 z27
  obtain ⟨b_27, kb_27, rfl, N27q, K27, pq27_0, pq27_1, pq27_2, pq27_3⟩ := hQ27
  have N27 := Fr.app N19 N27q
  rw [← l27] at N27
  clear l27
  obtain ⟨h27, e27⟩ : ∃ z, T27.heap = z := ⟨_, rfl⟩
  rw [e27] at K27 pq27_1 pq27_2 pq27_3
  have ne28 : b1 ≠ b_27 := Nat.ne_of_lt (Nat.lt_of_lt_of_le f22.lt pq27_0)
  have ne29 : b20 ≠ b_27 := Nat.ne_of_lt (Nat.lt_of_lt_of_le A20.lt pq27_0)
  have g_b_27 : n0 ≤ b_27 := Nat.le_trans Z24 pq27_0
  have f30 := f22.keep K27 (ninS ne21 nin0)
  have f31 := A20.keep K27
  have O32 := O23.keep K27 (allS g_b20 all0)
  have Z33 : n0 ≤ h27.size := Nat.le_trans Z24 K27.1
  refine own_stepW (st' := T27.setTop (mkF m 63 #[.val (.int x0), .val (.int x1), .val (.int x2), .val (.int x3), .val (.int x4), .val (.ref b1), .unset, .unset, .unset, .unset, .unset] [(.ref b20)])) (fun t k => st27.trans k) ?_
  refine own_stepW (st' := T27.setTop (mkF m 65 #[.val (.int x0), .val (.int x1), .val (.int x2), .val (.int x3), .val (.int x4), .val (.ref b1), .val (.ref b20), .unset, .unset, .unset, .unset] [])) (fun t k => XS.astore X27.here hx rfl (hb hby at_63) rfl rfl (l' := #[.val (.int x0), .val (.int x1), .val (.int x2), .val (.int x3), .val (.int x4), .val (.ref b1), .val (.ref b20), .unset, .unset, .unset, .unset]) rfl k) ?_
  refine own_stepW (st' := T27.setTop (mkF m 66 #[.val (.int x0), .val (.int x1), .val (.int x2), .val (.int x3), .val (.int x4), .val (.ref b1), .val (.ref b20), .unset, .unset, .unset, .unset] [(.int x1)])) (fun t k => XS.iloadN X27.here hx rfl (hb hby at_65) rfl k) ?_
  refine own_stepW (st' := T27.setTop (mkF m 68 #[.val (.int x0), .val (.int x1), .val (.int x2), .val (.int x3), .val (.int x4), .val (.ref b1), .val (.ref b20), .unset, .unset, .unset, .unset] [(.int (2147483647 : Int32)), (.int x1)])) (fun t k => X27.ldcInt hx hown (mvT hZ (own_h hw 30 rfl)) (g := (mkF m 66 #[.val (.int x0), .val (.int x1), .val (.int x2), .val (.int x3), .val (.int x4), .val (.ref b1), .val (.ref b20), .unset, .unset, .unset, .unset] [(.int x1)])) rfl (hb hby at_66) t k) ?_
  refine own_stepW (st' := T27.setTop (mkF m 69 #[.val (.int x0), .val (.int x1), .val (.int x2), .val (.int x3), .val (.int x4), .val (.ref b1), .val (.ref b20), .unset, .unset, .unset, .unset] [(.int (x1 &&& (2147483647 : Int32)))])) (fun t k => XS.iand X27.here hx rfl (hb hby at_68) rfl k) ?_
  refine own_stepW (st' := T27.setTop (mkF m 70 #[.val (.int x0), .val (.int x1), .val (.int x2), .val (.int x3), .val (.int x4), .val (.ref b1), .val (.ref b20), .unset, .unset, .unset, .unset] [(.int (5 : Int32)), (.int (x1 &&& (2147483647 : Int32)))])) (fun t k => XS.iconst X27.here hx rfl (hb hby at_69) k) ?_
  refine own_stepW (st' := T27.setTop (mkF m 71 #[.val (.int x0), .val (.int x1), .val (.int x2), .val (.int x3), .val (.int x4), .val (.ref b1), .val (.ref b20), .unset, .unset, .unset, .unset] [(.int ((x1 &&& (2147483647 : Int32)) % (5 : Int32)))])) (fun t k => iremM (g := (mkF m 70 #[.val (.int x0), .val (.int x1), .val (.int x2), .val (.int x3), .val (.int x4), .val (.ref b1), .val (.ref b20), .unset, .unset, .unset, .unset] [(.int (5 : Int32)), (.int (x1 &&& (2147483647 : Int32)))])) X27 hx rfl (hb hby at_70) rfl (by decide) k) ?_
  rcases own_s5 x1 with hn34 | hn35 | hn36 | hn37 | hn38
  · rw [hn34]
    refine own_stepW (st' := T27.setTop (mkF m 73 #[.val (.int x0), .val (.int x1), .val (.int x2), .val (.int x3), .val (.int x4), .val (.ref b1), .val (.ref b20), .val (.int (0 : Int32)), .unset, .unset, .unset] [])) (fun t k => XS.istore X27.here hx rfl (hb hby at_71) rfl (l' := #[.val (.int x0), .val (.int x1), .val (.int x2), .val (.int x3), .val (.int x4), .val (.ref b1), .val (.ref b20), .val (.int (0 : Int32)), .unset, .unset, .unset]) rfl k) ?_
    refine own_stepW (st' := T27.setTop (mkF m 75 #[.val (.int x0), .val (.int x1), .val (.int x2), .val (.int x3), .val (.int x4), .val (.ref b1), .val (.ref b20), .val (.int (0 : Int32)), .unset, .unset, .unset] [(.int (0 : Int32))])) (fun t k => XS.iload X27.here hx rfl (hb hby at_73) rfl k) ?_
    refine own_stepW (st' := T27.setTop (mkF m 76 #[.val (.int x0), .val (.int x1), .val (.int x2), .val (.int x3), .val (.int x4), .val (.ref b1), .val (.ref b20), .val (.int (0 : Int32)), .unset, .unset, .unset] [(.int x2), (.int (0 : Int32))])) (fun t k => XS.iloadN X27.here hx rfl (hb hby at_75) rfl k) ?_
    refine own_stepW (st' := T27.setTop (mkF m 78 #[.val (.int x0), .val (.int x1), .val (.int x2), .val (.int x3), .val (.int x4), .val (.ref b1), .val (.ref b20), .val (.int (0 : Int32)), .unset, .unset, .unset] [(.int (2147483647 : Int32)), (.int x2), (.int (0 : Int32))])) (fun t k => X27.ldcInt hx hown (mvT hZ (own_h hw 30 rfl)) (g := (mkF m 76 #[.val (.int x0), .val (.int x1), .val (.int x2), .val (.int x3), .val (.int x4), .val (.ref b1), .val (.ref b20), .val (.int (0 : Int32)), .unset, .unset, .unset] [(.int x2), (.int (0 : Int32))])) rfl (hb hby at_76) t k) ?_
    refine own_stepW (st' := T27.setTop (mkF m 79 #[.val (.int x0), .val (.int x1), .val (.int x2), .val (.int x3), .val (.int x4), .val (.ref b1), .val (.ref b20), .val (.int (0 : Int32)), .unset, .unset, .unset] [(.int (x2 &&& (2147483647 : Int32))), (.int (0 : Int32))])) (fun t k => XS.iand X27.here hx rfl (hb hby at_78) rfl k) ?_
    refine own_stepW (st' := T27.setTop (mkF m 80 #[.val (.int x0), .val (.int x1), .val (.int x2), .val (.int x3), .val (.int x4), .val (.ref b1), .val (.ref b20), .val (.int (0 : Int32)), .unset, .unset, .unset] [(.int (5 : Int32)), (.int (x2 &&& (2147483647 : Int32))), (.int (0 : Int32))])) (fun t k => XS.iconst X27.here hx rfl (hb hby at_79) k) ?_
    refine own_stepW (st' := T27.setTop (mkF m 82 #[.val (.int x0), .val (.int x1), .val (.int x2), .val (.int x3), .val (.int x4), .val (.ref b1), .val (.ref b20), .val (.int (0 : Int32)), .unset, .unset, .unset] [(.int (0 : Int32)), (.int (5 : Int32)), (.int (x2 &&& (2147483647 : Int32))), (.int (0 : Int32))])) (fun t k => XS.iload X27.here hx rfl (hb hby at_80) rfl k) ?_
    refine own_stepW (st' := T27.setTop (mkF m 83 #[.val (.int x0), .val (.int x1), .val (.int x2), .val (.int x3), .val (.int x4), .val (.ref b1), .val (.ref b20), .val (.int (0 : Int32)), .unset, .unset, .unset] [(.int (5 : Int32)), (.int (x2 &&& (2147483647 : Int32))), (.int (0 : Int32))])) (fun t k => XS.isub X27.here hx rfl (hb hby at_82) rfl k) ?_
    refine own_stepW (st' := T27.setTop (mkF m 84 #[.val (.int x0), .val (.int x1), .val (.int x2), .val (.int x3), .val (.int x4), .val (.ref b1), .val (.ref b20), .val (.int (0 : Int32)), .unset, .unset, .unset] [(.int ((x2 &&& (2147483647 : Int32)) % (5 : Int32))), (.int (0 : Int32))])) (fun t k => iremM (g := (mkF m 83 #[.val (.int x0), .val (.int x1), .val (.int x2), .val (.int x3), .val (.int x4), .val (.ref b1), .val (.ref b20), .val (.int (0 : Int32)), .unset, .unset, .unset] [(.int (5 : Int32)), (.int (x2 &&& (2147483647 : Int32))), (.int (0 : Int32))])) X27 hx rfl (hb hby at_83) rfl (by decide) k) ?_
    rcases own_s5 x2 with hn39 | hn40 | hn41 | hn42 | hn43
    · rw [hn39]
      refine own_stepW (st' := T27.setTop (mkF m 85 #[.val (.int x0), .val (.int x1), .val (.int x2), .val (.int x3), .val (.int x4), .val (.ref b1), .val (.ref b20), .val (.int (0 : Int32)), .unset, .unset, .unset] [(.int (0 : Int32))])) (fun t k => XS.iadd X27.here hx rfl (hb hby at_84) rfl k) ?_
      refine own_stepW (st' := T27.setTop (mkF m 87 #[.val (.int x0), .val (.int x1), .val (.int x2), .val (.int x3), .val (.int x4), .val (.ref b1), .val (.ref b20), .val (.int (0 : Int32)), .val (.int (0 : Int32)), .unset, .unset] [])) (fun t k => XS.istore X27.here hx rfl (hb hby at_85) rfl (l' := #[.val (.int x0), .val (.int x1), .val (.int x2), .val (.int x3), .val (.int x4), .val (.ref b1), .val (.ref b20), .val (.int (0 : Int32)), .val (.int (0 : Int32)), .unset, .unset]) rfl k) ?_
      obtain ⟨T44, h44, X44, e44, E44, A44, D44, -, st44⟩ := newO X27 hx hZ hown (own_h hw 31 rfl) (own_h hw 32 rfl) (own_h hw 33 rfl) e27 (g := (mkF m 87 #[.val (.int x0), .val (.int x1), .val (.int x2), .val (.int x3), .val (.int x4), .val (.ref b1), .val (.ref b20), .val (.int (0 : Int32)), .val (.int (0 : Int32)), .unset, .unset] [])) rfl (hb hby at_87) (by decide) (by decide)
      obtain ⟨b44, g44⟩ : ∃ z, z = h27.size := ⟨_, rfl⟩
      rw [← g44] at A44 D44 st44
      have ne45 : b1 ≠ b44 := Nat.ne_of_lt (Nat.lt_of_lt_of_le f30.lt (Nat.le_of_eq g44.symm))
      have ne46 : b20 ≠ b44 := Nat.ne_of_lt (Nat.lt_of_lt_of_le f31.lt (Nat.le_of_eq g44.symm))
      have ne47 : b_27 ≠ b44 := Nat.ne_of_lt (Nat.lt_of_lt_of_le pq27_3.lt (Nat.le_of_eq g44.symm))
      have g_b44 : n0 ≤ b44 := Nat.le_trans Z33 (Nat.le_of_eq g44.symm)
      have f48 := f30.ext E44
      have f49 := f31.ext E44
      have f50 := pq27_1.ext E44
      have f51 := pq27_2.ext E44
      have f52 := pq27_3.ext E44
      have O53 := O32.ext E44
      have Z54 : n0 ≤ h44.size := Nat.le_trans Z33 E44.1
      have f55 : Fld Z h44 b44 "com/example/lookahead/lookahead/runtime/Token" "terminal" "Lcom/example/lookahead/lookahead/core/Terminal;" .null := D44 (Or.inr (own_h hw 42 rfl)) (ty := (.object "com/example/lookahead/lookahead/core/Terminal")) (by decide)
      have f56 : Fld Z h44 b44 "com/example/lookahead/lookahead/runtime/Token" "input" "Ljava/lang/String;" .null := D44 (Or.inr (own_h hw 44 rfl)) (ty := (.object "java/lang/String")) (by decide)
      have f57 : Fld Z h44 b44 "com/example/lookahead/lookahead/runtime/Token" "start" "I" (.int (0 : Int32)) := D44 (Or.inr (own_h hw 46 rfl)) (ty := .int) (by decide)
      have f58 : Fld Z h44 b44 "com/example/lookahead/lookahead/runtime/Token" "end" "I" (.int (0 : Int32)) := D44 (Or.inr (own_h hw 48 rfl)) (ty := .int) (by decide)
      have f59 : Fld Z h44 b44 "com/example/lookahead/lookahead/runtime/Token" "line" "I" (.int (0 : Int32)) := D44 (Or.inr (own_h hw 50 rfl)) (ty := .int) (by decide)
      have f60 : Fld Z h44 b44 "com/example/lookahead/lookahead/runtime/Token" "column" "I" (.int (0 : Int32)) := D44 (Or.inr (own_h hw 52 rfl)) (ty := .int) (by decide)
      refine own_stepW (st' := T44.setTop (mkF m 90 #[.val (.int x0), .val (.int x1), .val (.int x2), .val (.int x3), .val (.int x4), .val (.ref b1), .val (.ref b20), .val (.int (0 : Int32)), .val (.int (0 : Int32)), .unset, .unset] [(.ref b44)])) st44 ?_
      refine own_stepW (st' := T44.setTop (mkF m 91 #[.val (.int x0), .val (.int x1), .val (.int x2), .val (.int x3), .val (.int x4), .val (.ref b1), .val (.ref b20), .val (.int (0 : Int32)), .val (.int (0 : Int32)), .unset, .unset] [(.ref b44), (.ref b44)])) (fun t k => XS.dup X44.here hx rfl (hb hby at_90) rfl rfl k) ?_
      obtain ⟨T61, X61, e61, st61⟩ := getS2 X44 hx hZ hown (host := "") (Or.inl (own_h hw 34 rfl)) Via.refl e44 (p_4.ext O53.2) (g := (mkF m 91 #[.val (.int x0), .val (.int x1), .val (.int x2), .val (.int x3), .val (.int x4), .val (.ref b1), .val (.ref b20), .val (.int (0 : Int32)), .val (.int (0 : Int32)), .unset, .unset] [(.ref b44), (.ref b44)])) rfl (hb hby at_91)
      refine own_stepW (st' := T61.setTop (mkF m 94 #[.val (.int x0), .val (.int x1), .val (.int x2), .val (.int x3), .val (.int x4), .val (.ref b1), .val (.ref b20), .val (.int (0 : Int32)), .val (.int (0 : Int32)), .unset, .unset] [(.ref tm), (.ref b44), (.ref b44)])) st61 ?_
      refine own_stepW (st' := T61.setTop (mkF m 96 #[.val (.int x0), .val (.int x1), .val (.int x2), .val (.int x3), .val (.int x4), .val (.ref b1), .val (.ref b20), .val (.int (0 : Int32)), .val (.int (0 : Int32)), .unset, .unset] [(.ref b20), (.ref tm), (.ref b44), (.ref b44)])) (fun t k => XS.aload X61.here hx rfl (hb hby at_94) rfl rfl k) ?_
      refine own_stepW (st' := T61.setTop (mkF m 98 #[.val (.int x0), .val (.int x1), .val (.int x2), .val (.int x3), .val (.int x4), .val (.ref b1), .val (.ref b20), .val (.int (0 : Int32)), .val (.int (0 : Int32)), .unset, .unset] [(.int (0 : Int32)), (.ref b20), (.ref tm), (.ref b44), (.ref b44)])) (fun t k => XS.iload X61.here hx rfl (hb hby at_96) rfl k) ?_
      refine own_stepW (st' := T61.setTop (mkF m 100 #[.val (.int x0), .val (.int x1), .val (.int x2), .val (.int x3), .val (.int x4), .val (.ref b1), .val (.ref b20), .val (.int (0 : Int32)), .val (.int (0 : Int32)), .unset, .unset] [(.int (0 : Int32)), (.int (0 : Int32)), (.ref b20), (.ref tm), (.ref b44), (.ref b44)])) (fun t k => XS.iload X61.here hx rfl (hb hby at_98) rfl k) ?_
      refine own_stepW (st' := T61.setTop (mkF m 101 #[.val (.int x0), .val (.int x1), .val (.int x2), .val (.int x3), .val (.int x4), .val (.ref b1), .val (.ref b20), .val (.int (0 : Int32)), .val (.int (0 : Int32)), .unset, .unset] [(.int x3), (.int (0 : Int32)), (.int (0 : Int32)), (.ref b20), (.ref tm), (.ref b44), (.ref b44)])) (fun t k => XS.iloadN X61.here hx rfl (hb hby at_100) rfl k) ?_
      refine own_stepW (st' := T61.setTop (mkF m 103 #[.val (.int x0), .val (.int x1), .val (.int x2), .val (.int x3), .val (.int x4), .val (.ref b1), .val (.ref b20), .val (.int (0 : Int32)), .val (.int (0 : Int32)), .unset, .unset] [(.int x4), (.int x3), (.int (0 : Int32)), (.int (0 : Int32)), (.ref b20), (.ref tm), (.ref b44), (.ref b44)])) (fun t k => XS.iload X61.here hx rfl (hb hby at_101) rfl k) ?_
      obtain ⟨_, _, ⟨T62, L62, k62, n62⟩, -, X62, ⟨Lc62, hQ62, l62, y62, z62⟩, st62⟩ := X61.specialBack hx (y := (⟨"com/example/lookahead/lookahead/runtime/Token", "<init>", "(Lcom/example/lookahead/lookahead/core/Terminal;Ljava/lang/String;IIII)V"⟩ : MethodName)) rfl hown (mvT hZ (own_h hw 37 rfl)) (mvT hZ (own_h hw 38 rfl)) (mvT hZ (own_h hw 39 rfl)) (by decide) (backOf (W := 1) (rm7 l Z a0 hw [] b44 tm b20 (0 : Int32) (0 : Int32) x3 x4 h44 n0 Z54 f55 f56 f57 f58 f59 f60 A44 g_b44) hZ (own_h hw 39 rfl) (own_h hw 33 rfl) (by decide) (by decide)) (g := (mkF m 103 #[.val (.int x0), .val (.int x1), .val (.int x2), .val (.int x3), .val (.int x4), .val (.ref b1), .val (.ref b20), .val (.int (0 : Int32)), .val (.int (0 : Int32)), .unset, .unset] [(.int x4), (.int x3), (.int (0 : Int32)), (.int (0 : Int32)), (.ref b20), (.ref tm), (.ref b44), (.ref b44)])) rfl (by rw [hml]; rfl) (Steps.refl _) (a := b44) (argsL := [(.ref tm), (.ref b20), (.int (0 : Int32)), (.int (0 : Int32)), (.int x3), (.int x4)]) (rest := [(.ref b44)]) (lenOf pd_6 rfl) rfl (by show 2 * 0 + _ ≤ _; exact Nat.le_of_eq rfl) (hb hby at_103) (fun _ _ => ⟨rfl, e61, (by decide : 4 + 0 ≤ _), (by decide : 18 + 0 ≤ _)⟩)
      dsimp only [Pt.U, Pt.locs, Pt.cells, Pt.slots] at X62 l62 y62 z62 st62 hQ62
      subst y62 z62
      obtain ⟨rfl, N62q, K62, pq62_0, pq62_1, pq62_2⟩ := hQ62
      have N62 := Fr.app N27 N62q
      rw [← l62] at N62
      clear l62
      obtain ⟨h62, e62⟩ : ∃ z, T62.heap = z := ⟨_, rfl⟩
      rw [e62] at K62 pq62_0 pq62_1 pq62_2
      have f63 := f48.keep K62 (ninS ne45 nin0)
      have f64 := f49.keep K62
      have f65 := f50.keep K62 (ninS ne46 nin0)
      have f66 := f51.keep K62 (ninS ne46 nin0)
      have f67 := f52.keep K62 (ninS ne47 nin0)
      have f68 := A44.keep K62
      have O69 := O53.keep K62 (allS g_b44 all0)
      have Z70 : n0 ≤ h62.size := Nat.le_trans Z54 K62.1
      refine own_stepW (st' := T62.setTop (mkF m 106 #[.val (.int x0), .val (.int x1), .val (.int x2), .val (.int x3), .val (.int x4), .val (.ref b1), .val (.ref b20), .val (.int (0 : Int32)), .val (.int (0 : Int32)), .unset, .unset] [(.ref b44)])) (fun t k => st62.trans k) ?_
      refine own_stepW (st' := T62.setTop (mkF m 108 #[.val (.int x0), .val (.int x1), .val (.int x2), .val (.int x3), .val (.int x4), .val (.ref b1), .val (.ref b20), .val (.int (0 : Int32)), .val (.int (0 : Int32)), .val (.ref b44), .unset] [])) (fun t k => XS.astore X62.here hx rfl (hb hby at_106) rfl rfl (l' := #[.val (.int x0), .val (.int x1), .val (.int x2), .val (.int x3), .val (.int x4), .val (.ref b1), .val (.ref b20), .val (.int (0 : Int32)), .val (.int (0 : Int32)), .val (.ref b44), .unset]) rfl k) ?_
      refine own_stepW (st' := T62.setTop (mkF m 110 #[.val (.int x0), .val (.int x1), .val (.int x2), .val (.int x3), .val (.int x4), .val (.ref b1), .val (.ref b20), .val (.int (0 : Int32)), .val (.int (0 : Int32)), .val (.ref b44), .unset] [(.ref b44)])) (fun t k => XS.aload X62.here hx rfl (hb hby at_108) rfl rfl k) ?_
      obtain ⟨cq71, kq71, q71a, q71b, q71c⟩ := isOf hZ e62 f68
      obtain ⟨_, _, ⟨T71, L71, k71, n71⟩, -, X71, hS71, hgr71, ⟨Lc71, hQ71, l71, y71, z71⟩, st71⟩ := X62.virtualBackS hx (y := (⟨"com/example/lookahead/lookahead/runtime/Token", "text", "()Ljava/lang/String;"⟩ : MethodName)) (z := (⟨"com/example/lookahead/lookahead/runtime/Token", "text", "()Ljava/lang/String;"⟩ : MethodName)) hown (mvT hZ (own_h hw 53 rfl)) (mvT hZ (own_h hw 54 rfl)) (notFace_of_selects (args := #[]) (mvT hZ (own_h hw 56 rfl))) (mvT hZ (own_h hw 56 rfl)) (mvT hZ (own_h hw 55 rfl)) (by decide) (own_backS (W := 0) (rmT0 l Z a0 hw [] b44 b20 (0 : Int32) (0 : Int32) b_27 kb_27 [(.int ((q0.toInt8.toInt32).toInt8.toInt32)), (.int ((q1.toInt8.toInt32).toInt8.toInt32)), (.int ((q2.toInt8.toInt32).toInt8.toInt32)), (.int ((q3.toInt8.toInt32).toInt8.toInt32))] cs fm h62 n0 Z70 O69 pq62_0 pq62_1 pq62_2 f64 f65 f66 f67 p_0 p_1 p_2 p_3 ⟨by decide, by decide⟩ rfl p_5) hZH (own_h hw 57 rfl) (own_h hw 33 rfl) (by decide) (by decide)) q71a q71c (g := (mkF m 110 #[.val (.int x0), .val (.int x1), .val (.int x2), .val (.int x3), .val (.int x4), .val (.ref b1), .val (.ref b20), .val (.int (0 : Int32)), .val (.int (0 : Int32)), .val (.ref b44), .unset] [(.ref b44)])) rfl (by rw [hml]; rfl) (Steps.refl _) (argsL := []) (rest := []) (lenOf pd_7 rfl) rfl (by show 2 * 0 + _ ≤ _; exact Nat.le_of_eq rfl) (hb hby at_110) (fun _ _ => ⟨rfl, e62, (by decide : 4 + 2 ≤ _), (by decide : 18 + 4 ≤ _)⟩)
      dsimp only [Pt.U, Pt.locs, Pt.cells, Pt.slots] at X71 l71 y71 z71 st71 hQ71 hS71
      subst y71 z71
      obtain ⟨r_71, b_71, kb_71, rfl, N71q, K71, pq71_0, pq71_1, pq71_2, pq71_3⟩ := hQ71
      have N71 := Fr.app N62 N71q
      rw [← l71] at N71
      clear l71
      obtain ⟨h71, e71⟩ : ∃ z, T71.heap = z := ⟨_, rfl⟩
      rw [e71] at K71 pq71_0 pq71_1 pq71_2 pq71_3
      have f72 := f63.keep K71 nin0
      have f73 := f64.keep K71
      have f74 := f65.keep K71 nin0
      have f75 := f66.keep K71 nin0
      have f76 := f67.keep K71 nin0
      have f77 := f68.keep K71
      have f78 := pq62_0.keep K71 nin0
      have f79 := pq62_1.keep K71 nin0
      have f80 := pq62_2.keep K71 nin0
      have O81 := O69.keep K71 all0
      have Z82 : n0 ≤ h71.size := Nat.le_trans Z70 K71.1
      have hZ : Z.Warmed39 (s.setVm T71.vm).vm := State.Warmed39.trans (t := s) hZ hS71.1
      have hown : (s.setVm T71.vm).vm.findClass "com/example/lookahead/lookahead/runtime/TokenTextPinLaw" = some m.cls := by rw [show (s.setVm T71.vm).vm = T71.vm from rfl, hS71.1.alike.findClass]; exact hown
      refine own_stepW (st' := T71.setTop (mkF m 113 #[.val (.int x0), .val (.int x1), .val (.int x2), .val (.int x3), .val (.int x4), .val (.ref b1), .val (.ref b20), .val (.int (0 : Int32)), .val (.int (0 : Int32)), .val (.ref b44), .unset] [(.ref r_71)])) (fun t k => st71.trans k) ?_
      refine own_stepW (st' := T71.setTop (mkF m 115 #[.val (.int x0), .val (.int x1), .val (.int x2), .val (.int x3), .val (.int x4), .val (.ref b1), .val (.ref b20), .val (.int (0 : Int32)), .val (.int (0 : Int32)), .val (.ref b44), .val (.ref r_71)] [])) (fun t k => XS.astore X71.here hx rfl (hb hby at_113) rfl rfl (l' := #[.val (.int x0), .val (.int x1), .val (.int x2), .val (.int x3), .val (.int x4), .val (.ref b1), .val (.ref b20), .val (.int (0 : Int32)), .val (.int (0 : Int32)), .val (.ref b44), .val (.ref r_71)]) rfl k) ?_
      refine own_stepW (st' := T71.setTop (mkF m 117 #[.val (.int x0), .val (.int x1), .val (.int x2), .val (.int x3), .val (.int x4), .val (.ref b1), .val (.ref b20), .val (.int (0 : Int32)), .val (.int (0 : Int32)), .val (.ref b44), .val (.ref r_71)] [(.ref r_71)])) (fun t k => XS.aload X71.here hx rfl (hb hby at_115) rfl rfl k) ?_
      refine own_stepW (st' := T71.setTop (mkF m 122 #[.val (.int x0), .val (.int x1), .val (.int x2), .val (.int x3), .val (.int x4), .val (.ref b1), .val (.ref b20), .val (.int (0 : Int32)), .val (.int (0 : Int32)), .val (.ref b44), .val (.ref r_71)] [])) (fun t k => XS.ifnonnullYes X71.here hx rfl (pc0 := 117) (pc' := 122) rfl (hb hby at_117) rfl (by decide) (by decide) k) ?_
      refine own_stepW (st' := T71.setTop (mkF m 124 #[.val (.int x0), .val (.int x1), .val (.int x2), .val (.int x3), .val (.int x4), .val (.ref b1), .val (.ref b20), .val (.int (0 : Int32)), .val (.int (0 : Int32)), .val (.ref b44), .val (.ref r_71)] [(.ref r_71)])) (fun t k => XS.aload X71.here hx rfl (hb hby at_122) rfl rfl k) ?_
      obtain ⟨cq83, kq83, q83a, q83b, q83c⟩ := isOf hZ e71 pq71_0
      obtain ⟨_, _, ⟨T83, L83, k83, n83⟩, -, X83, ⟨Lc83, hQ83, l83, y83, z83⟩, st83⟩ := X71.virtualBack hx (y := (⟨"java/lang/String", "length", "()I"⟩ : MethodName)) (z := (⟨"java/lang/String", "length", "()I"⟩ : MethodName)) hown (mvT hZ (own_h hw 93 rfl)) (mvT hZ (own_h hw 64 rfl)) (notFace_of_selects (args := #[]) (mvT hZ (own_h hw 66 rfl))) (mvT hZ (own_h hw 66 rfl)) (mvT hZ (own_h hw 65 rfl)) (by decide) (backOf (W := 0) (rm10 l Z a0 hw [] r_71 b_71 kb_71 (0 : Int32) [] cs h71 n0 Z82 O81 pq71_0 pq71_1 pq71_2 pq71_3 p_0 p_1) hZ (own_h hw 67 rfl) (own_h hw 3 rfl) (by decide) (by decide)) q83a q83c (g := (mkF m 124 #[.val (.int x0), .val (.int x1), .val (.int x2), .val (.int x3), .val (.int x4), .val (.ref b1), .val (.ref b20), .val (.int (0 : Int32)), .val (.int (0 : Int32)), .val (.ref b44), .val (.ref r_71)] [(.ref r_71)])) rfl (by rw [hml]; rfl) (Steps.refl _) (argsL := []) (rest := []) (lenOf pd_9 rfl) rfl (by show 2 * 0 + _ ≤ _; exact Nat.le_of_eq rfl) (hb hby at_124) (fun _ _ => ⟨rfl, e71, (by decide : 6 + 0 ≤ _), (by decide : 22 + 0 ≤ _)⟩)
      dsimp only [Pt.U, Pt.locs, Pt.cells, Pt.slots] at X83 l83 y83 z83 st83 hQ83
      subst y83 z83
      obtain ⟨rfl, N83q, e83⟩ := hQ83
      have N83 := Fr.app N71 N83q
      rw [← l83] at N83
      clear l83
      refine own_stepW (st' := T83.setTop (mkF m 127 #[.val (.int x0), .val (.int x1), .val (.int x2), .val (.int x3), .val (.int x4), .val (.ref b1), .val (.ref b20), .val (.int (0 : Int32)), .val (.int (0 : Int32)), .val (.ref b44), .val (.ref r_71)] [(.int (0 : Int32))])) (fun t k => st83.trans k) ?_
      refine own_stepW (st' := T83.setTop (mkF m 129 #[.val (.int x0), .val (.int x1), .val (.int x2), .val (.int x3), .val (.int x4), .val (.ref b1), .val (.ref b20), .val (.int (0 : Int32)), .val (.int (0 : Int32)), .val (.ref b44), .val (.ref r_71)] [(.int (0 : Int32)), (.int (0 : Int32))])) (fun t k => XS.iload X83.here hx rfl (hb hby at_127) rfl k) ?_
      refine own_stepW (st' := T83.setTop (mkF m 131 #[.val (.int x0), .val (.int x1), .val (.int x2), .val (.int x3), .val (.int x4), .val (.ref b1), .val (.ref b20), .val (.int (0 : Int32)), .val (.int (0 : Int32)), .val (.ref b44), .val (.ref r_71)] [(.int (0 : Int32)), (.int (0 : Int32)), (.int (0 : Int32))])) (fun t k => XS.iload X83.here hx rfl (hb hby at_129) rfl k) ?_
      refine own_stepW (st' := T83.setTop (mkF m 132 #[.val (.int x0), .val (.int x1), .val (.int x2), .val (.int x3), .val (.int x4), .val (.ref b1), .val (.ref b20), .val (.int (0 : Int32)), .val (.int (0 : Int32)), .val (.ref b44), .val (.ref r_71)] [(.int (0 : Int32)), (.int (0 : Int32))])) (fun t k => XS.isub X83.here hx rfl (hb hby at_131) rfl k) ?_
      refine own_stepW (st' := T83.setTop (mkF m 137 #[.val (.int x0), .val (.int x1), .val (.int x2), .val (.int x3), .val (.int x4), .val (.ref b1), .val (.ref b20), .val (.int (0 : Int32)), .val (.int (0 : Int32)), .val (.ref b44), .val (.ref r_71)] [])) (fun t k => XS.icmpYes X83.here hx rfl (pc0 := 132) (pc' := 137) rfl (hb hby at_132) rfl (teq (by decide)).1 (by decide) (by decide) k) ?_
      refine own_stepW (st' := T83.setTop (mkF m 139 #[.val (.int x0), .val (.int x1), .val (.int x2), .val (.int x3), .val (.int x4), .val (.ref b1), .val (.ref b20), .val (.int (0 : Int32)), .val (.int (0 : Int32)), .val (.ref b44), .val (.ref r_71)] [(.ref r_71)])) (fun t k => XS.aload X83.here hx rfl (hb hby at_137) rfl rfl k) ?_
      refine own_stepW (st' := T83.setTop (mkF m 141 #[.val (.int x0), .val (.int x1), .val (.int x2), .val (.int x3), .val (.int x4), .val (.ref b1), .val (.ref b20), .val (.int (0 : Int32)), .val (.int (0 : Int32)), .val (.ref b44), .val (.ref r_71)] [(.ref b1), (.ref r_71)])) (fun t k => XS.aload X83.here hx rfl (hb hby at_139) rfl rfl k) ?_
      refine own_stepW (st' := T83.setTop (mkF m 143 #[.val (.int x0), .val (.int x1), .val (.int x2), .val (.int x3), .val (.int x4), .val (.ref b1), .val (.ref b20), .val (.int (0 : Int32)), .val (.int (0 : Int32)), .val (.ref b44), .val (.ref r_71)] [(.int (0 : Int32)), (.ref b1), (.ref r_71)])) (fun t k => XS.iload X83.here hx rfl (hb hby at_141) rfl k) ?_
      refine own_stepW (st' := T83.setTop (mkF m 145 #[.val (.int x0), .val (.int x1), .val (.int x2), .val (.int x3), .val (.int x4), .val (.ref b1), .val (.ref b20), .val (.int (0 : Int32)), .val (.int (0 : Int32)), .val (.ref b44), .val (.ref r_71)] [(.int (0 : Int32)), (.int (0 : Int32)), (.ref b1), (.ref r_71)])) (fun t k => XS.iload X83.here hx rfl (hb hby at_143) rfl k) ?_
      refine own_stepW (st' := T83.setTop (mkF m 146 #[.val (.int x0), .val (.int x1), .val (.int x2), .val (.int x3), .val (.int x4), .val (.ref b1), .val (.ref b20), .val (.int (0 : Int32)), .val (.int (0 : Int32)), .val (.ref b44), .val (.ref r_71)] [(.int (0 : Int32)), (.int (0 : Int32)), (.int (0 : Int32)), (.ref b1), (.ref r_71)])) (fun t k => XS.iconst X83.here hx rfl (hb hby at_145) k) ?_
      obtain ⟨_, _, ⟨T84, L84, k84, n84⟩, -, X84, ⟨Lc84, hQ84, l84, y84, z84⟩, st84⟩ := Jvm.LawKit.callS X83 hx (y := (⟨"com/example/lookahead/lookahead/runtime/TokenTextPinLaw", "charOk", "(Ljava/lang/String;[CIII)Z"⟩ : MethodName)) hown (mvT hZ (own_h hw 94 rfl)) (mvT hZ (own_h hw 95 rfl)) (mvT hZ (own_h hw 96 rfl)) (mvT hZ (own_h hw 97 rfl)) (by decide) (backOf (W := 0) (rmK1 l Z a0 hw [] r_71 b1 (0 : Int32) (0 : Int32) (0 : Int32) h71 n0 Z82 (by decide)) hZ (own_h hw 97 rfl) (own_h hw 96 rfl) (by decide) (by decide)) (g := (mkF m 146 #[.val (.int x0), .val (.int x1), .val (.int x2), .val (.int x3), .val (.int x4), .val (.ref b1), .val (.ref b20), .val (.int (0 : Int32)), .val (.int (0 : Int32)), .val (.ref b44), .val (.ref r_71)] [(.int (0 : Int32)), (.int (0 : Int32)), (.int (0 : Int32)), (.ref b1), (.ref r_71)])) rfl (by rw [hml]; rfl) (argsL := [(.ref r_71), (.ref b1), (.int (0 : Int32)), (.int (0 : Int32)), (.int (0 : Int32))]) (rest := []) (lenOf pd_15 rfl) rfl (by show 2 * 0 + _ ≤ _; exact Nat.le_of_eq rfl) (hb hby at_146) (fun _ _ => ⟨rfl, e83, (by decide : 6 + 0 ≤ _), (by decide : 22 + 0 ≤ _)⟩)
      dsimp only [Pt.U, Pt.locs, Pt.cells, Pt.slots] at X84 l84 y84 z84 st84 hQ84
      subst y84 z84
      obtain ⟨rfl, N84q, e84⟩ := hQ84
      have N84 := Fr.app N83 N84q
      rw [← l84] at N84
      clear l84
      refine own_stepW (st' := T84.setTop (mkF m 149 #[.val (.int x0), .val (.int x1), .val (.int x2), .val (.int x3), .val (.int x4), .val (.ref b1), .val (.ref b20), .val (.int (0 : Int32)), .val (.int (0 : Int32)), .val (.ref b44), .val (.ref r_71)] [(.int (1 : Int32))])) st84 ?_
      refine own_stepW (st' := T84.setTop (mkF m 152 #[.val (.int x0), .val (.int x1), .val (.int x2), .val (.int x3), .val (.int x4), .val (.ref b1), .val (.ref b20), .val (.int (0 : Int32)), .val (.int (0 : Int32)), .val (.ref b44), .val (.ref r_71)] [])) (fun t k => XS.ifNo X84.here hx rfl (hb hby at_149) rfl ((if0 _ _).trans (feq (by decide)).1) k) ?_
      refine own_stepW (st' := T84.setTop (mkF m 154 #[.val (.int x0), .val (.int x1), .val (.int x2), .val (.int x3), .val (.int x4), .val (.ref b1), .val (.ref b20), .val (.int (0 : Int32)), .val (.int (0 : Int32)), .val (.ref b44), .val (.ref r_71)] [(.ref r_71)])) (fun t k => XS.aload X84.here hx rfl (hb hby at_152) rfl rfl k) ?_
      refine own_stepW (st' := T84.setTop (mkF m 156 #[.val (.int x0), .val (.int x1), .val (.int x2), .val (.int x3), .val (.int x4), .val (.ref b1), .val (.ref b20), .val (.int (0 : Int32)), .val (.int (0 : Int32)), .val (.ref b44), .val (.ref r_71)] [(.ref b1), (.ref r_71)])) (fun t k => XS.aload X84.here hx rfl (hb hby at_154) rfl rfl k) ?_
      refine own_stepW (st' := T84.setTop (mkF m 158 #[.val (.int x0), .val (.int x1), .val (.int x2), .val (.int x3), .val (.int x4), .val (.ref b1), .val (.ref b20), .val (.int (0 : Int32)), .val (.int (0 : Int32)), .val (.ref b44), .val (.ref r_71)] [(.int (0 : Int32)), (.ref b1), (.ref r_71)])) (fun t k => XS.iload X84.here hx rfl (hb hby at_156) rfl k) ?_
      refine own_stepW (st' := T84.setTop (mkF m 160 #[.val (.int x0), .val (.int x1), .val (.int x2), .val (.int x3), .val (.int x4), .val (.ref b1), .val (.ref b20), .val (.int (0 : Int32)), .val (.int (0 : Int32)), .val (.ref b44), .val (.ref r_71)] [(.int (0 : Int32)), (.int (0 : Int32)), (.ref b1), (.ref r_71)])) (fun t k => XS.iload X84.here hx rfl (hb hby at_158) rfl k) ?_
      refine own_stepW (st' := T84.setTop (mkF m 161 #[.val (.int x0), .val (.int x1), .val (.int x2), .val (.int x3), .val (.int x4), .val (.ref b1), .val (.ref b20), .val (.int (0 : Int32)), .val (.int (0 : Int32)), .val (.ref b44), .val (.ref r_71)] [(.int (1 : Int32)), (.int (0 : Int32)), (.int (0 : Int32)), (.ref b1), (.ref r_71)])) (fun t k => XS.iconst X84.here hx rfl (hb hby at_160) k) ?_
      obtain ⟨_, _, ⟨T85, L85, k85, n85⟩, -, X85, ⟨Lc85, hQ85, l85, y85, z85⟩, st85⟩ := Jvm.LawKit.callS X84 hx (y := (⟨"com/example/lookahead/lookahead/runtime/TokenTextPinLaw", "charOk", "(Ljava/lang/String;[CIII)Z"⟩ : MethodName)) hown (mvT hZ (own_h hw 94 rfl)) (mvT hZ (own_h hw 95 rfl)) (mvT hZ (own_h hw 96 rfl)) (mvT hZ (own_h hw 97 rfl)) (by decide) (backOf (W := 0) (rmK1 l Z a0 hw [] r_71 b1 (0 : Int32) (0 : Int32) (1 : Int32) h71 n0 Z82 (by decide)) hZ (own_h hw 97 rfl) (own_h hw 96 rfl) (by decide) (by decide)) (g := (mkF m 161 #[.val (.int x0), .val (.int x1), .val (.int x2), .val (.int x3), .val (.int x4), .val (.ref b1), .val (.ref b20), .val (.int (0 : Int32)), .val (.int (0 : Int32)), .val (.ref b44), .val (.ref r_71)] [(.int (1 : Int32)), (.int (0 : Int32)), (.int (0 : Int32)), (.ref b1), (.ref r_71)])) rfl (by rw [hml]; rfl) (argsL := [(.ref r_71), (.ref b1), (.int (0 : Int32)), (.int (0 : Int32)), (.int (1 : Int32))]) (rest := []) (lenOf pd_15 rfl) rfl (by show 2 * 0 + _ ≤ _; exact Nat.le_of_eq rfl) (hb hby at_161) (fun _ _ => ⟨rfl, e84, (by decide : 6 + 0 ≤ _), (by decide : 22 + 0 ≤ _)⟩)
      dsimp only [Pt.U, Pt.locs, Pt.cells, Pt.slots] at X85 l85 y85 z85 st85 hQ85
      subst y85 z85
      obtain ⟨rfl, N85q, e85⟩ := hQ85
      have N85 := Fr.app N84 N85q
      rw [← l85] at N85
      clear l85
      refine own_stepW (st' := T85.setTop (mkF m 164 #[.val (.int x0), .val (.int x1), .val (.int x2), .val (.int x3), .val (.int x4), .val (.ref b1), .val (.ref b20), .val (.int (0 : Int32)), .val (.int (0 : Int32)), .val (.ref b44), .val (.ref r_71)] [(.int (1 : Int32))])) st85 ?_
      refine own_stepW (st' := T85.setTop (mkF m 167 #[.val (.int x0), .val (.int x1), .val (.int x2), .val (.int x3), .val (.int x4), .val (.ref b1), .val (.ref b20), .val (.int (0 : Int32)), .val (.int (0 : Int32)), .val (.ref b44), .val (.ref r_71)] [])) (fun t k => XS.ifNo X85.here hx rfl (hb hby at_164) rfl ((if0 _ _).trans (feq (by decide)).1) k) ?_
      refine own_stepW (st' := T85.setTop (mkF m 169 #[.val (.int x0), .val (.int x1), .val (.int x2), .val (.int x3), .val (.int x4), .val (.ref b1), .val (.ref b20), .val (.int (0 : Int32)), .val (.int (0 : Int32)), .val (.ref b44), .val (.ref r_71)] [(.ref r_71)])) (fun t k => XS.aload X85.here hx rfl (hb hby at_167) rfl rfl k) ?_
      refine own_stepW (st' := T85.setTop (mkF m 171 #[.val (.int x0), .val (.int x1), .val (.int x2), .val (.int x3), .val (.int x4), .val (.ref b1), .val (.ref b20), .val (.int (0 : Int32)), .val (.int (0 : Int32)), .val (.ref b44), .val (.ref r_71)] [(.ref b1), (.ref r_71)])) (fun t k => XS.aload X85.here hx rfl (hb hby at_169) rfl rfl k) ?_
      refine own_stepW (st' := T85.setTop (mkF m 173 #[.val (.int x0), .val (.int x1), .val (.int x2), .val (.int x3), .val (.int x4), .val (.ref b1), .val (.ref b20), .val (.int (0 : Int32)), .val (.int (0 : Int32)), .val (.ref b44), .val (.ref r_71)] [(.int (0 : Int32)), (.ref b1), (.ref r_71)])) (fun t k => XS.iload X85.here hx rfl (hb hby at_171) rfl k) ?_
      refine own_stepW (st' := T85.setTop (mkF m 175 #[.val (.int x0), .val (.int x1), .val (.int x2), .val (.int x3), .val (.int x4), .val (.ref b1), .val (.ref b20), .val (.int (0 : Int32)), .val (.int (0 : Int32)), .val (.ref b44), .val (.ref r_71)] [(.int (0 : Int32)), (.int (0 : Int32)), (.ref b1), (.ref r_71)])) (fun t k => XS.iload X85.here hx rfl (hb hby at_173) rfl k) ?_
      refine own_stepW (st' := T85.setTop (mkF m 176 #[.val (.int x0), .val (.int x1), .val (.int x2), .val (.int x3), .val (.int x4), .val (.ref b1), .val (.ref b20), .val (.int (0 : Int32)), .val (.int (0 : Int32)), .val (.ref b44), .val (.ref r_71)] [(.int (2 : Int32)), (.int (0 : Int32)), (.int (0 : Int32)), (.ref b1), (.ref r_71)])) (fun t k => XS.iconst X85.here hx rfl (hb hby at_175) k) ?_
      obtain ⟨_, _, ⟨T86, L86, k86, n86⟩, -, X86, ⟨Lc86, hQ86, l86, y86, z86⟩, st86⟩ := Jvm.LawKit.callS X85 hx (y := (⟨"com/example/lookahead/lookahead/runtime/TokenTextPinLaw", "charOk", "(Ljava/lang/String;[CIII)Z"⟩ : MethodName)) hown (mvT hZ (own_h hw 94 rfl)) (mvT hZ (own_h hw 95 rfl)) (mvT hZ (own_h hw 96 rfl)) (mvT hZ (own_h hw 97 rfl)) (by decide) (backOf (W := 0) (rmK1 l Z a0 hw [] r_71 b1 (0 : Int32) (0 : Int32) (2 : Int32) h71 n0 Z82 (by decide)) hZ (own_h hw 97 rfl) (own_h hw 96 rfl) (by decide) (by decide)) (g := (mkF m 176 #[.val (.int x0), .val (.int x1), .val (.int x2), .val (.int x3), .val (.int x4), .val (.ref b1), .val (.ref b20), .val (.int (0 : Int32)), .val (.int (0 : Int32)), .val (.ref b44), .val (.ref r_71)] [(.int (2 : Int32)), (.int (0 : Int32)), (.int (0 : Int32)), (.ref b1), (.ref r_71)])) rfl (by rw [hml]; rfl) (argsL := [(.ref r_71), (.ref b1), (.int (0 : Int32)), (.int (0 : Int32)), (.int (2 : Int32))]) (rest := []) (lenOf pd_15 rfl) rfl (by show 2 * 0 + _ ≤ _; exact Nat.le_of_eq rfl) (hb hby at_176) (fun _ _ => ⟨rfl, e85, (by decide : 6 + 0 ≤ _), (by decide : 22 + 0 ≤ _)⟩)
      dsimp only [Pt.U, Pt.locs, Pt.cells, Pt.slots] at X86 l86 y86 z86 st86 hQ86
      subst y86 z86
      obtain ⟨rfl, N86q, e86⟩ := hQ86
      have N86 := Fr.app N85 N86q
      rw [← l86] at N86
      clear l86
      refine own_stepW (st' := T86.setTop (mkF m 179 #[.val (.int x0), .val (.int x1), .val (.int x2), .val (.int x3), .val (.int x4), .val (.ref b1), .val (.ref b20), .val (.int (0 : Int32)), .val (.int (0 : Int32)), .val (.ref b44), .val (.ref r_71)] [(.int (1 : Int32))])) st86 ?_
      refine own_stepW (st' := T86.setTop (mkF m 182 #[.val (.int x0), .val (.int x1), .val (.int x2), .val (.int x3), .val (.int x4), .val (.ref b1), .val (.ref b20), .val (.int (0 : Int32)), .val (.int (0 : Int32)), .val (.ref b44), .val (.ref r_71)] [])) (fun t k => XS.ifNo X86.here hx rfl (hb hby at_179) rfl ((if0 _ _).trans (feq (by decide)).1) k) ?_
      refine own_stepW (st' := T86.setTop (mkF m 184 #[.val (.int x0), .val (.int x1), .val (.int x2), .val (.int x3), .val (.int x4), .val (.ref b1), .val (.ref b20), .val (.int (0 : Int32)), .val (.int (0 : Int32)), .val (.ref b44), .val (.ref r_71)] [(.ref r_71)])) (fun t k => XS.aload X86.here hx rfl (hb hby at_182) rfl rfl k) ?_
      refine own_stepW (st' := T86.setTop (mkF m 186 #[.val (.int x0), .val (.int x1), .val (.int x2), .val (.int x3), .val (.int x4), .val (.ref b1), .val (.ref b20), .val (.int (0 : Int32)), .val (.int (0 : Int32)), .val (.ref b44), .val (.ref r_71)] [(.ref b1), (.ref r_71)])) (fun t k => XS.aload X86.here hx rfl (hb hby at_184) rfl rfl k) ?_
      refine own_stepW (st' := T86.setTop (mkF m 188 #[.val (.int x0), .val (.int x1), .val (.int x2), .val (.int x3), .val (.int x4), .val (.ref b1), .val (.ref b20), .val (.int (0 : Int32)), .val (.int (0 : Int32)), .val (.ref b44), .val (.ref r_71)] [(.int (0 : Int32)), (.ref b1), (.ref r_71)])) (fun t k => XS.iload X86.here hx rfl (hb hby at_186) rfl k) ?_
      refine own_stepW (st' := T86.setTop (mkF m 190 #[.val (.int x0), .val (.int x1), .val (.int x2), .val (.int x3), .val (.int x4), .val (.ref b1), .val (.ref b20), .val (.int (0 : Int32)), .val (.int (0 : Int32)), .val (.ref b44), .val (.ref r_71)] [(.int (0 : Int32)), (.int (0 : Int32)), (.ref b1), (.ref r_71)])) (fun t k => XS.iload X86.here hx rfl (hb hby at_188) rfl k) ?_
      refine own_stepW (st' := T86.setTop (mkF m 191 #[.val (.int x0), .val (.int x1), .val (.int x2), .val (.int x3), .val (.int x4), .val (.ref b1), .val (.ref b20), .val (.int (0 : Int32)), .val (.int (0 : Int32)), .val (.ref b44), .val (.ref r_71)] [(.int (3 : Int32)), (.int (0 : Int32)), (.int (0 : Int32)), (.ref b1), (.ref r_71)])) (fun t k => XS.iconst X86.here hx rfl (hb hby at_190) k) ?_
      obtain ⟨_, _, ⟨T87, L87, k87, n87⟩, -, X87, ⟨Lc87, hQ87, l87, y87, z87⟩, st87⟩ := Jvm.LawKit.callS X86 hx (y := (⟨"com/example/lookahead/lookahead/runtime/TokenTextPinLaw", "charOk", "(Ljava/lang/String;[CIII)Z"⟩ : MethodName)) hown (mvT hZ (own_h hw 94 rfl)) (mvT hZ (own_h hw 95 rfl)) (mvT hZ (own_h hw 96 rfl)) (mvT hZ (own_h hw 97 rfl)) (by decide) (backOf (W := 0) (rmK1 l Z a0 hw [] r_71 b1 (0 : Int32) (0 : Int32) (3 : Int32) h71 n0 Z82 (by decide)) hZ (own_h hw 97 rfl) (own_h hw 96 rfl) (by decide) (by decide)) (g := (mkF m 191 #[.val (.int x0), .val (.int x1), .val (.int x2), .val (.int x3), .val (.int x4), .val (.ref b1), .val (.ref b20), .val (.int (0 : Int32)), .val (.int (0 : Int32)), .val (.ref b44), .val (.ref r_71)] [(.int (3 : Int32)), (.int (0 : Int32)), (.int (0 : Int32)), (.ref b1), (.ref r_71)])) rfl (by rw [hml]; rfl) (argsL := [(.ref r_71), (.ref b1), (.int (0 : Int32)), (.int (0 : Int32)), (.int (3 : Int32))]) (rest := []) (lenOf pd_15 rfl) rfl (by show 2 * 0 + _ ≤ _; exact Nat.le_of_eq rfl) (hb hby at_191) (fun _ _ => ⟨rfl, e86, (by decide : 6 + 0 ≤ _), (by decide : 22 + 0 ≤ _)⟩)
      dsimp only [Pt.U, Pt.locs, Pt.cells, Pt.slots] at X87 l87 y87 z87 st87 hQ87
      subst y87 z87
      obtain ⟨rfl, N87q, e87⟩ := hQ87
      have N87 := Fr.app N86 N87q
      rw [← l87] at N87
      clear l87
      refine own_stepW (st' := T87.setTop (mkF m 194 #[.val (.int x0), .val (.int x1), .val (.int x2), .val (.int x3), .val (.int x4), .val (.ref b1), .val (.ref b20), .val (.int (0 : Int32)), .val (.int (0 : Int32)), .val (.ref b44), .val (.ref r_71)] [(.int (1 : Int32))])) st87 ?_
      refine own_stepW (st' := T87.setTop (mkF m 197 #[.val (.int x0), .val (.int x1), .val (.int x2), .val (.int x3), .val (.int x4), .val (.ref b1), .val (.ref b20), .val (.int (0 : Int32)), .val (.int (0 : Int32)), .val (.ref b44), .val (.ref r_71)] [])) (fun t k => XS.ifNo X87.here hx rfl (hb hby at_194) rfl ((if0 _ _).trans (feq (by decide)).1) k) ?_
      refine own_stepW (st' := T87.setTop (mkF m 198 #[.val (.int x0), .val (.int x1), .val (.int x2), .val (.int x3), .val (.int x4), .val (.ref b1), .val (.ref b20), .val (.int (0 : Int32)), .val (.int (0 : Int32)), .val (.ref b44), .val (.ref r_71)] [(.int (1 : Int32))])) (fun t k => XS.iconst X87.here hx rfl (hb hby at_197) k) ?_
      refine own_stepW (st' := T87.setTop (mkF m 202 #[.val (.int x0), .val (.int x1), .val (.int x2), .val (.int x3), .val (.int x4), .val (.ref b1), .val (.ref b20), .val (.int (0 : Int32)), .val (.int (0 : Int32)), .val (.ref b44), .val (.ref r_71)] [(.int (1 : Int32))])) (fun t k => XS.goto X87.here hx rfl (pc0 := 198) (pc' := 202) rfl (hb hby at_198) (by decide) (by decide) k) ?_
      refine own_retW X87 hS71 (Nat.le_of_eq (congrArg Array.size (e71.trans e87.symm))) Bd.notSynchronized (some (.int (1 : Int32))) (fun h => by rw [Bd.returns] at h; cases h) (fun fs hr => retN X87 hx (t := .boolean) Bd.returns (by simp) (hb hby at_202) hr) ?_ (by decide) (by decide)
      rw [e87]
      exact ⟨rfl, N87⟩
    · rw [hn40]
      refine own_stepW (st' := T27.setTop (mkF m 85 #[.val (.int x0), .val (.int x1), .val (.int x2), .val (.int x3), .val (.int x4), .val (.ref b1), .val (.ref b20), .val (.int (0 : Int32)), .unset, .unset, .unset] [(.int (1 : Int32))])) (fun t k => XS.iadd X27.here hx rfl (hb hby at_84) rfl k) ?_
      refine own_stepW (st' := T27.setTop (mkF m 87 #[.val (.int x0), .val (.int x1), .val (.int x2), .val (.int x3), .val (.int x4), .val (.ref b1), .val (.ref b20), .val (.int (0 : Int32)), .val (.int (1 : Int32)), .unset, .unset] [])) (fun t k => XS.istore X27.here hx rfl (hb hby at_85) rfl (l' := #[.val (.int x0), .val (.int x1), .val (.int x2), .val (.int x3), .val (.int x4), .val (.ref b1), .val (.ref b20), .val (.int (0 : Int32)), .val (.int (1 : Int32)), .unset, .unset]) rfl k) ?_
      obtain ⟨T88, h88, X88, e88, E88, A88, D88, -, st88⟩ := newO X27 hx hZ hown (own_h hw 31 rfl) (own_h hw 32 rfl) (own_h hw 33 rfl) e27 (g := (mkF m 87 #[.val (.int x0), .val (.int x1), .val (.int x2), .val (.int x3), .val (.int x4), .val (.ref b1), .val (.ref b20), .val (.int (0 : Int32)), .val (.int (1 : Int32)), .unset, .unset] [])) rfl (hb hby at_87) (by decide) (by decide)
      obtain ⟨b88, g88⟩ : ∃ z, z = h27.size := ⟨_, rfl⟩
      rw [← g88] at A88 D88 st88
      have ne89 : b1 ≠ b88 := Nat.ne_of_lt (Nat.lt_of_lt_of_le f30.lt (Nat.le_of_eq g88.symm))
      have ne90 : b20 ≠ b88 := Nat.ne_of_lt (Nat.lt_of_lt_of_le f31.lt (Nat.le_of_eq g88.symm))
      have ne91 : b_27 ≠ b88 := Nat.ne_of_lt (Nat.lt_of_lt_of_le pq27_3.lt (Nat.le_of_eq g88.symm))
      have g_b88 : n0 ≤ b88 := Nat.le_trans Z33 (Nat.le_of_eq g88.symm)
      have f92 := f30.ext E88
      have f93 := f31.ext E88
      have f94 := pq27_1.ext E88
      have f95 := pq27_2.ext E88
      have f96 := pq27_3.ext E88
      have O97 := O32.ext E88
      have Z98 : n0 ≤ h88.size := Nat.le_trans Z33 E88.1
      have f99 : Fld Z h88 b88 "com/example/lookahead/lookahead/runtime/Token" "terminal" "Lcom/example/lookahead/lookahead/core/Terminal;" .null := D88 (Or.inr (own_h hw 42 rfl)) (ty := (.object "com/example/lookahead/lookahead/core/Terminal")) (by decide)
      have f100 : Fld Z h88 b88 "com/example/lookahead/lookahead/runtime/Token" "input" "Ljava/lang/String;" .null := D88 (Or.inr (own_h hw 44 rfl)) (ty := (.object "java/lang/String")) (by decide)
      have f101 : Fld Z h88 b88 "com/example/lookahead/lookahead/runtime/Token" "start" "I" (.int (0 : Int32)) := D88 (Or.inr (own_h hw 46 rfl)) (ty := .int) (by decide)
      have f102 : Fld Z h88 b88 "com/example/lookahead/lookahead/runtime/Token" "end" "I" (.int (0 : Int32)) := D88 (Or.inr (own_h hw 48 rfl)) (ty := .int) (by decide)
      have f103 : Fld Z h88 b88 "com/example/lookahead/lookahead/runtime/Token" "line" "I" (.int (0 : Int32)) := D88 (Or.inr (own_h hw 50 rfl)) (ty := .int) (by decide)
      have f104 : Fld Z h88 b88 "com/example/lookahead/lookahead/runtime/Token" "column" "I" (.int (0 : Int32)) := D88 (Or.inr (own_h hw 52 rfl)) (ty := .int) (by decide)
      refine own_stepW (st' := T88.setTop (mkF m 90 #[.val (.int x0), .val (.int x1), .val (.int x2), .val (.int x3), .val (.int x4), .val (.ref b1), .val (.ref b20), .val (.int (0 : Int32)), .val (.int (1 : Int32)), .unset, .unset] [(.ref b88)])) st88 ?_
      refine own_stepW (st' := T88.setTop (mkF m 91 #[.val (.int x0), .val (.int x1), .val (.int x2), .val (.int x3), .val (.int x4), .val (.ref b1), .val (.ref b20), .val (.int (0 : Int32)), .val (.int (1 : Int32)), .unset, .unset] [(.ref b88), (.ref b88)])) (fun t k => XS.dup X88.here hx rfl (hb hby at_90) rfl rfl k) ?_
      obtain ⟨T105, X105, e105, st105⟩ := getS2 X88 hx hZ hown (host := "") (Or.inl (own_h hw 34 rfl)) Via.refl e88 (p_4.ext O97.2) (g := (mkF m 91 #[.val (.int x0), .val (.int x1), .val (.int x2), .val (.int x3), .val (.int x4), .val (.ref b1), .val (.ref b20), .val (.int (0 : Int32)), .val (.int (1 : Int32)), .unset, .unset] [(.ref b88), (.ref b88)])) rfl (hb hby at_91)
      refine own_stepW (st' := T105.setTop (mkF m 94 #[.val (.int x0), .val (.int x1), .val (.int x2), .val (.int x3), .val (.int x4), .val (.ref b1), .val (.ref b20), .val (.int (0 : Int32)), .val (.int (1 : Int32)), .unset, .unset] [(.ref tm), (.ref b88), (.ref b88)])) st105 ?_
      refine own_stepW (st' := T105.setTop (mkF m 96 #[.val (.int x0), .val (.int x1), .val (.int x2), .val (.int x3), .val (.int x4), .val (.ref b1), .val (.ref b20), .val (.int (0 : Int32)), .val (.int (1 : Int32)), .unset, .unset] [(.ref b20), (.ref tm), (.ref b88), (.ref b88)])) (fun t k => XS.aload X105.here hx rfl (hb hby at_94) rfl rfl k) ?_
      refine own_stepW (st' := T105.setTop (mkF m 98 #[.val (.int x0), .val (.int x1), .val (.int x2), .val (.int x3), .val (.int x4), .val (.ref b1), .val (.ref b20), .val (.int (0 : Int32)), .val (.int (1 : Int32)), .unset, .unset] [(.int (0 : Int32)), (.ref b20), (.ref tm), (.ref b88), (.ref b88)])) (fun t k => XS.iload X105.here hx rfl (hb hby at_96) rfl k) ?_
      refine own_stepW (st' := T105.setTop (mkF m 100 #[.val (.int x0), .val (.int x1), .val (.int x2), .val (.int x3), .val (.int x4), .val (.ref b1), .val (.ref b20), .val (.int (0 : Int32)), .val (.int (1 : Int32)), .unset, .unset] [(.int (1 : Int32)), (.int (0 : Int32)), (.ref b20), (.ref tm), (.ref b88), (.ref b88)])) (fun t k => XS.iload X105.here hx rfl (hb hby at_98) rfl k) ?_
      refine own_stepW (st' := T105.setTop (mkF m 101 #[.val (.int x0), .val (.int x1), .val (.int x2), .val (.int x3), .val (.int x4), .val (.ref b1), .val (.ref b20), .val (.int (0 : Int32)), .val (.int (1 : Int32)), .unset, .unset] [(.int x3), (.int (1 : Int32)), (.int (0 : Int32)), (.ref b20), (.ref tm), (.ref b88), (.ref b88)])) (fun t k => XS.iloadN X105.here hx rfl (hb hby at_100) rfl k) ?_
      refine own_stepW (st' := T105.setTop (mkF m 103 #[.val (.int x0), .val (.int x1), .val (.int x2), .val (.int x3), .val (.int x4), .val (.ref b1), .val (.ref b20), .val (.int (0 : Int32)), .val (.int (1 : Int32)), .unset, .unset] [(.int x4), (.int x3), (.int (1 : Int32)), (.int (0 : Int32)), (.ref b20), (.ref tm), (.ref b88), (.ref b88)])) (fun t k => XS.iload X105.here hx rfl (hb hby at_101) rfl k) ?_
      obtain ⟨_, _, ⟨T106, L106, k106, n106⟩, -, X106, ⟨Lc106, hQ106, l106, y106, z106⟩, st106⟩ := X105.specialBack hx (y := (⟨"com/example/lookahead/lookahead/runtime/Token", "<init>", "(Lcom/example/lookahead/lookahead/core/Terminal;Ljava/lang/String;IIII)V"⟩ : MethodName)) rfl hown (mvT hZ (own_h hw 37 rfl)) (mvT hZ (own_h hw 38 rfl)) (mvT hZ (own_h hw 39 rfl)) (by decide) (backOf (W := 1) (rm7 l Z a0 hw [] b88 tm b20 (0 : Int32) (1 : Int32) x3 x4 h88 n0 Z98 f99 f100 f101 f102 f103 f104 A88 g_b88) hZ (own_h hw 39 rfl) (own_h hw 33 rfl) (by decide) (by decide)) (g := (mkF m 103 #[.val (.int x0), .val (.int x1), .val (.int x2), .val (.int x3), .val (.int x4), .val (.ref b1), .val (.ref b20), .val (.int (0 : Int32)), .val (.int (1 : Int32)), .unset, .unset] [(.int x4), (.int x3), (.int (1 : Int32)), (.int (0 : Int32)), (.ref b20), (.ref tm), (.ref b88), (.ref b88)])) rfl (by rw [hml]; rfl) (Steps.refl _) (a := b88) (argsL := [(.ref tm), (.ref b20), (.int (0 : Int32)), (.int (1 : Int32)), (.int x3), (.int x4)]) (rest := [(.ref b88)]) (lenOf pd_6 rfl) rfl (by show 2 * 0 + _ ≤ _; exact Nat.le_of_eq rfl) (hb hby at_103) (fun _ _ => ⟨rfl, e105, (by decide : 4 + 0 ≤ _), (by decide : 18 + 0 ≤ _)⟩)
      dsimp only [Pt.U, Pt.locs, Pt.cells, Pt.slots] at X106 l106 y106 z106 st106 hQ106
      subst y106 z106
      obtain ⟨rfl, N106q, K106, pq106_0, pq106_1, pq106_2⟩ := hQ106
      have N106 := Fr.app N27 N106q
      rw [← l106] at N106
      clear l106
      obtain ⟨h106, e106⟩ : ∃ z, T106.heap = z := ⟨_, rfl⟩
      rw [e106] at K106 pq106_0 pq106_1 pq106_2
      have f107 := f92.keep K106 (ninS ne89 nin0)
      have f108 := f93.keep K106
      have f109 := f94.keep K106 (ninS ne90 nin0)
      have f110 := f95.keep K106 (ninS ne90 nin0)
      have f111 := f96.keep K106 (ninS ne91 nin0)
      have f112 := A88.keep K106
      have O113 := O97.keep K106 (allS g_b88 all0)
      have Z114 : n0 ≤ h106.size := Nat.le_trans Z98 K106.1
      refine own_stepW (st' := T106.setTop (mkF m 106 #[.val (.int x0), .val (.int x1), .val (.int x2), .val (.int x3), .val (.int x4), .val (.ref b1), .val (.ref b20), .val (.int (0 : Int32)), .val (.int (1 : Int32)), .unset, .unset] [(.ref b88)])) (fun t k => st106.trans k) ?_
      refine own_stepW (st' := T106.setTop (mkF m 108 #[.val (.int x0), .val (.int x1), .val (.int x2), .val (.int x3), .val (.int x4), .val (.ref b1), .val (.ref b20), .val (.int (0 : Int32)), .val (.int (1 : Int32)), .val (.ref b88), .unset] [])) (fun t k => XS.astore X106.here hx rfl (hb hby at_106) rfl rfl (l' := #[.val (.int x0), .val (.int x1), .val (.int x2), .val (.int x3), .val (.int x4), .val (.ref b1), .val (.ref b20), .val (.int (0 : Int32)), .val (.int (1 : Int32)), .val (.ref b88), .unset]) rfl k) ?_
      refine own_stepW (st' := T106.setTop (mkF m 110 #[.val (.int x0), .val (.int x1), .val (.int x2), .val (.int x3), .val (.int x4), .val (.ref b1), .val (.ref b20), .val (.int (0 : Int32)), .val (.int (1 : Int32)), .val (.ref b88), .unset] [(.ref b88)])) (fun t k => XS.aload X106.here hx rfl (hb hby at_108) rfl rfl k) ?_
      obtain ⟨cq115, kq115, q115a, q115b, q115c⟩ := isOf hZ e106 f112
      obtain ⟨_, _, ⟨T115, L115, k115, n115⟩, -, X115, ⟨Lc115, hQ115, l115, y115, z115⟩, st115⟩ := X106.virtualBack hx (y := (⟨"com/example/lookahead/lookahead/runtime/Token", "text", "()Ljava/lang/String;"⟩ : MethodName)) (z := (⟨"com/example/lookahead/lookahead/runtime/Token", "text", "()Ljava/lang/String;"⟩ : MethodName)) hown (mvT hZ (own_h hw 53 rfl)) (mvT hZ (own_h hw 54 rfl)) (notFace_of_selects (args := #[]) (mvT hZ (own_h hw 56 rfl))) (mvT hZ (own_h hw 56 rfl)) (mvT hZ (own_h hw 55 rfl)) (by decide) (backOf (W := 0) (rmTS l Z a0 hw [] b88 b20 (0 : Int32) (1 : Int32) b_27 kb_27 [(.int ((q0.toInt8.toInt32).toInt8.toInt32)), (.int ((q1.toInt8.toInt32).toInt8.toInt32)), (.int ((q2.toInt8.toInt32).toInt8.toInt32)), (.int ((q3.toInt8.toInt32).toInt8.toInt32))] cs fm h106 n0 Z114 O113 pq106_0 pq106_1 pq106_2 f108 f109 f110 f111 p_0 p_1 p_2 p_3 ⟨by decide, by decide, by decide⟩ (by decide)) hZ (own_h hw 57 rfl) (own_h hw 33 rfl) (by decide) (by decide)) q115a q115c (g := (mkF m 110 #[.val (.int x0), .val (.int x1), .val (.int x2), .val (.int x3), .val (.int x4), .val (.ref b1), .val (.ref b20), .val (.int (0 : Int32)), .val (.int (1 : Int32)), .val (.ref b88), .unset] [(.ref b88)])) rfl (by rw [hml]; rfl) (Steps.refl _) (argsL := []) (rest := []) (lenOf pd_7 rfl) rfl (by show 2 * 0 + _ ≤ _; exact Nat.le_of_eq rfl) (hb hby at_110) (fun _ _ => ⟨rfl, e106, (by decide : 4 + 2 ≤ _), (by decide : 18 + 8 ≤ _)⟩)
      dsimp only [Pt.U, Pt.locs, Pt.cells, Pt.slots] at X115 l115 y115 z115 st115 hQ115
      subst y115 z115
      obtain ⟨r_115, b_115, kb_115, vd_115, rfl, N115q, K115, pq115_0, pq115_1, pq115_2, pq115_3, pq115_4, pq115_5, pq115_6, pq115_7⟩ := hQ115
      have N115 := Fr.app N106 N115q
      rw [← l115] at N115
      clear l115
      obtain ⟨h115, e115⟩ : ∃ z, T115.heap = z := ⟨_, rfl⟩
      rw [e115] at K115 pq115_3 pq115_4 pq115_5 pq115_6
      have ne116 : b1 ≠ r_115 := Nat.ne_of_lt (Nat.lt_of_lt_of_le f107.lt pq115_0)
      have ne117 : b20 ≠ r_115 := Nat.ne_of_lt (Nat.lt_of_lt_of_le f108.lt pq115_0)
      have ne118 : b_27 ≠ r_115 := Nat.ne_of_lt (Nat.lt_of_lt_of_le f111.lt pq115_0)
      have ne119 : b88 ≠ r_115 := Nat.ne_of_lt (Nat.lt_of_lt_of_le f112.lt pq115_0)
      have g_r_115 : n0 ≤ r_115 := Nat.le_trans Z114 pq115_0
      have ne120 : b1 ≠ b_115 := Nat.ne_of_lt (Nat.lt_of_lt_of_le f107.lt pq115_1)
      have ne121 : b20 ≠ b_115 := Nat.ne_of_lt (Nat.lt_of_lt_of_le f108.lt pq115_1)
      have ne122 : b_27 ≠ b_115 := Nat.ne_of_lt (Nat.lt_of_lt_of_le f111.lt pq115_1)
      have ne123 : b88 ≠ b_115 := Nat.ne_of_lt (Nat.lt_of_lt_of_le f112.lt pq115_1)
      have g_b_115 : n0 ≤ b_115 := Nat.le_trans Z114 pq115_1
      have f124 := f107.keep K115 nin0
      have f125 := f108.keep K115
      have f126 := f109.keep K115 nin0
      have f127 := f110.keep K115 nin0
      have f128 := f111.keep K115 nin0
      have f129 := f112.keep K115
      have f130 := pq106_0.keep K115 nin0
      have f131 := pq106_1.keep K115 nin0
      have f132 := pq106_2.keep K115 nin0
      have O133 := O113.keep K115 all0
      have Z134 : n0 ≤ h115.size := Nat.le_trans Z114 K115.1
      refine own_stepW (st' := T115.setTop (mkF m 113 #[.val (.int x0), .val (.int x1), .val (.int x2), .val (.int x3), .val (.int x4), .val (.ref b1), .val (.ref b20), .val (.int (0 : Int32)), .val (.int (1 : Int32)), .val (.ref b88), .unset] [(.ref r_115)])) (fun t k => st115.trans k) ?_
      have hlen115 : (((0 : Int32) + ((1 : Int32) - (0 : Int32))) - (0 : Int32)) = (1 : Int32) := by decide
      rw [hlen115] at pq115_6
      refine own_stepW (st' := T115.setTop (mkF m 115 #[.val (.int x0), .val (.int x1), .val (.int x2), .val (.int x3), .val (.int x4), .val (.ref b1), .val (.ref b20), .val (.int (0 : Int32)), .val (.int (1 : Int32)), .val (.ref b88), .val (.ref r_115)] [])) (fun t k => XS.astore X115.here hx rfl (hb hby at_113) rfl rfl (l' := #[.val (.int x0), .val (.int x1), .val (.int x2), .val (.int x3), .val (.int x4), .val (.ref b1), .val (.ref b20), .val (.int (0 : Int32)), .val (.int (1 : Int32)), .val (.ref b88), .val (.ref r_115)]) rfl k) ?_
      refine own_stepW (st' := T115.setTop (mkF m 117 #[.val (.int x0), .val (.int x1), .val (.int x2), .val (.int x3), .val (.int x4), .val (.ref b1), .val (.ref b20), .val (.int (0 : Int32)), .val (.int (1 : Int32)), .val (.ref b88), .val (.ref r_115)] [(.ref r_115)])) (fun t k => XS.aload X115.here hx rfl (hb hby at_115) rfl rfl k) ?_
      refine own_stepW (st' := T115.setTop (mkF m 122 #[.val (.int x0), .val (.int x1), .val (.int x2), .val (.int x3), .val (.int x4), .val (.ref b1), .val (.ref b20), .val (.int (0 : Int32)), .val (.int (1 : Int32)), .val (.ref b88), .val (.ref r_115)] [])) (fun t k => XS.ifnonnullYes X115.here hx rfl (pc0 := 117) (pc' := 122) rfl (hb hby at_117) rfl (by decide) (by decide) k) ?_
      refine own_stepW (st' := T115.setTop (mkF m 124 #[.val (.int x0), .val (.int x1), .val (.int x2), .val (.int x3), .val (.int x4), .val (.ref b1), .val (.ref b20), .val (.int (0 : Int32)), .val (.int (1 : Int32)), .val (.ref b88), .val (.ref r_115)] [(.ref r_115)])) (fun t k => XS.aload X115.here hx rfl (hb hby at_122) rfl rfl k) ?_
      obtain ⟨cq135, kq135, q135a, q135b, q135c⟩ := isOf hZ e115 pq115_3
      obtain ⟨_, _, ⟨T135, L135, k135, n135⟩, -, X135, ⟨Lc135, hQ135, l135, y135, z135⟩, st135⟩ := X115.virtualBack hx (y := (⟨"java/lang/String", "length", "()I"⟩ : MethodName)) (z := (⟨"java/lang/String", "length", "()I"⟩ : MethodName)) hown (mvT hZ (own_h hw 93 rfl)) (mvT hZ (own_h hw 64 rfl)) (notFace_of_selects (args := #[]) (mvT hZ (own_h hw 66 rfl))) (mvT hZ (own_h hw 66 rfl)) (mvT hZ (own_h hw 65 rfl)) (by decide) (backOf (W := 0) (rm10 l Z a0 hw [] r_115 b_115 kb_115 (1 : Int32) vd_115 cs h115 n0 Z134 O133 pq115_3 pq115_4 pq115_5 pq115_6 p_0 p_1) hZ (own_h hw 67 rfl) (own_h hw 3 rfl) (by decide) (by decide)) q135a q135c (g := (mkF m 124 #[.val (.int x0), .val (.int x1), .val (.int x2), .val (.int x3), .val (.int x4), .val (.ref b1), .val (.ref b20), .val (.int (0 : Int32)), .val (.int (1 : Int32)), .val (.ref b88), .val (.ref r_115)] [(.ref r_115)])) rfl (by rw [hml]; rfl) (Steps.refl _) (argsL := []) (rest := []) (lenOf pd_9 rfl) rfl (by show 2 * 0 + _ ≤ _; exact Nat.le_of_eq rfl) (hb hby at_124) (fun _ _ => ⟨rfl, e115, (by decide : 6 + 0 ≤ _), (by decide : 26 + 0 ≤ _)⟩)
      dsimp only [Pt.U, Pt.locs, Pt.cells, Pt.slots] at X135 l135 y135 z135 st135 hQ135
      subst y135 z135
      obtain ⟨rfl, N135q, e135⟩ := hQ135
      have N135 := Fr.app N115 N135q
      rw [← l135] at N135
      clear l135
      refine own_stepW (st' := T135.setTop (mkF m 127 #[.val (.int x0), .val (.int x1), .val (.int x2), .val (.int x3), .val (.int x4), .val (.ref b1), .val (.ref b20), .val (.int (0 : Int32)), .val (.int (1 : Int32)), .val (.ref b88), .val (.ref r_115)] [(.int (1 : Int32))])) (fun t k => st135.trans k) ?_
      refine own_stepW (st' := T135.setTop (mkF m 129 #[.val (.int x0), .val (.int x1), .val (.int x2), .val (.int x3), .val (.int x4), .val (.ref b1), .val (.ref b20), .val (.int (0 : Int32)), .val (.int (1 : Int32)), .val (.ref b88), .val (.ref r_115)] [(.int (1 : Int32)), (.int (1 : Int32))])) (fun t k => XS.iload X135.here hx rfl (hb hby at_127) rfl k) ?_
      refine own_stepW (st' := T135.setTop (mkF m 131 #[.val (.int x0), .val (.int x1), .val (.int x2), .val (.int x3), .val (.int x4), .val (.ref b1), .val (.ref b20), .val (.int (0 : Int32)), .val (.int (1 : Int32)), .val (.ref b88), .val (.ref r_115)] [(.int (0 : Int32)), (.int (1 : Int32)), (.int (1 : Int32))])) (fun t k => XS.iload X135.here hx rfl (hb hby at_129) rfl k) ?_
      refine own_stepW (st' := T135.setTop (mkF m 132 #[.val (.int x0), .val (.int x1), .val (.int x2), .val (.int x3), .val (.int x4), .val (.ref b1), .val (.ref b20), .val (.int (0 : Int32)), .val (.int (1 : Int32)), .val (.ref b88), .val (.ref r_115)] [(.int (1 : Int32)), (.int (1 : Int32))])) (fun t k => XS.isub X135.here hx rfl (hb hby at_131) rfl k) ?_
      refine own_stepW (st' := T135.setTop (mkF m 137 #[.val (.int x0), .val (.int x1), .val (.int x2), .val (.int x3), .val (.int x4), .val (.ref b1), .val (.ref b20), .val (.int (0 : Int32)), .val (.int (1 : Int32)), .val (.ref b88), .val (.ref r_115)] [])) (fun t k => XS.icmpYes X135.here hx rfl (pc0 := 132) (pc' := 137) rfl (hb hby at_132) rfl (teq (by decide)).1 (by decide) (by decide) k) ?_
      refine own_stepW (st' := T135.setTop (mkF m 139 #[.val (.int x0), .val (.int x1), .val (.int x2), .val (.int x3), .val (.int x4), .val (.ref b1), .val (.ref b20), .val (.int (0 : Int32)), .val (.int (1 : Int32)), .val (.ref b88), .val (.ref r_115)] [(.ref r_115)])) (fun t k => XS.aload X135.here hx rfl (hb hby at_137) rfl rfl k) ?_
      refine own_stepW (st' := T135.setTop (mkF m 141 #[.val (.int x0), .val (.int x1), .val (.int x2), .val (.int x3), .val (.int x4), .val (.ref b1), .val (.ref b20), .val (.int (0 : Int32)), .val (.int (1 : Int32)), .val (.ref b88), .val (.ref r_115)] [(.ref b1), (.ref r_115)])) (fun t k => XS.aload X135.here hx rfl (hb hby at_139) rfl rfl k) ?_
      refine own_stepW (st' := T135.setTop (mkF m 143 #[.val (.int x0), .val (.int x1), .val (.int x2), .val (.int x3), .val (.int x4), .val (.ref b1), .val (.ref b20), .val (.int (0 : Int32)), .val (.int (1 : Int32)), .val (.ref b88), .val (.ref r_115)] [(.int (0 : Int32)), (.ref b1), (.ref r_115)])) (fun t k => XS.iload X135.here hx rfl (hb hby at_141) rfl k) ?_
      refine own_stepW (st' := T135.setTop (mkF m 145 #[.val (.int x0), .val (.int x1), .val (.int x2), .val (.int x3), .val (.int x4), .val (.ref b1), .val (.ref b20), .val (.int (0 : Int32)), .val (.int (1 : Int32)), .val (.ref b88), .val (.ref r_115)] [(.int (1 : Int32)), (.int (0 : Int32)), (.ref b1), (.ref r_115)])) (fun t k => XS.iload X135.here hx rfl (hb hby at_143) rfl k) ?_
      refine own_stepW (st' := T135.setTop (mkF m 146 #[.val (.int x0), .val (.int x1), .val (.int x2), .val (.int x3), .val (.int x4), .val (.ref b1), .val (.ref b20), .val (.int (0 : Int32)), .val (.int (1 : Int32)), .val (.ref b88), .val (.ref r_115)] [(.int (0 : Int32)), (.int (1 : Int32)), (.int (0 : Int32)), (.ref b1), (.ref r_115)])) (fun t k => XS.iconst X135.here hx rfl (hb hby at_145) k) ?_
      obtain ⟨_, _, ⟨T136, L136, k136, n136⟩, -, X136, ⟨Lc136, hQ136, l136, y136, z136⟩, st136⟩ := Jvm.LawKit.callS X135 hx (y := (⟨"com/example/lookahead/lookahead/runtime/TokenTextPinLaw", "charOk", "(Ljava/lang/String;[CIII)Z"⟩ : MethodName)) hown (mvT hZ (own_h hw 94 rfl)) (mvT hZ (own_h hw 95 rfl)) (mvT hZ (own_h hw 96 rfl)) (mvT hZ (own_h hw 97 rfl)) (by decide) (backOf (W := 0) (rmK2 l Z a0 hw [] r_115 b1 (0 : Int32) (1 : Int32) (0 : Int32) b_115 kb_115 (1 : Int32) vd_115 k1 [(.int q0), (.int q1), (.int q2), (.int q3)] ((q0.toInt8.toInt32).toInt8.toInt32) q0 cs fm h115 n0 Z134 O133 pq115_3 pq115_4 pq115_5 pq115_6 f124 (by decide) (by decide) (by decide) ((pq115_7 _).trans rfl) (own_byte b_q0) (own_nc b_q0) ⟨by decide, by decide⟩ rfl p_0 p_1 p_2 p_3) hZ (own_h hw 97 rfl) (own_h hw 96 rfl) (by decide) (by decide)) (g := (mkF m 146 #[.val (.int x0), .val (.int x1), .val (.int x2), .val (.int x3), .val (.int x4), .val (.ref b1), .val (.ref b20), .val (.int (0 : Int32)), .val (.int (1 : Int32)), .val (.ref b88), .val (.ref r_115)] [(.int (0 : Int32)), (.int (1 : Int32)), (.int (0 : Int32)), (.ref b1), (.ref r_115)])) rfl (by rw [hml]; rfl) (argsL := [(.ref r_115), (.ref b1), (.int (0 : Int32)), (.int (1 : Int32)), (.int (0 : Int32))]) (rest := []) (lenOf pd_15 rfl) rfl (by show 2 * 0 + _ ≤ _; exact Nat.le_of_eq rfl) (hb hby at_146) (fun _ _ => ⟨rfl, e135, (by decide : 6 + 0 ≤ _), (by decide : 26 + 0 ≤ _)⟩)
      dsimp only [Pt.U, Pt.locs, Pt.cells, Pt.slots] at X136 l136 y136 z136 st136 hQ136
      subst y136 z136
      obtain ⟨rfl, N136q, e136⟩ := hQ136
      have N136 := Fr.app N135 N136q
      rw [← l136] at N136
      clear l136
      refine own_stepW (st' := T136.setTop (mkF m 149 #[.val (.int x0), .val (.int x1), .val (.int x2), .val (.int x3), .val (.int x4), .val (.ref b1), .val (.ref b20), .val (.int (0 : Int32)), .val (.int (1 : Int32)), .val (.ref b88), .val (.ref r_115)] [(.int (1 : Int32))])) st136 ?_
      refine own_stepW (st' := T136.setTop (mkF m 152 #[.val (.int x0), .val (.int x1), .val (.int x2), .val (.int x3), .val (.int x4), .val (.ref b1), .val (.ref b20), .val (.int (0 : Int32)), .val (.int (1 : Int32)), .val (.ref b88), .val (.ref r_115)] [])) (fun t k => XS.ifNo X136.here hx rfl (hb hby at_149) rfl ((if0 _ _).trans (feq (by decide)).1) k) ?_
      refine own_stepW (st' := T136.setTop (mkF m 154 #[.val (.int x0), .val (.int x1), .val (.int x2), .val (.int x3), .val (.int x4), .val (.ref b1), .val (.ref b20), .val (.int (0 : Int32)), .val (.int (1 : Int32)), .val (.ref b88), .val (.ref r_115)] [(.ref r_115)])) (fun t k => XS.aload X136.here hx rfl (hb hby at_152) rfl rfl k) ?_
      refine own_stepW (st' := T136.setTop (mkF m 156 #[.val (.int x0), .val (.int x1), .val (.int x2), .val (.int x3), .val (.int x4), .val (.ref b1), .val (.ref b20), .val (.int (0 : Int32)), .val (.int (1 : Int32)), .val (.ref b88), .val (.ref r_115)] [(.ref b1), (.ref r_115)])) (fun t k => XS.aload X136.here hx rfl (hb hby at_154) rfl rfl k) ?_
      refine own_stepW (st' := T136.setTop (mkF m 158 #[.val (.int x0), .val (.int x1), .val (.int x2), .val (.int x3), .val (.int x4), .val (.ref b1), .val (.ref b20), .val (.int (0 : Int32)), .val (.int (1 : Int32)), .val (.ref b88), .val (.ref r_115)] [(.int (0 : Int32)), (.ref b1), (.ref r_115)])) (fun t k => XS.iload X136.here hx rfl (hb hby at_156) rfl k) ?_
      refine own_stepW (st' := T136.setTop (mkF m 160 #[.val (.int x0), .val (.int x1), .val (.int x2), .val (.int x3), .val (.int x4), .val (.ref b1), .val (.ref b20), .val (.int (0 : Int32)), .val (.int (1 : Int32)), .val (.ref b88), .val (.ref r_115)] [(.int (1 : Int32)), (.int (0 : Int32)), (.ref b1), (.ref r_115)])) (fun t k => XS.iload X136.here hx rfl (hb hby at_158) rfl k) ?_
      refine own_stepW (st' := T136.setTop (mkF m 161 #[.val (.int x0), .val (.int x1), .val (.int x2), .val (.int x3), .val (.int x4), .val (.ref b1), .val (.ref b20), .val (.int (0 : Int32)), .val (.int (1 : Int32)), .val (.ref b88), .val (.ref r_115)] [(.int (1 : Int32)), (.int (1 : Int32)), (.int (0 : Int32)), (.ref b1), (.ref r_115)])) (fun t k => XS.iconst X136.here hx rfl (hb hby at_160) k) ?_
      obtain ⟨_, _, ⟨T137, L137, k137, n137⟩, -, X137, ⟨Lc137, hQ137, l137, y137, z137⟩, st137⟩ := Jvm.LawKit.callS X136 hx (y := (⟨"com/example/lookahead/lookahead/runtime/TokenTextPinLaw", "charOk", "(Ljava/lang/String;[CIII)Z"⟩ : MethodName)) hown (mvT hZ (own_h hw 94 rfl)) (mvT hZ (own_h hw 95 rfl)) (mvT hZ (own_h hw 96 rfl)) (mvT hZ (own_h hw 97 rfl)) (by decide) (backOf (W := 0) (rmK1 l Z a0 hw [] r_115 b1 (0 : Int32) (1 : Int32) (1 : Int32) h115 n0 Z134 (by decide)) hZ (own_h hw 97 rfl) (own_h hw 96 rfl) (by decide) (by decide)) (g := (mkF m 161 #[.val (.int x0), .val (.int x1), .val (.int x2), .val (.int x3), .val (.int x4), .val (.ref b1), .val (.ref b20), .val (.int (0 : Int32)), .val (.int (1 : Int32)), .val (.ref b88), .val (.ref r_115)] [(.int (1 : Int32)), (.int (1 : Int32)), (.int (0 : Int32)), (.ref b1), (.ref r_115)])) rfl (by rw [hml]; rfl) (argsL := [(.ref r_115), (.ref b1), (.int (0 : Int32)), (.int (1 : Int32)), (.int (1 : Int32))]) (rest := []) (lenOf pd_15 rfl) rfl (by show 2 * 0 + _ ≤ _; exact Nat.le_of_eq rfl) (hb hby at_161) (fun _ _ => ⟨rfl, e136, (by decide : 6 + 0 ≤ _), (by decide : 26 + 0 ≤ _)⟩)
      dsimp only [Pt.U, Pt.locs, Pt.cells, Pt.slots] at X137 l137 y137 z137 st137 hQ137
      subst y137 z137
      obtain ⟨rfl, N137q, e137⟩ := hQ137
      have N137 := Fr.app N136 N137q
      rw [← l137] at N137
      clear l137
      refine own_stepW (st' := T137.setTop (mkF m 164 #[.val (.int x0), .val (.int x1), .val (.int x2), .val (.int x3), .val (.int x4), .val (.ref b1), .val (.ref b20), .val (.int (0 : Int32)), .val (.int (1 : Int32)), .val (.ref b88), .val (.ref r_115)] [(.int (1 : Int32))])) st137 ?_
      refine own_stepW (st' := T137.setTop (mkF m 167 #[.val (.int x0), .val (.int x1), .val (.int x2), .val (.int x3), .val (.int x4), .val (.ref b1), .val (.ref b20), .val (.int (0 : Int32)), .val (.int (1 : Int32)), .val (.ref b88), .val (.ref r_115)] [])) (fun t k => XS.ifNo X137.here hx rfl (hb hby at_164) rfl ((if0 _ _).trans (feq (by decide)).1) k) ?_
      refine own_stepW (st' := T137.setTop (mkF m 169 #[.val (.int x0), .val (.int x1), .val (.int x2), .val (.int x3), .val (.int x4), .val (.ref b1), .val (.ref b20), .val (.int (0 : Int32)), .val (.int (1 : Int32)), .val (.ref b88), .val (.ref r_115)] [(.ref r_115)])) (fun t k => XS.aload X137.here hx rfl (hb hby at_167) rfl rfl k) ?_
      refine own_stepW (st' := T137.setTop (mkF m 171 #[.val (.int x0), .val (.int x1), .val (.int x2), .val (.int x3), .val (.int x4), .val (.ref b1), .val (.ref b20), .val (.int (0 : Int32)), .val (.int (1 : Int32)), .val (.ref b88), .val (.ref r_115)] [(.ref b1), (.ref r_115)])) (fun t k => XS.aload X137.here hx rfl (hb hby at_169) rfl rfl k) ?_
      refine own_stepW (st' := T137.setTop (mkF m 173 #[.val (.int x0), .val (.int x1), .val (.int x2), .val (.int x3), .val (.int x4), .val (.ref b1), .val (.ref b20), .val (.int (0 : Int32)), .val (.int (1 : Int32)), .val (.ref b88), .val (.ref r_115)] [(.int (0 : Int32)), (.ref b1), (.ref r_115)])) (fun t k => XS.iload X137.here hx rfl (hb hby at_171) rfl k) ?_
      refine own_stepW (st' := T137.setTop (mkF m 175 #[.val (.int x0), .val (.int x1), .val (.int x2), .val (.int x3), .val (.int x4), .val (.ref b1), .val (.ref b20), .val (.int (0 : Int32)), .val (.int (1 : Int32)), .val (.ref b88), .val (.ref r_115)] [(.int (1 : Int32)), (.int (0 : Int32)), (.ref b1), (.ref r_115)])) (fun t k => XS.iload X137.here hx rfl (hb hby at_173) rfl k) ?_
      refine own_stepW (st' := T137.setTop (mkF m 176 #[.val (.int x0), .val (.int x1), .val (.int x2), .val (.int x3), .val (.int x4), .val (.ref b1), .val (.ref b20), .val (.int (0 : Int32)), .val (.int (1 : Int32)), .val (.ref b88), .val (.ref r_115)] [(.int (2 : Int32)), (.int (1 : Int32)), (.int (0 : Int32)), (.ref b1), (.ref r_115)])) (fun t k => XS.iconst X137.here hx rfl (hb hby at_175) k) ?_
      obtain ⟨_, _, ⟨T138, L138, k138, n138⟩, -, X138, ⟨Lc138, hQ138, l138, y138, z138⟩, st138⟩ := Jvm.LawKit.callS X137 hx (y := (⟨"com/example/lookahead/lookahead/runtime/TokenTextPinLaw", "charOk", "(Ljava/lang/String;[CIII)Z"⟩ : MethodName)) hown (mvT hZ (own_h hw 94 rfl)) (mvT hZ (own_h hw 95 rfl)) (mvT hZ (own_h hw 96 rfl)) (mvT hZ (own_h hw 97 rfl)) (by decide) (backOf (W := 0) (rmK1 l Z a0 hw [] r_115 b1 (0 : Int32) (1 : Int32) (2 : Int32) h115 n0 Z134 (by decide)) hZ (own_h hw 97 rfl) (own_h hw 96 rfl) (by decide) (by decide)) (g := (mkF m 176 #[.val (.int x0), .val (.int x1), .val (.int x2), .val (.int x3), .val (.int x4), .val (.ref b1), .val (.ref b20), .val (.int (0 : Int32)), .val (.int (1 : Int32)), .val (.ref b88), .val (.ref r_115)] [(.int (2 : Int32)), (.int (1 : Int32)), (.int (0 : Int32)), (.ref b1), (.ref r_115)])) rfl (by rw [hml]; rfl) (argsL := [(.ref r_115), (.ref b1), (.int (0 : Int32)), (.int (1 : Int32)), (.int (2 : Int32))]) (rest := []) (lenOf pd_15 rfl) rfl (by show 2 * 0 + _ ≤ _; exact Nat.le_of_eq rfl) (hb hby at_176) (fun _ _ => ⟨rfl, e137, (by decide : 6 + 0 ≤ _), (by decide : 26 + 0 ≤ _)⟩)
      dsimp only [Pt.U, Pt.locs, Pt.cells, Pt.slots] at X138 l138 y138 z138 st138 hQ138
      subst y138 z138
      obtain ⟨rfl, N138q, e138⟩ := hQ138
      have N138 := Fr.app N137 N138q
      rw [← l138] at N138
      clear l138
      refine own_stepW (st' := T138.setTop (mkF m 179 #[.val (.int x0), .val (.int x1), .val (.int x2), .val (.int x3), .val (.int x4), .val (.ref b1), .val (.ref b20), .val (.int (0 : Int32)), .val (.int (1 : Int32)), .val (.ref b88), .val (.ref r_115)] [(.int (1 : Int32))])) st138 ?_
      refine own_stepW (st' := T138.setTop (mkF m 182 #[.val (.int x0), .val (.int x1), .val (.int x2), .val (.int x3), .val (.int x4), .val (.ref b1), .val (.ref b20), .val (.int (0 : Int32)), .val (.int (1 : Int32)), .val (.ref b88), .val (.ref r_115)] [])) (fun t k => XS.ifNo X138.here hx rfl (hb hby at_179) rfl ((if0 _ _).trans (feq (by decide)).1) k) ?_
      refine own_stepW (st' := T138.setTop (mkF m 184 #[.val (.int x0), .val (.int x1), .val (.int x2), .val (.int x3), .val (.int x4), .val (.ref b1), .val (.ref b20), .val (.int (0 : Int32)), .val (.int (1 : Int32)), .val (.ref b88), .val (.ref r_115)] [(.ref r_115)])) (fun t k => XS.aload X138.here hx rfl (hb hby at_182) rfl rfl k) ?_
      refine own_stepW (st' := T138.setTop (mkF m 186 #[.val (.int x0), .val (.int x1), .val (.int x2), .val (.int x3), .val (.int x4), .val (.ref b1), .val (.ref b20), .val (.int (0 : Int32)), .val (.int (1 : Int32)), .val (.ref b88), .val (.ref r_115)] [(.ref b1), (.ref r_115)])) (fun t k => XS.aload X138.here hx rfl (hb hby at_184) rfl rfl k) ?_
      refine own_stepW (st' := T138.setTop (mkF m 188 #[.val (.int x0), .val (.int x1), .val (.int x2), .val (.int x3), .val (.int x4), .val (.ref b1), .val (.ref b20), .val (.int (0 : Int32)), .val (.int (1 : Int32)), .val (.ref b88), .val (.ref r_115)] [(.int (0 : Int32)), (.ref b1), (.ref r_115)])) (fun t k => XS.iload X138.here hx rfl (hb hby at_186) rfl k) ?_
      refine own_stepW (st' := T138.setTop (mkF m 190 #[.val (.int x0), .val (.int x1), .val (.int x2), .val (.int x3), .val (.int x4), .val (.ref b1), .val (.ref b20), .val (.int (0 : Int32)), .val (.int (1 : Int32)), .val (.ref b88), .val (.ref r_115)] [(.int (1 : Int32)), (.int (0 : Int32)), (.ref b1), (.ref r_115)])) (fun t k => XS.iload X138.here hx rfl (hb hby at_188) rfl k) ?_
      refine own_stepW (st' := T138.setTop (mkF m 191 #[.val (.int x0), .val (.int x1), .val (.int x2), .val (.int x3), .val (.int x4), .val (.ref b1), .val (.ref b20), .val (.int (0 : Int32)), .val (.int (1 : Int32)), .val (.ref b88), .val (.ref r_115)] [(.int (3 : Int32)), (.int (1 : Int32)), (.int (0 : Int32)), (.ref b1), (.ref r_115)])) (fun t k => XS.iconst X138.here hx rfl (hb hby at_190) k) ?_
      obtain ⟨_, _, ⟨T139, L139, k139, n139⟩, -, X139, ⟨Lc139, hQ139, l139, y139, z139⟩, st139⟩ := Jvm.LawKit.callS X138 hx (y := (⟨"com/example/lookahead/lookahead/runtime/TokenTextPinLaw", "charOk", "(Ljava/lang/String;[CIII)Z"⟩ : MethodName)) hown (mvT hZ (own_h hw 94 rfl)) (mvT hZ (own_h hw 95 rfl)) (mvT hZ (own_h hw 96 rfl)) (mvT hZ (own_h hw 97 rfl)) (by decide) (backOf (W := 0) (rmK1 l Z a0 hw [] r_115 b1 (0 : Int32) (1 : Int32) (3 : Int32) h115 n0 Z134 (by decide)) hZ (own_h hw 97 rfl) (own_h hw 96 rfl) (by decide) (by decide)) (g := (mkF m 191 #[.val (.int x0), .val (.int x1), .val (.int x2), .val (.int x3), .val (.int x4), .val (.ref b1), .val (.ref b20), .val (.int (0 : Int32)), .val (.int (1 : Int32)), .val (.ref b88), .val (.ref r_115)] [(.int (3 : Int32)), (.int (1 : Int32)), (.int (0 : Int32)), (.ref b1), (.ref r_115)])) rfl (by rw [hml]; rfl) (argsL := [(.ref r_115), (.ref b1), (.int (0 : Int32)), (.int (1 : Int32)), (.int (3 : Int32))]) (rest := []) (lenOf pd_15 rfl) rfl (by show 2 * 0 + _ ≤ _; exact Nat.le_of_eq rfl) (hb hby at_191) (fun _ _ => ⟨rfl, e138, (by decide : 6 + 0 ≤ _), (by decide : 26 + 0 ≤ _)⟩)
      dsimp only [Pt.U, Pt.locs, Pt.cells, Pt.slots] at X139 l139 y139 z139 st139 hQ139
      subst y139 z139
      obtain ⟨rfl, N139q, e139⟩ := hQ139
      have N139 := Fr.app N138 N139q
      rw [← l139] at N139
      clear l139
      refine own_stepW (st' := T139.setTop (mkF m 194 #[.val (.int x0), .val (.int x1), .val (.int x2), .val (.int x3), .val (.int x4), .val (.ref b1), .val (.ref b20), .val (.int (0 : Int32)), .val (.int (1 : Int32)), .val (.ref b88), .val (.ref r_115)] [(.int (1 : Int32))])) st139 ?_
      refine own_stepW (st' := T139.setTop (mkF m 197 #[.val (.int x0), .val (.int x1), .val (.int x2), .val (.int x3), .val (.int x4), .val (.ref b1), .val (.ref b20), .val (.int (0 : Int32)), .val (.int (1 : Int32)), .val (.ref b88), .val (.ref r_115)] [])) (fun t k => XS.ifNo X139.here hx rfl (hb hby at_194) rfl ((if0 _ _).trans (feq (by decide)).1) k) ?_
      refine own_stepW (st' := T139.setTop (mkF m 198 #[.val (.int x0), .val (.int x1), .val (.int x2), .val (.int x3), .val (.int x4), .val (.ref b1), .val (.ref b20), .val (.int (0 : Int32)), .val (.int (1 : Int32)), .val (.ref b88), .val (.ref r_115)] [(.int (1 : Int32))])) (fun t k => XS.iconst X139.here hx rfl (hb hby at_197) k) ?_
      refine own_stepW (st' := T139.setTop (mkF m 202 #[.val (.int x0), .val (.int x1), .val (.int x2), .val (.int x3), .val (.int x4), .val (.ref b1), .val (.ref b20), .val (.int (0 : Int32)), .val (.int (1 : Int32)), .val (.ref b88), .val (.ref r_115)] [(.int (1 : Int32))])) (fun t k => XS.goto X139.here hx rfl (pc0 := 198) (pc' := 202) rfl (hb hby at_198) (by decide) (by decide) k) ?_
      refine own_toW <| own_ret X139 Bd.notSynchronized (some (.int (1 : Int32))) (fun h => by rw [Bd.returns] at h; cases h) (fun fs hr => retN X139 hx (t := .boolean) Bd.returns (by simp) (hb hby at_202) hr) ?_ (by decide) (by decide)
      rw [e139]
      exact ⟨rfl, N139⟩
    · rw [hn41]
      refine own_stepW (st' := T27.setTop (mkF m 85 #[.val (.int x0), .val (.int x1), .val (.int x2), .val (.int x3), .val (.int x4), .val (.ref b1), .val (.ref b20), .val (.int (0 : Int32)), .unset, .unset, .unset] [(.int (2 : Int32))])) (fun t k => XS.iadd X27.here hx rfl (hb hby at_84) rfl k) ?_
      refine own_stepW (st' := T27.setTop (mkF m 87 #[.val (.int x0), .val (.int x1), .val (.int x2), .val (.int x3), .val (.int x4), .val (.ref b1), .val (.ref b20), .val (.int (0 : Int32)), .val (.int (2 : Int32)), .unset, .unset] [])) (fun t k => XS.istore X27.here hx rfl (hb hby at_85) rfl (l' := #[.val (.int x0), .val (.int x1), .val (.int x2), .val (.int x3), .val (.int x4), .val (.ref b1), .val (.ref b20), .val (.int (0 : Int32)), .val (.int (2 : Int32)), .unset, .unset]) rfl k) ?_
      obtain ⟨T140, h140, X140, e140, E140, A140, D140, -, st140⟩ := newO X27 hx hZ hown (own_h hw 31 rfl) (own_h hw 32 rfl) (own_h hw 33 rfl) e27 (g := (mkF m 87 #[.val (.int x0), .val (.int x1), .val (.int x2), .val (.int x3), .val (.int x4), .val (.ref b1), .val (.ref b20), .val (.int (0 : Int32)), .val (.int (2 : Int32)), .unset, .unset] [])) rfl (hb hby at_87) (by decide) (by decide)
      obtain ⟨b140, g140⟩ : ∃ z, z = h27.size := ⟨_, rfl⟩
      rw [← g140] at A140 D140 st140
      have ne141 : b1 ≠ b140 := Nat.ne_of_lt (Nat.lt_of_lt_of_le f30.lt (Nat.le_of_eq g140.symm))
      have ne142 : b20 ≠ b140 := Nat.ne_of_lt (Nat.lt_of_lt_of_le f31.lt (Nat.le_of_eq g140.symm))
      have ne143 : b_27 ≠ b140 := Nat.ne_of_lt (Nat.lt_of_lt_of_le pq27_3.lt (Nat.le_of_eq g140.symm))
      have g_b140 : n0 ≤ b140 := Nat.le_trans Z33 (Nat.le_of_eq g140.symm)
      have f144 := f30.ext E140
      have f145 := f31.ext E140
      have f146 := pq27_1.ext E140
      have f147 := pq27_2.ext E140
      have f148 := pq27_3.ext E140
      have O149 := O32.ext E140
      have Z150 : n0 ≤ h140.size := Nat.le_trans Z33 E140.1
      have f151 : Fld Z h140 b140 "com/example/lookahead/lookahead/runtime/Token" "terminal" "Lcom/example/lookahead/lookahead/core/Terminal;" .null := D140 (Or.inr (own_h hw 42 rfl)) (ty := (.object "com/example/lookahead/lookahead/core/Terminal")) (by decide)
      have f152 : Fld Z h140 b140 "com/example/lookahead/lookahead/runtime/Token" "input" "Ljava/lang/String;" .null := D140 (Or.inr (own_h hw 44 rfl)) (ty := (.object "java/lang/String")) (by decide)
      have f153 : Fld Z h140 b140 "com/example/lookahead/lookahead/runtime/Token" "start" "I" (.int (0 : Int32)) := D140 (Or.inr (own_h hw 46 rfl)) (ty := .int) (by decide)
      have f154 : Fld Z h140 b140 "com/example/lookahead/lookahead/runtime/Token" "end" "I" (.int (0 : Int32)) := D140 (Or.inr (own_h hw 48 rfl)) (ty := .int) (by decide)
      have f155 : Fld Z h140 b140 "com/example/lookahead/lookahead/runtime/Token" "line" "I" (.int (0 : Int32)) := D140 (Or.inr (own_h hw 50 rfl)) (ty := .int) (by decide)
      have f156 : Fld Z h140 b140 "com/example/lookahead/lookahead/runtime/Token" "column" "I" (.int (0 : Int32)) := D140 (Or.inr (own_h hw 52 rfl)) (ty := .int) (by decide)
      refine own_stepW (st' := T140.setTop (mkF m 90 #[.val (.int x0), .val (.int x1), .val (.int x2), .val (.int x3), .val (.int x4), .val (.ref b1), .val (.ref b20), .val (.int (0 : Int32)), .val (.int (2 : Int32)), .unset, .unset] [(.ref b140)])) st140 ?_
      refine own_stepW (st' := T140.setTop (mkF m 91 #[.val (.int x0), .val (.int x1), .val (.int x2), .val (.int x3), .val (.int x4), .val (.ref b1), .val (.ref b20), .val (.int (0 : Int32)), .val (.int (2 : Int32)), .unset, .unset] [(.ref b140), (.ref b140)])) (fun t k => XS.dup X140.here hx rfl (hb hby at_90) rfl rfl k) ?_
      obtain ⟨T157, X157, e157, st157⟩ := getS2 X140 hx hZ hown (host := "") (Or.inl (own_h hw 34 rfl)) Via.refl e140 (p_4.ext O149.2) (g := (mkF m 91 #[.val (.int x0), .val (.int x1), .val (.int x2), .val (.int x3), .val (.int x4), .val (.ref b1), .val (.ref b20), .val (.int (0 : Int32)), .val (.int (2 : Int32)), .unset, .unset] [(.ref b140), (.ref b140)])) rfl (hb hby at_91)
      refine own_stepW (st' := T157.setTop (mkF m 94 #[.val (.int x0), .val (.int x1), .val (.int x2), .val (.int x3), .val (.int x4), .val (.ref b1), .val (.ref b20), .val (.int (0 : Int32)), .val (.int (2 : Int32)), .unset, .unset] [(.ref tm), (.ref b140), (.ref b140)])) st157 ?_
      refine own_stepW (st' := T157.setTop (mkF m 96 #[.val (.int x0), .val (.int x1), .val (.int x2), .val (.int x3), .val (.int x4), .val (.ref b1), .val (.ref b20), .val (.int (0 : Int32)), .val (.int (2 : Int32)), .unset, .unset] [(.ref b20), (.ref tm), (.ref b140), (.ref b140)])) (fun t k => XS.aload X157.here hx rfl (hb hby at_94) rfl rfl k) ?_
      refine own_stepW (st' := T157.setTop (mkF m 98 #[.val (.int x0), .val (.int x1), .val (.int x2), .val (.int x3), .val (.int x4), .val (.ref b1), .val (.ref b20), .val (.int (0 : Int32)), .val (.int (2 : Int32)), .unset, .unset] [(.int (0 : Int32)), (.ref b20), (.ref tm), (.ref b140), (.ref b140)])) (fun t k => XS.iload X157.here hx rfl (hb hby at_96) rfl k) ?_
      refine own_stepW (st' := T157.setTop (mkF m 100 #[.val (.int x0), .val (.int x1), .val (.int x2), .val (.int x3), .val (.int x4), .val (.ref b1), .val (.ref b20), .val (.int (0 : Int32)), .val (.int (2 : Int32)), .unset, .unset] [(.int (2 : Int32)), (.int (0 : Int32)), (.ref b20), (.ref tm), (.ref b140), (.ref b140)])) (fun t k => XS.iload X157.here hx rfl (hb hby at_98) rfl k) ?_
      refine own_stepW (st' := T157.setTop (mkF m 101 #[.val (.int x0), .val (.int x1), .val (.int x2), .val (.int x3), .val (.int x4), .val (.ref b1), .val (.ref b20), .val (.int (0 : Int32)), .val (.int (2 : Int32)), .unset, .unset] [(.int x3), (.int (2 : Int32)), (.int (0 : Int32)), (.ref b20), (.ref tm), (.ref b140), (.ref b140)])) (fun t k => XS.iloadN X157.here hx rfl (hb hby at_100) rfl k) ?_
      refine own_stepW (st' := T157.setTop (mkF m 103 #[.val (.int x0), .val (.int x1), .val (.int x2), .val (.int x3), .val (.int x4), .val (.ref b1), .val (.ref b20), .val (.int (0 : Int32)), .val (.int (2 : Int32)), .unset, .unset] [(.int x4), (.int x3), (.int (2 : Int32)), (.int (0 : Int32)), (.ref b20), (.ref tm), (.ref b140), (.ref b140)])) (fun t k => XS.iload X157.here hx rfl (hb hby at_101) rfl k) ?_
      obtain ⟨_, _, ⟨T158, L158, k158, n158⟩, -, X158, ⟨Lc158, hQ158, l158, y158, z158⟩, st158⟩ := X157.specialBack hx (y := (⟨"com/example/lookahead/lookahead/runtime/Token", "<init>", "(Lcom/example/lookahead/lookahead/core/Terminal;Ljava/lang/String;IIII)V"⟩ : MethodName)) rfl hown (mvT hZ (own_h hw 37 rfl)) (mvT hZ (own_h hw 38 rfl)) (mvT hZ (own_h hw 39 rfl)) (by decide) (backOf (W := 1) (rm7 l Z a0 hw [] b140 tm b20 (0 : Int32) (2 : Int32) x3 x4 h140 n0 Z150 f151 f152 f153 f154 f155 f156 A140 g_b140) hZ (own_h hw 39 rfl) (own_h hw 33 rfl) (by decide) (by decide)) (g := (mkF m 103 #[.val (.int x0), .val (.int x1), .val (.int x2), .val (.int x3), .val (.int x4), .val (.ref b1), .val (.ref b20), .val (.int (0 : Int32)), .val (.int (2 : Int32)), .unset, .unset] [(.int x4), (.int x3), (.int (2 : Int32)), (.int (0 : Int32)), (.ref b20), (.ref tm), (.ref b140), (.ref b140)])) rfl (by rw [hml]; rfl) (Steps.refl _) (a := b140) (argsL := [(.ref tm), (.ref b20), (.int (0 : Int32)), (.int (2 : Int32)), (.int x3), (.int x4)]) (rest := [(.ref b140)]) (lenOf pd_6 rfl) rfl (by show 2 * 0 + _ ≤ _; exact Nat.le_of_eq rfl) (hb hby at_103) (fun _ _ => ⟨rfl, e157, (by decide : 4 + 0 ≤ _), (by decide : 18 + 0 ≤ _)⟩)
      dsimp only [Pt.U, Pt.locs, Pt.cells, Pt.slots] at X158 l158 y158 z158 st158 hQ158
      subst y158 z158
      obtain ⟨rfl, N158q, K158, pq158_0, pq158_1, pq158_2⟩ := hQ158
      have N158 := Fr.app N27 N158q
      rw [← l158] at N158
      clear l158
      obtain ⟨h158, e158⟩ : ∃ z, T158.heap = z := ⟨_, rfl⟩
      rw [e158] at K158 pq158_0 pq158_1 pq158_2
      have f159 := f144.keep K158 (ninS ne141 nin0)
      have f160 := f145.keep K158
      have f161 := f146.keep K158 (ninS ne142 nin0)
      have f162 := f147.keep K158 (ninS ne142 nin0)
      have f163 := f148.keep K158 (ninS ne143 nin0)
      have f164 := A140.keep K158
      have O165 := O149.keep K158 (allS g_b140 all0)
      have Z166 : n0 ≤ h158.size := Nat.le_trans Z150 K158.1
      refine own_stepW (st' := T158.setTop (mkF m 106 #[.val (.int x0), .val (.int x1), .val (.int x2), .val (.int x3), .val (.int x4), .val (.ref b1), .val (.ref b20), .val (.int (0 : Int32)), .val (.int (2 : Int32)), .unset, .unset] [(.ref b140)])) (fun t k => st158.trans k) ?_
      refine own_stepW (st' := T158.setTop (mkF m 108 #[.val (.int x0), .val (.int x1), .val (.int x2), .val (.int x3), .val (.int x4), .val (.ref b1), .val (.ref b20), .val (.int (0 : Int32)), .val (.int (2 : Int32)), .val (.ref b140), .unset] [])) (fun t k => XS.astore X158.here hx rfl (hb hby at_106) rfl rfl (l' := #[.val (.int x0), .val (.int x1), .val (.int x2), .val (.int x3), .val (.int x4), .val (.ref b1), .val (.ref b20), .val (.int (0 : Int32)), .val (.int (2 : Int32)), .val (.ref b140), .unset]) rfl k) ?_
      refine own_stepW (st' := T158.setTop (mkF m 110 #[.val (.int x0), .val (.int x1), .val (.int x2), .val (.int x3), .val (.int x4), .val (.ref b1), .val (.ref b20), .val (.int (0 : Int32)), .val (.int (2 : Int32)), .val (.ref b140), .unset] [(.ref b140)])) (fun t k => XS.aload X158.here hx rfl (hb hby at_108) rfl rfl k) ?_
      obtain ⟨cq167, kq167, q167a, q167b, q167c⟩ := isOf hZ e158 f164
      obtain ⟨_, _, ⟨T167, L167, k167, n167⟩, -, X167, ⟨Lc167, hQ167, l167, y167, z167⟩, st167⟩ := X158.virtualBack hx (y := (⟨"com/example/lookahead/lookahead/runtime/Token", "text", "()Ljava/lang/String;"⟩ : MethodName)) (z := (⟨"com/example/lookahead/lookahead/runtime/Token", "text", "()Ljava/lang/String;"⟩ : MethodName)) hown (mvT hZ (own_h hw 53 rfl)) (mvT hZ (own_h hw 54 rfl)) (notFace_of_selects (args := #[]) (mvT hZ (own_h hw 56 rfl))) (mvT hZ (own_h hw 56 rfl)) (mvT hZ (own_h hw 55 rfl)) (by decide) (backOf (W := 0) (rmTS l Z a0 hw [] b140 b20 (0 : Int32) (2 : Int32) b_27 kb_27 [(.int ((q0.toInt8.toInt32).toInt8.toInt32)), (.int ((q1.toInt8.toInt32).toInt8.toInt32)), (.int ((q2.toInt8.toInt32).toInt8.toInt32)), (.int ((q3.toInt8.toInt32).toInt8.toInt32))] cs fm h158 n0 Z166 O165 pq158_0 pq158_1 pq158_2 f160 f161 f162 f163 p_0 p_1 p_2 p_3 ⟨by decide, by decide, by decide⟩ (by decide)) hZ (own_h hw 57 rfl) (own_h hw 33 rfl) (by decide) (by decide)) q167a q167c (g := (mkF m 110 #[.val (.int x0), .val (.int x1), .val (.int x2), .val (.int x3), .val (.int x4), .val (.ref b1), .val (.ref b20), .val (.int (0 : Int32)), .val (.int (2 : Int32)), .val (.ref b140), .unset] [(.ref b140)])) rfl (by rw [hml]; rfl) (Steps.refl _) (argsL := []) (rest := []) (lenOf pd_7 rfl) rfl (by show 2 * 0 + _ ≤ _; exact Nat.le_of_eq rfl) (hb hby at_110) (fun _ _ => ⟨rfl, e158, (by decide : 4 + 2 ≤ _), (by decide : 18 + 8 ≤ _)⟩)
      dsimp only [Pt.U, Pt.locs, Pt.cells, Pt.slots] at X167 l167 y167 z167 st167 hQ167
      subst y167 z167
      obtain ⟨r_167, b_167, kb_167, vd_167, rfl, N167q, K167, pq167_0, pq167_1, pq167_2, pq167_3, pq167_4, pq167_5, pq167_6, pq167_7⟩ := hQ167
      have N167 := Fr.app N158 N167q
      rw [← l167] at N167
      clear l167
      obtain ⟨h167, e167⟩ : ∃ z, T167.heap = z := ⟨_, rfl⟩
      rw [e167] at K167 pq167_3 pq167_4 pq167_5 pq167_6
      have ne168 : b1 ≠ r_167 := Nat.ne_of_lt (Nat.lt_of_lt_of_le f159.lt pq167_0)
      have ne169 : b20 ≠ r_167 := Nat.ne_of_lt (Nat.lt_of_lt_of_le f160.lt pq167_0)
      have ne170 : b_27 ≠ r_167 := Nat.ne_of_lt (Nat.lt_of_lt_of_le f163.lt pq167_0)
      have ne171 : b140 ≠ r_167 := Nat.ne_of_lt (Nat.lt_of_lt_of_le f164.lt pq167_0)
      have g_r_167 : n0 ≤ r_167 := Nat.le_trans Z166 pq167_0
      have ne172 : b1 ≠ b_167 := Nat.ne_of_lt (Nat.lt_of_lt_of_le f159.lt pq167_1)
      have ne173 : b20 ≠ b_167 := Nat.ne_of_lt (Nat.lt_of_lt_of_le f160.lt pq167_1)
      have ne174 : b_27 ≠ b_167 := Nat.ne_of_lt (Nat.lt_of_lt_of_le f163.lt pq167_1)
      have ne175 : b140 ≠ b_167 := Nat.ne_of_lt (Nat.lt_of_lt_of_le f164.lt pq167_1)
      have g_b_167 : n0 ≤ b_167 := Nat.le_trans Z166 pq167_1
      have f176 := f159.keep K167 nin0
      have f177 := f160.keep K167
      have f178 := f161.keep K167 nin0
      have f179 := f162.keep K167 nin0
      have f180 := f163.keep K167 nin0
      have f181 := f164.keep K167
      have f182 := pq158_0.keep K167 nin0
      have f183 := pq158_1.keep K167 nin0
      have f184 := pq158_2.keep K167 nin0
      have O185 := O165.keep K167 all0
      have Z186 : n0 ≤ h167.size := Nat.le_trans Z166 K167.1
      refine own_stepW (st' := T167.setTop (mkF m 113 #[.val (.int x0), .val (.int x1), .val (.int x2), .val (.int x3), .val (.int x4), .val (.ref b1), .val (.ref b20), .val (.int (0 : Int32)), .val (.int (2 : Int32)), .val (.ref b140), .unset] [(.ref r_167)])) (fun t k => st167.trans k) ?_
      have hlen167 : (((0 : Int32) + ((2 : Int32) - (0 : Int32))) - (0 : Int32)) = (2 : Int32) := by decide
      rw [hlen167] at pq167_6
      refine own_stepW (st' := T167.setTop (mkF m 115 #[.val (.int x0), .val (.int x1), .val (.int x2), .val (.int x3), .val (.int x4), .val (.ref b1), .val (.ref b20), .val (.int (0 : Int32)), .val (.int (2 : Int32)), .val (.ref b140), .val (.ref r_167)] [])) (fun t k => XS.astore X167.here hx rfl (hb hby at_113) rfl rfl (l' := #[.val (.int x0), .val (.int x1), .val (.int x2), .val (.int x3), .val (.int x4), .val (.ref b1), .val (.ref b20), .val (.int (0 : Int32)), .val (.int (2 : Int32)), .val (.ref b140), .val (.ref r_167)]) rfl k) ?_
      refine own_stepW (st' := T167.setTop (mkF m 117 #[.val (.int x0), .val (.int x1), .val (.int x2), .val (.int x3), .val (.int x4), .val (.ref b1), .val (.ref b20), .val (.int (0 : Int32)), .val (.int (2 : Int32)), .val (.ref b140), .val (.ref r_167)] [(.ref r_167)])) (fun t k => XS.aload X167.here hx rfl (hb hby at_115) rfl rfl k) ?_
      refine own_stepW (st' := T167.setTop (mkF m 122 #[.val (.int x0), .val (.int x1), .val (.int x2), .val (.int x3), .val (.int x4), .val (.ref b1), .val (.ref b20), .val (.int (0 : Int32)), .val (.int (2 : Int32)), .val (.ref b140), .val (.ref r_167)] [])) (fun t k => XS.ifnonnullYes X167.here hx rfl (pc0 := 117) (pc' := 122) rfl (hb hby at_117) rfl (by decide) (by decide) k) ?_
      refine own_stepW (st' := T167.setTop (mkF m 124 #[.val (.int x0), .val (.int x1), .val (.int x2), .val (.int x3), .val (.int x4), .val (.ref b1), .val (.ref b20), .val (.int (0 : Int32)), .val (.int (2 : Int32)), .val (.ref b140), .val (.ref r_167)] [(.ref r_167)])) (fun t k => XS.aload X167.here hx rfl (hb hby at_122) rfl rfl k) ?_
      obtain ⟨cq187, kq187, q187a, q187b, q187c⟩ := isOf hZ e167 pq167_3
      obtain ⟨_, _, ⟨T187, L187, k187, n187⟩, -, X187, ⟨Lc187, hQ187, l187, y187, z187⟩, st187⟩ := X167.virtualBack hx (y := (⟨"java/lang/String", "length", "()I"⟩ : MethodName)) (z := (⟨"java/lang/String", "length", "()I"⟩ : MethodName)) hown (mvT hZ (own_h hw 93 rfl)) (mvT hZ (own_h hw 64 rfl)) (notFace_of_selects (args := #[]) (mvT hZ (own_h hw 66 rfl))) (mvT hZ (own_h hw 66 rfl)) (mvT hZ (own_h hw 65 rfl)) (by decide) (backOf (W := 0) (rm10 l Z a0 hw [] r_167 b_167 kb_167 (2 : Int32) vd_167 cs h167 n0 Z186 O185 pq167_3 pq167_4 pq167_5 pq167_6 p_0 p_1) hZ (own_h hw 67 rfl) (own_h hw 3 rfl) (by decide) (by decide)) q187a q187c (g := (mkF m 124 #[.val (.int x0), .val (.int x1), .val (.int x2), .val (.int x3), .val (.int x4), .val (.ref b1), .val (.ref b20), .val (.int (0 : Int32)), .val (.int (2 : Int32)), .val (.ref b140), .val (.ref r_167)] [(.ref r_167)])) rfl (by rw [hml]; rfl) (Steps.refl _) (argsL := []) (rest := []) (lenOf pd_9 rfl) rfl (by show 2 * 0 + _ ≤ _; exact Nat.le_of_eq rfl) (hb hby at_124) (fun _ _ => ⟨rfl, e167, (by decide : 6 + 0 ≤ _), (by decide : 26 + 0 ≤ _)⟩)
      dsimp only [Pt.U, Pt.locs, Pt.cells, Pt.slots] at X187 l187 y187 z187 st187 hQ187
      subst y187 z187
      obtain ⟨rfl, N187q, e187⟩ := hQ187
      have N187 := Fr.app N167 N187q
      rw [← l187] at N187
      clear l187
      refine own_stepW (st' := T187.setTop (mkF m 127 #[.val (.int x0), .val (.int x1), .val (.int x2), .val (.int x3), .val (.int x4), .val (.ref b1), .val (.ref b20), .val (.int (0 : Int32)), .val (.int (2 : Int32)), .val (.ref b140), .val (.ref r_167)] [(.int (2 : Int32))])) (fun t k => st187.trans k) ?_
      refine own_stepW (st' := T187.setTop (mkF m 129 #[.val (.int x0), .val (.int x1), .val (.int x2), .val (.int x3), .val (.int x4), .val (.ref b1), .val (.ref b20), .val (.int (0 : Int32)), .val (.int (2 : Int32)), .val (.ref b140), .val (.ref r_167)] [(.int (2 : Int32)), (.int (2 : Int32))])) (fun t k => XS.iload X187.here hx rfl (hb hby at_127) rfl k) ?_
      refine own_stepW (st' := T187.setTop (mkF m 131 #[.val (.int x0), .val (.int x1), .val (.int x2), .val (.int x3), .val (.int x4), .val (.ref b1), .val (.ref b20), .val (.int (0 : Int32)), .val (.int (2 : Int32)), .val (.ref b140), .val (.ref r_167)] [(.int (0 : Int32)), (.int (2 : Int32)), (.int (2 : Int32))])) (fun t k => XS.iload X187.here hx rfl (hb hby at_129) rfl k) ?_
      refine own_stepW (st' := T187.setTop (mkF m 132 #[.val (.int x0), .val (.int x1), .val (.int x2), .val (.int x3), .val (.int x4), .val (.ref b1), .val (.ref b20), .val (.int (0 : Int32)), .val (.int (2 : Int32)), .val (.ref b140), .val (.ref r_167)] [(.int (2 : Int32)), (.int (2 : Int32))])) (fun t k => XS.isub X187.here hx rfl (hb hby at_131) rfl k) ?_
      refine own_stepW (st' := T187.setTop (mkF m 137 #[.val (.int x0), .val (.int x1), .val (.int x2), .val (.int x3), .val (.int x4), .val (.ref b1), .val (.ref b20), .val (.int (0 : Int32)), .val (.int (2 : Int32)), .val (.ref b140), .val (.ref r_167)] [])) (fun t k => XS.icmpYes X187.here hx rfl (pc0 := 132) (pc' := 137) rfl (hb hby at_132) rfl (teq (by decide)).1 (by decide) (by decide) k) ?_
      refine own_stepW (st' := T187.setTop (mkF m 139 #[.val (.int x0), .val (.int x1), .val (.int x2), .val (.int x3), .val (.int x4), .val (.ref b1), .val (.ref b20), .val (.int (0 : Int32)), .val (.int (2 : Int32)), .val (.ref b140), .val (.ref r_167)] [(.ref r_167)])) (fun t k => XS.aload X187.here hx rfl (hb hby at_137) rfl rfl k) ?_
      refine own_stepW (st' := T187.setTop (mkF m 141 #[.val (.int x0), .val (.int x1), .val (.int x2), .val (.int x3), .val (.int x4), .val (.ref b1), .val (.ref b20), .val (.int (0 : Int32)), .val (.int (2 : Int32)), .val (.ref b140), .val (.ref r_167)] [(.ref b1), (.ref r_167)])) (fun t k => XS.aload X187.here hx rfl (hb hby at_139) rfl rfl k) ?_
      refine own_stepW (st' := T187.setTop (mkF m 143 #[.val (.int x0), .val (.int x1), .val (.int x2), .val (.int x3), .val (.int x4), .val (.ref b1), .val (.ref b20), .val (.int (0 : Int32)), .val (.int (2 : Int32)), .val (.ref b140), .val (.ref r_167)] [(.int (0 : Int32)), (.ref b1), (.ref r_167)])) (fun t k => XS.iload X187.here hx rfl (hb hby at_141) rfl k) ?_
      refine own_stepW (st' := T187.setTop (mkF m 145 #[.val (.int x0), .val (.int x1), .val (.int x2), .val (.int x3), .val (.int x4), .val (.ref b1), .val (.ref b20), .val (.int (0 : Int32)), .val (.int (2 : Int32)), .val (.ref b140), .val (.ref r_167)] [(.int (2 : Int32)), (.int (0 : Int32)), (.ref b1), (.ref r_167)])) (fun t k => XS.iload X187.here hx rfl (hb hby at_143) rfl k) ?_
      refine own_stepW (st' := T187.setTop (mkF m 146 #[.val (.int x0), .val (.int x1), .val (.int x2), .val (.int x3), .val (.int x4), .val (.ref b1), .val (.ref b20), .val (.int (0 : Int32)), .val (.int (2 : Int32)), .val (.ref b140), .val (.ref r_167)] [(.int (0 : Int32)), (.int (2 : Int32)), (.int (0 : Int32)), (.ref b1), (.ref r_167)])) (fun t k => XS.iconst X187.here hx rfl (hb hby at_145) k) ?_
      obtain ⟨_, _, ⟨T188, L188, k188, n188⟩, -, X188, ⟨Lc188, hQ188, l188, y188, z188⟩, st188⟩ := Jvm.LawKit.callS X187 hx (y := (⟨"com/example/lookahead/lookahead/runtime/TokenTextPinLaw", "charOk", "(Ljava/lang/String;[CIII)Z"⟩ : MethodName)) hown (mvT hZ (own_h hw 94 rfl)) (mvT hZ (own_h hw 95 rfl)) (mvT hZ (own_h hw 96 rfl)) (mvT hZ (own_h hw 97 rfl)) (by decide) (backOf (W := 0) (rmK2 l Z a0 hw [] r_167 b1 (0 : Int32) (2 : Int32) (0 : Int32) b_167 kb_167 (2 : Int32) vd_167 k1 [(.int q0), (.int q1), (.int q2), (.int q3)] ((q0.toInt8.toInt32).toInt8.toInt32) q0 cs fm h167 n0 Z186 O185 pq167_3 pq167_4 pq167_5 pq167_6 f176 (by decide) (by decide) (by decide) ((pq167_7 _).trans rfl) (own_byte b_q0) (own_nc b_q0) ⟨by decide, by decide⟩ rfl p_0 p_1 p_2 p_3) hZ (own_h hw 97 rfl) (own_h hw 96 rfl) (by decide) (by decide)) (g := (mkF m 146 #[.val (.int x0), .val (.int x1), .val (.int x2), .val (.int x3), .val (.int x4), .val (.ref b1), .val (.ref b20), .val (.int (0 : Int32)), .val (.int (2 : Int32)), .val (.ref b140), .val (.ref r_167)] [(.int (0 : Int32)), (.int (2 : Int32)), (.int (0 : Int32)), (.ref b1), (.ref r_167)])) rfl (by rw [hml]; rfl) (argsL := [(.ref r_167), (.ref b1), (.int (0 : Int32)), (.int (2 : Int32)), (.int (0 : Int32))]) (rest := []) (lenOf pd_15 rfl) rfl (by show 2 * 0 + _ ≤ _; exact Nat.le_of_eq rfl) (hb hby at_146) (fun _ _ => ⟨rfl, e187, (by decide : 6 + 0 ≤ _), (by decide : 26 + 0 ≤ _)⟩)
      dsimp only [Pt.U, Pt.locs, Pt.cells, Pt.slots] at X188 l188 y188 z188 st188 hQ188
      subst y188 z188
      obtain ⟨rfl, N188q, e188⟩ := hQ188
      have N188 := Fr.app N187 N188q
      rw [← l188] at N188
      clear l188
      refine own_stepW (st' := T188.setTop (mkF m 149 #[.val (.int x0), .val (.int x1), .val (.int x2), .val (.int x3), .val (.int x4), .val (.ref b1), .val (.ref b20), .val (.int (0 : Int32)), .val (.int (2 : Int32)), .val (.ref b140), .val (.ref r_167)] [(.int (1 : Int32))])) st188 ?_
      refine own_stepW (st' := T188.setTop (mkF m 152 #[.val (.int x0), .val (.int x1), .val (.int x2), .val (.int x3), .val (.int x4), .val (.ref b1), .val (.ref b20), .val (.int (0 : Int32)), .val (.int (2 : Int32)), .val (.ref b140), .val (.ref r_167)] [])) (fun t k => XS.ifNo X188.here hx rfl (hb hby at_149) rfl ((if0 _ _).trans (feq (by decide)).1) k) ?_
      refine own_stepW (st' := T188.setTop (mkF m 154 #[.val (.int x0), .val (.int x1), .val (.int x2), .val (.int x3), .val (.int x4), .val (.ref b1), .val (.ref b20), .val (.int (0 : Int32)), .val (.int (2 : Int32)), .val (.ref b140), .val (.ref r_167)] [(.ref r_167)])) (fun t k => XS.aload X188.here hx rfl (hb hby at_152) rfl rfl k) ?_
      refine own_stepW (st' := T188.setTop (mkF m 156 #[.val (.int x0), .val (.int x1), .val (.int x2), .val (.int x3), .val (.int x4), .val (.ref b1), .val (.ref b20), .val (.int (0 : Int32)), .val (.int (2 : Int32)), .val (.ref b140), .val (.ref r_167)] [(.ref b1), (.ref r_167)])) (fun t k => XS.aload X188.here hx rfl (hb hby at_154) rfl rfl k) ?_
      refine own_stepW (st' := T188.setTop (mkF m 158 #[.val (.int x0), .val (.int x1), .val (.int x2), .val (.int x3), .val (.int x4), .val (.ref b1), .val (.ref b20), .val (.int (0 : Int32)), .val (.int (2 : Int32)), .val (.ref b140), .val (.ref r_167)] [(.int (0 : Int32)), (.ref b1), (.ref r_167)])) (fun t k => XS.iload X188.here hx rfl (hb hby at_156) rfl k) ?_
      refine own_stepW (st' := T188.setTop (mkF m 160 #[.val (.int x0), .val (.int x1), .val (.int x2), .val (.int x3), .val (.int x4), .val (.ref b1), .val (.ref b20), .val (.int (0 : Int32)), .val (.int (2 : Int32)), .val (.ref b140), .val (.ref r_167)] [(.int (2 : Int32)), (.int (0 : Int32)), (.ref b1), (.ref r_167)])) (fun t k => XS.iload X188.here hx rfl (hb hby at_158) rfl k) ?_
      refine own_stepW (st' := T188.setTop (mkF m 161 #[.val (.int x0), .val (.int x1), .val (.int x2), .val (.int x3), .val (.int x4), .val (.ref b1), .val (.ref b20), .val (.int (0 : Int32)), .val (.int (2 : Int32)), .val (.ref b140), .val (.ref r_167)] [(.int (1 : Int32)), (.int (2 : Int32)), (.int (0 : Int32)), (.ref b1), (.ref r_167)])) (fun t k => XS.iconst X188.here hx rfl (hb hby at_160) k) ?_
      obtain ⟨_, _, ⟨T189, L189, k189, n189⟩, -, X189, ⟨Lc189, hQ189, l189, y189, z189⟩, st189⟩ := Jvm.LawKit.callS X188 hx (y := (⟨"com/example/lookahead/lookahead/runtime/TokenTextPinLaw", "charOk", "(Ljava/lang/String;[CIII)Z"⟩ : MethodName)) hown (mvT hZ (own_h hw 94 rfl)) (mvT hZ (own_h hw 95 rfl)) (mvT hZ (own_h hw 96 rfl)) (mvT hZ (own_h hw 97 rfl)) (by decide) (backOf (W := 0) (rmK2 l Z a0 hw [] r_167 b1 (0 : Int32) (2 : Int32) (1 : Int32) b_167 kb_167 (2 : Int32) vd_167 k1 [(.int q0), (.int q1), (.int q2), (.int q3)] ((q1.toInt8.toInt32).toInt8.toInt32) q1 cs fm h167 n0 Z186 O185 pq167_3 pq167_4 pq167_5 pq167_6 f176 (by decide) (by decide) (by decide) ((pq167_7 _).trans rfl) (own_byte b_q1) (own_nc b_q1) ⟨by decide, by decide⟩ rfl p_0 p_1 p_2 p_3) hZ (own_h hw 97 rfl) (own_h hw 96 rfl) (by decide) (by decide)) (g := (mkF m 161 #[.val (.int x0), .val (.int x1), .val (.int x2), .val (.int x3), .val (.int x4), .val (.ref b1), .val (.ref b20), .val (.int (0 : Int32)), .val (.int (2 : Int32)), .val (.ref b140), .val (.ref r_167)] [(.int (1 : Int32)), (.int (2 : Int32)), (.int (0 : Int32)), (.ref b1), (.ref r_167)])) rfl (by rw [hml]; rfl) (argsL := [(.ref r_167), (.ref b1), (.int (0 : Int32)), (.int (2 : Int32)), (.int (1 : Int32))]) (rest := []) (lenOf pd_15 rfl) rfl (by show 2 * 0 + _ ≤ _; exact Nat.le_of_eq rfl) (hb hby at_161) (fun _ _ => ⟨rfl, e188, (by decide : 6 + 0 ≤ _), (by decide : 26 + 0 ≤ _)⟩)
      dsimp only [Pt.U, Pt.locs, Pt.cells, Pt.slots] at X189 l189 y189 z189 st189 hQ189
      subst y189 z189
      obtain ⟨rfl, N189q, e189⟩ := hQ189
      have N189 := Fr.app N188 N189q
      rw [← l189] at N189
      clear l189
      refine own_stepW (st' := T189.setTop (mkF m 164 #[.val (.int x0), .val (.int x1), .val (.int x2), .val (.int x3), .val (.int x4), .val (.ref b1), .val (.ref b20), .val (.int (0 : Int32)), .val (.int (2 : Int32)), .val (.ref b140), .val (.ref r_167)] [(.int (1 : Int32))])) st189 ?_
      refine own_stepW (st' := T189.setTop (mkF m 167 #[.val (.int x0), .val (.int x1), .val (.int x2), .val (.int x3), .val (.int x4), .val (.ref b1), .val (.ref b20), .val (.int (0 : Int32)), .val (.int (2 : Int32)), .val (.ref b140), .val (.ref r_167)] [])) (fun t k => XS.ifNo X189.here hx rfl (hb hby at_164) rfl ((if0 _ _).trans (feq (by decide)).1) k) ?_
      refine own_stepW (st' := T189.setTop (mkF m 169 #[.val (.int x0), .val (.int x1), .val (.int x2), .val (.int x3), .val (.int x4), .val (.ref b1), .val (.ref b20), .val (.int (0 : Int32)), .val (.int (2 : Int32)), .val (.ref b140), .val (.ref r_167)] [(.ref r_167)])) (fun t k => XS.aload X189.here hx rfl (hb hby at_167) rfl rfl k) ?_
      refine own_stepW (st' := T189.setTop (mkF m 171 #[.val (.int x0), .val (.int x1), .val (.int x2), .val (.int x3), .val (.int x4), .val (.ref b1), .val (.ref b20), .val (.int (0 : Int32)), .val (.int (2 : Int32)), .val (.ref b140), .val (.ref r_167)] [(.ref b1), (.ref r_167)])) (fun t k => XS.aload X189.here hx rfl (hb hby at_169) rfl rfl k) ?_
      refine own_stepW (st' := T189.setTop (mkF m 173 #[.val (.int x0), .val (.int x1), .val (.int x2), .val (.int x3), .val (.int x4), .val (.ref b1), .val (.ref b20), .val (.int (0 : Int32)), .val (.int (2 : Int32)), .val (.ref b140), .val (.ref r_167)] [(.int (0 : Int32)), (.ref b1), (.ref r_167)])) (fun t k => XS.iload X189.here hx rfl (hb hby at_171) rfl k) ?_
      refine own_stepW (st' := T189.setTop (mkF m 175 #[.val (.int x0), .val (.int x1), .val (.int x2), .val (.int x3), .val (.int x4), .val (.ref b1), .val (.ref b20), .val (.int (0 : Int32)), .val (.int (2 : Int32)), .val (.ref b140), .val (.ref r_167)] [(.int (2 : Int32)), (.int (0 : Int32)), (.ref b1), (.ref r_167)])) (fun t k => XS.iload X189.here hx rfl (hb hby at_173) rfl k) ?_
      refine own_stepW (st' := T189.setTop (mkF m 176 #[.val (.int x0), .val (.int x1), .val (.int x2), .val (.int x3), .val (.int x4), .val (.ref b1), .val (.ref b20), .val (.int (0 : Int32)), .val (.int (2 : Int32)), .val (.ref b140), .val (.ref r_167)] [(.int (2 : Int32)), (.int (2 : Int32)), (.int (0 : Int32)), (.ref b1), (.ref r_167)])) (fun t k => XS.iconst X189.here hx rfl (hb hby at_175) k) ?_
      obtain ⟨_, _, ⟨T190, L190, k190, n190⟩, -, X190, ⟨Lc190, hQ190, l190, y190, z190⟩, st190⟩ := Jvm.LawKit.callS X189 hx (y := (⟨"com/example/lookahead/lookahead/runtime/TokenTextPinLaw", "charOk", "(Ljava/lang/String;[CIII)Z"⟩ : MethodName)) hown (mvT hZ (own_h hw 94 rfl)) (mvT hZ (own_h hw 95 rfl)) (mvT hZ (own_h hw 96 rfl)) (mvT hZ (own_h hw 97 rfl)) (by decide) (backOf (W := 0) (rmK1 l Z a0 hw [] r_167 b1 (0 : Int32) (2 : Int32) (2 : Int32) h167 n0 Z186 (by decide)) hZ (own_h hw 97 rfl) (own_h hw 96 rfl) (by decide) (by decide)) (g := (mkF m 176 #[.val (.int x0), .val (.int x1), .val (.int x2), .val (.int x3), .val (.int x4), .val (.ref b1), .val (.ref b20), .val (.int (0 : Int32)), .val (.int (2 : Int32)), .val (.ref b140), .val (.ref r_167)] [(.int (2 : Int32)), (.int (2 : Int32)), (.int (0 : Int32)), (.ref b1), (.ref r_167)])) rfl (by rw [hml]; rfl) (argsL := [(.ref r_167), (.ref b1), (.int (0 : Int32)), (.int (2 : Int32)), (.int (2 : Int32))]) (rest := []) (lenOf pd_15 rfl) rfl (by show 2 * 0 + _ ≤ _; exact Nat.le_of_eq rfl) (hb hby at_176) (fun _ _ => ⟨rfl, e189, (by decide : 6 + 0 ≤ _), (by decide : 26 + 0 ≤ _)⟩)
      dsimp only [Pt.U, Pt.locs, Pt.cells, Pt.slots] at X190 l190 y190 z190 st190 hQ190
      subst y190 z190
      obtain ⟨rfl, N190q, e190⟩ := hQ190
      have N190 := Fr.app N189 N190q
      rw [← l190] at N190
      clear l190
      refine own_stepW (st' := T190.setTop (mkF m 179 #[.val (.int x0), .val (.int x1), .val (.int x2), .val (.int x3), .val (.int x4), .val (.ref b1), .val (.ref b20), .val (.int (0 : Int32)), .val (.int (2 : Int32)), .val (.ref b140), .val (.ref r_167)] [(.int (1 : Int32))])) st190 ?_
      refine own_stepW (st' := T190.setTop (mkF m 182 #[.val (.int x0), .val (.int x1), .val (.int x2), .val (.int x3), .val (.int x4), .val (.ref b1), .val (.ref b20), .val (.int (0 : Int32)), .val (.int (2 : Int32)), .val (.ref b140), .val (.ref r_167)] [])) (fun t k => XS.ifNo X190.here hx rfl (hb hby at_179) rfl ((if0 _ _).trans (feq (by decide)).1) k) ?_
      refine own_stepW (st' := T190.setTop (mkF m 184 #[.val (.int x0), .val (.int x1), .val (.int x2), .val (.int x3), .val (.int x4), .val (.ref b1), .val (.ref b20), .val (.int (0 : Int32)), .val (.int (2 : Int32)), .val (.ref b140), .val (.ref r_167)] [(.ref r_167)])) (fun t k => XS.aload X190.here hx rfl (hb hby at_182) rfl rfl k) ?_
      refine own_stepW (st' := T190.setTop (mkF m 186 #[.val (.int x0), .val (.int x1), .val (.int x2), .val (.int x3), .val (.int x4), .val (.ref b1), .val (.ref b20), .val (.int (0 : Int32)), .val (.int (2 : Int32)), .val (.ref b140), .val (.ref r_167)] [(.ref b1), (.ref r_167)])) (fun t k => XS.aload X190.here hx rfl (hb hby at_184) rfl rfl k) ?_
      refine own_stepW (st' := T190.setTop (mkF m 188 #[.val (.int x0), .val (.int x1), .val (.int x2), .val (.int x3), .val (.int x4), .val (.ref b1), .val (.ref b20), .val (.int (0 : Int32)), .val (.int (2 : Int32)), .val (.ref b140), .val (.ref r_167)] [(.int (0 : Int32)), (.ref b1), (.ref r_167)])) (fun t k => XS.iload X190.here hx rfl (hb hby at_186) rfl k) ?_
      refine own_stepW (st' := T190.setTop (mkF m 190 #[.val (.int x0), .val (.int x1), .val (.int x2), .val (.int x3), .val (.int x4), .val (.ref b1), .val (.ref b20), .val (.int (0 : Int32)), .val (.int (2 : Int32)), .val (.ref b140), .val (.ref r_167)] [(.int (2 : Int32)), (.int (0 : Int32)), (.ref b1), (.ref r_167)])) (fun t k => XS.iload X190.here hx rfl (hb hby at_188) rfl k) ?_
      refine own_stepW (st' := T190.setTop (mkF m 191 #[.val (.int x0), .val (.int x1), .val (.int x2), .val (.int x3), .val (.int x4), .val (.ref b1), .val (.ref b20), .val (.int (0 : Int32)), .val (.int (2 : Int32)), .val (.ref b140), .val (.ref r_167)] [(.int (3 : Int32)), (.int (2 : Int32)), (.int (0 : Int32)), (.ref b1), (.ref r_167)])) (fun t k => XS.iconst X190.here hx rfl (hb hby at_190) k) ?_
      obtain ⟨_, _, ⟨T191, L191, k191, n191⟩, -, X191, ⟨Lc191, hQ191, l191, y191, z191⟩, st191⟩ := Jvm.LawKit.callS X190 hx (y := (⟨"com/example/lookahead/lookahead/runtime/TokenTextPinLaw", "charOk", "(Ljava/lang/String;[CIII)Z"⟩ : MethodName)) hown (mvT hZ (own_h hw 94 rfl)) (mvT hZ (own_h hw 95 rfl)) (mvT hZ (own_h hw 96 rfl)) (mvT hZ (own_h hw 97 rfl)) (by decide) (backOf (W := 0) (rmK1 l Z a0 hw [] r_167 b1 (0 : Int32) (2 : Int32) (3 : Int32) h167 n0 Z186 (by decide)) hZ (own_h hw 97 rfl) (own_h hw 96 rfl) (by decide) (by decide)) (g := (mkF m 191 #[.val (.int x0), .val (.int x1), .val (.int x2), .val (.int x3), .val (.int x4), .val (.ref b1), .val (.ref b20), .val (.int (0 : Int32)), .val (.int (2 : Int32)), .val (.ref b140), .val (.ref r_167)] [(.int (3 : Int32)), (.int (2 : Int32)), (.int (0 : Int32)), (.ref b1), (.ref r_167)])) rfl (by rw [hml]; rfl) (argsL := [(.ref r_167), (.ref b1), (.int (0 : Int32)), (.int (2 : Int32)), (.int (3 : Int32))]) (rest := []) (lenOf pd_15 rfl) rfl (by show 2 * 0 + _ ≤ _; exact Nat.le_of_eq rfl) (hb hby at_191) (fun _ _ => ⟨rfl, e190, (by decide : 6 + 0 ≤ _), (by decide : 26 + 0 ≤ _)⟩)
      dsimp only [Pt.U, Pt.locs, Pt.cells, Pt.slots] at X191 l191 y191 z191 st191 hQ191
      subst y191 z191
      obtain ⟨rfl, N191q, e191⟩ := hQ191
      have N191 := Fr.app N190 N191q
      rw [← l191] at N191
      clear l191
      refine own_stepW (st' := T191.setTop (mkF m 194 #[.val (.int x0), .val (.int x1), .val (.int x2), .val (.int x3), .val (.int x4), .val (.ref b1), .val (.ref b20), .val (.int (0 : Int32)), .val (.int (2 : Int32)), .val (.ref b140), .val (.ref r_167)] [(.int (1 : Int32))])) st191 ?_
      refine own_stepW (st' := T191.setTop (mkF m 197 #[.val (.int x0), .val (.int x1), .val (.int x2), .val (.int x3), .val (.int x4), .val (.ref b1), .val (.ref b20), .val (.int (0 : Int32)), .val (.int (2 : Int32)), .val (.ref b140), .val (.ref r_167)] [])) (fun t k => XS.ifNo X191.here hx rfl (hb hby at_194) rfl ((if0 _ _).trans (feq (by decide)).1) k) ?_
      refine own_stepW (st' := T191.setTop (mkF m 198 #[.val (.int x0), .val (.int x1), .val (.int x2), .val (.int x3), .val (.int x4), .val (.ref b1), .val (.ref b20), .val (.int (0 : Int32)), .val (.int (2 : Int32)), .val (.ref b140), .val (.ref r_167)] [(.int (1 : Int32))])) (fun t k => XS.iconst X191.here hx rfl (hb hby at_197) k) ?_
      refine own_stepW (st' := T191.setTop (mkF m 202 #[.val (.int x0), .val (.int x1), .val (.int x2), .val (.int x3), .val (.int x4), .val (.ref b1), .val (.ref b20), .val (.int (0 : Int32)), .val (.int (2 : Int32)), .val (.ref b140), .val (.ref r_167)] [(.int (1 : Int32))])) (fun t k => XS.goto X191.here hx rfl (pc0 := 198) (pc' := 202) rfl (hb hby at_198) (by decide) (by decide) k) ?_
      refine own_toW <| own_ret X191 Bd.notSynchronized (some (.int (1 : Int32))) (fun h => by rw [Bd.returns] at h; cases h) (fun fs hr => retN X191 hx (t := .boolean) Bd.returns (by simp) (hb hby at_202) hr) ?_ (by decide) (by decide)
      rw [e191]
      exact ⟨rfl, N191⟩
    · rw [hn42]
      refine own_stepW (st' := T27.setTop (mkF m 85 #[.val (.int x0), .val (.int x1), .val (.int x2), .val (.int x3), .val (.int x4), .val (.ref b1), .val (.ref b20), .val (.int (0 : Int32)), .unset, .unset, .unset] [(.int (3 : Int32))])) (fun t k => XS.iadd X27.here hx rfl (hb hby at_84) rfl k) ?_
      refine own_stepW (st' := T27.setTop (mkF m 87 #[.val (.int x0), .val (.int x1), .val (.int x2), .val (.int x3), .val (.int x4), .val (.ref b1), .val (.ref b20), .val (.int (0 : Int32)), .val (.int (3 : Int32)), .unset, .unset] [])) (fun t k => XS.istore X27.here hx rfl (hb hby at_85) rfl (l' := #[.val (.int x0), .val (.int x1), .val (.int x2), .val (.int x3), .val (.int x4), .val (.ref b1), .val (.ref b20), .val (.int (0 : Int32)), .val (.int (3 : Int32)), .unset, .unset]) rfl k) ?_
      obtain ⟨T192, h192, X192, e192, E192, A192, D192, -, st192⟩ := newO X27 hx hZ hown (own_h hw 31 rfl) (own_h hw 32 rfl) (own_h hw 33 rfl) e27 (g := (mkF m 87 #[.val (.int x0), .val (.int x1), .val (.int x2), .val (.int x3), .val (.int x4), .val (.ref b1), .val (.ref b20), .val (.int (0 : Int32)), .val (.int (3 : Int32)), .unset, .unset] [])) rfl (hb hby at_87) (by decide) (by decide)
      obtain ⟨b192, g192⟩ : ∃ z, z = h27.size := ⟨_, rfl⟩
      rw [← g192] at A192 D192 st192
      have ne193 : b1 ≠ b192 := Nat.ne_of_lt (Nat.lt_of_lt_of_le f30.lt (Nat.le_of_eq g192.symm))
      have ne194 : b20 ≠ b192 := Nat.ne_of_lt (Nat.lt_of_lt_of_le f31.lt (Nat.le_of_eq g192.symm))
      have ne195 : b_27 ≠ b192 := Nat.ne_of_lt (Nat.lt_of_lt_of_le pq27_3.lt (Nat.le_of_eq g192.symm))
      have g_b192 : n0 ≤ b192 := Nat.le_trans Z33 (Nat.le_of_eq g192.symm)
      have f196 := f30.ext E192
      have f197 := f31.ext E192
      have f198 := pq27_1.ext E192
      have f199 := pq27_2.ext E192
      have f200 := pq27_3.ext E192
      have O201 := O32.ext E192
      have Z202 : n0 ≤ h192.size := Nat.le_trans Z33 E192.1
      have f203 : Fld Z h192 b192 "com/example/lookahead/lookahead/runtime/Token" "terminal" "Lcom/example/lookahead/lookahead/core/Terminal;" .null := D192 (Or.inr (own_h hw 42 rfl)) (ty := (.object "com/example/lookahead/lookahead/core/Terminal")) (by decide)
      have f204 : Fld Z h192 b192 "com/example/lookahead/lookahead/runtime/Token" "input" "Ljava/lang/String;" .null := D192 (Or.inr (own_h hw 44 rfl)) (ty := (.object "java/lang/String")) (by decide)
      have f205 : Fld Z h192 b192 "com/example/lookahead/lookahead/runtime/Token" "start" "I" (.int (0 : Int32)) := D192 (Or.inr (own_h hw 46 rfl)) (ty := .int) (by decide)
      have f206 : Fld Z h192 b192 "com/example/lookahead/lookahead/runtime/Token" "end" "I" (.int (0 : Int32)) := D192 (Or.inr (own_h hw 48 rfl)) (ty := .int) (by decide)
      have f207 : Fld Z h192 b192 "com/example/lookahead/lookahead/runtime/Token" "line" "I" (.int (0 : Int32)) := D192 (Or.inr (own_h hw 50 rfl)) (ty := .int) (by decide)
      have f208 : Fld Z h192 b192 "com/example/lookahead/lookahead/runtime/Token" "column" "I" (.int (0 : Int32)) := D192 (Or.inr (own_h hw 52 rfl)) (ty := .int) (by decide)
      refine own_stepW (st' := T192.setTop (mkF m 90 #[.val (.int x0), .val (.int x1), .val (.int x2), .val (.int x3), .val (.int x4), .val (.ref b1), .val (.ref b20), .val (.int (0 : Int32)), .val (.int (3 : Int32)), .unset, .unset] [(.ref b192)])) st192 ?_
      refine own_stepW (st' := T192.setTop (mkF m 91 #[.val (.int x0), .val (.int x1), .val (.int x2), .val (.int x3), .val (.int x4), .val (.ref b1), .val (.ref b20), .val (.int (0 : Int32)), .val (.int (3 : Int32)), .unset, .unset] [(.ref b192), (.ref b192)])) (fun t k => XS.dup X192.here hx rfl (hb hby at_90) rfl rfl k) ?_
      obtain ⟨T209, X209, e209, st209⟩ := getS2 X192 hx hZ hown (host := "") (Or.inl (own_h hw 34 rfl)) Via.refl e192 (p_4.ext O201.2) (g := (mkF m 91 #[.val (.int x0), .val (.int x1), .val (.int x2), .val (.int x3), .val (.int x4), .val (.ref b1), .val (.ref b20), .val (.int (0 : Int32)), .val (.int (3 : Int32)), .unset, .unset] [(.ref b192), (.ref b192)])) rfl (hb hby at_91)
      refine own_stepW (st' := T209.setTop (mkF m 94 #[.val (.int x0), .val (.int x1), .val (.int x2), .val (.int x3), .val (.int x4), .val (.ref b1), .val (.ref b20), .val (.int (0 : Int32)), .val (.int (3 : Int32)), .unset, .unset] [(.ref tm), (.ref b192), (.ref b192)])) st209 ?_
      refine own_stepW (st' := T209.setTop (mkF m 96 #[.val (.int x0), .val (.int x1), .val (.int x2), .val (.int x3), .val (.int x4), .val (.ref b1), .val (.ref b20), .val (.int (0 : Int32)), .val (.int (3 : Int32)), .unset, .unset] [(.ref b20), (.ref tm), (.ref b192), (.ref b192)])) (fun t k => XS.aload X209.here hx rfl (hb hby at_94) rfl rfl k) ?_
      refine own_stepW (st' := T209.setTop (mkF m 98 #[.val (.int x0), .val (.int x1), .val (.int x2), .val (.int x3), .val (.int x4), .val (.ref b1), .val (.ref b20), .val (.int (0 : Int32)), .val (.int (3 : Int32)), .unset, .unset] [(.int (0 : Int32)), (.ref b20), (.ref tm), (.ref b192), (.ref b192)])) (fun t k => XS.iload X209.here hx rfl (hb hby at_96) rfl k) ?_
      refine own_stepW (st' := T209.setTop (mkF m 100 #[.val (.int x0), .val (.int x1), .val (.int x2), .val (.int x3), .val (.int x4), .val (.ref b1), .val (.ref b20), .val (.int (0 : Int32)), .val (.int (3 : Int32)), .unset, .unset] [(.int (3 : Int32)), (.int (0 : Int32)), (.ref b20), (.ref tm), (.ref b192), (.ref b192)])) (fun t k => XS.iload X209.here hx rfl (hb hby at_98) rfl k) ?_
      refine own_stepW (st' := T209.setTop (mkF m 101 #[.val (.int x0), .val (.int x1), .val (.int x2), .val (.int x3), .val (.int x4), .val (.ref b1), .val (.ref b20), .val (.int (0 : Int32)), .val (.int (3 : Int32)), .unset, .unset] [(.int x3), (.int (3 : Int32)), (.int (0 : Int32)), (.ref b20), (.ref tm), (.ref b192), (.ref b192)])) (fun t k => XS.iloadN X209.here hx rfl (hb hby at_100) rfl k) ?_
      refine own_stepW (st' := T209.setTop (mkF m 103 #[.val (.int x0), .val (.int x1), .val (.int x2), .val (.int x3), .val (.int x4), .val (.ref b1), .val (.ref b20), .val (.int (0 : Int32)), .val (.int (3 : Int32)), .unset, .unset] [(.int x4), (.int x3), (.int (3 : Int32)), (.int (0 : Int32)), (.ref b20), (.ref tm), (.ref b192), (.ref b192)])) (fun t k => XS.iload X209.here hx rfl (hb hby at_101) rfl k) ?_
      obtain ⟨_, _, ⟨T210, L210, k210, n210⟩, -, X210, ⟨Lc210, hQ210, l210, y210, z210⟩, st210⟩ := X209.specialBack hx (y := (⟨"com/example/lookahead/lookahead/runtime/Token", "<init>", "(Lcom/example/lookahead/lookahead/core/Terminal;Ljava/lang/String;IIII)V"⟩ : MethodName)) rfl hown (mvT hZ (own_h hw 37 rfl)) (mvT hZ (own_h hw 38 rfl)) (mvT hZ (own_h hw 39 rfl)) (by decide) (backOf (W := 1) (rm7 l Z a0 hw [] b192 tm b20 (0 : Int32) (3 : Int32) x3 x4 h192 n0 Z202 f203 f204 f205 f206 f207 f208 A192 g_b192) hZ (own_h hw 39 rfl) (own_h hw 33 rfl) (by decide) (by decide)) (g := (mkF m 103 #[.val (.int x0), .val (.int x1), .val (.int x2), .val (.int x3), .val (.int x4), .val (.ref b1), .val (.ref b20), .val (.int (0 : Int32)), .val (.int (3 : Int32)), .unset, .unset] [(.int x4), (.int x3), (.int (3 : Int32)), (.int (0 : Int32)), (.ref b20), (.ref tm), (.ref b192), (.ref b192)])) rfl (by rw [hml]; rfl) (Steps.refl _) (a := b192) (argsL := [(.ref tm), (.ref b20), (.int (0 : Int32)), (.int (3 : Int32)), (.int x3), (.int x4)]) (rest := [(.ref b192)]) (lenOf pd_6 rfl) rfl (by show 2 * 0 + _ ≤ _; exact Nat.le_of_eq rfl) (hb hby at_103) (fun _ _ => ⟨rfl, e209, (by decide : 4 + 0 ≤ _), (by decide : 18 + 0 ≤ _)⟩)
      dsimp only [Pt.U, Pt.locs, Pt.cells, Pt.slots] at X210 l210 y210 z210 st210 hQ210
      subst y210 z210
      obtain ⟨rfl, N210q, K210, pq210_0, pq210_1, pq210_2⟩ := hQ210
      have N210 := Fr.app N27 N210q
      rw [← l210] at N210
      clear l210
      obtain ⟨h210, e210⟩ : ∃ z, T210.heap = z := ⟨_, rfl⟩
      rw [e210] at K210 pq210_0 pq210_1 pq210_2
      have f211 := f196.keep K210 (ninS ne193 nin0)
      have f212 := f197.keep K210
      have f213 := f198.keep K210 (ninS ne194 nin0)
      have f214 := f199.keep K210 (ninS ne194 nin0)
      have f215 := f200.keep K210 (ninS ne195 nin0)
      have f216 := A192.keep K210
      have O217 := O201.keep K210 (allS g_b192 all0)
      have Z218 : n0 ≤ h210.size := Nat.le_trans Z202 K210.1
      refine own_stepW (st' := T210.setTop (mkF m 106 #[.val (.int x0), .val (.int x1), .val (.int x2), .val (.int x3), .val (.int x4), .val (.ref b1), .val (.ref b20), .val (.int (0 : Int32)), .val (.int (3 : Int32)), .unset, .unset] [(.ref b192)])) (fun t k => st210.trans k) ?_
      refine own_stepW (st' := T210.setTop (mkF m 108 #[.val (.int x0), .val (.int x1), .val (.int x2), .val (.int x3), .val (.int x4), .val (.ref b1), .val (.ref b20), .val (.int (0 : Int32)), .val (.int (3 : Int32)), .val (.ref b192), .unset] [])) (fun t k => XS.astore X210.here hx rfl (hb hby at_106) rfl rfl (l' := #[.val (.int x0), .val (.int x1), .val (.int x2), .val (.int x3), .val (.int x4), .val (.ref b1), .val (.ref b20), .val (.int (0 : Int32)), .val (.int (3 : Int32)), .val (.ref b192), .unset]) rfl k) ?_
      refine own_stepW (st' := T210.setTop (mkF m 110 #[.val (.int x0), .val (.int x1), .val (.int x2), .val (.int x3), .val (.int x4), .val (.ref b1), .val (.ref b20), .val (.int (0 : Int32)), .val (.int (3 : Int32)), .val (.ref b192), .unset] [(.ref b192)])) (fun t k => XS.aload X210.here hx rfl (hb hby at_108) rfl rfl k) ?_
      obtain ⟨cq219, kq219, q219a, q219b, q219c⟩ := isOf hZ e210 f216
      obtain ⟨_, _, ⟨T219, L219, k219, n219⟩, -, X219, ⟨Lc219, hQ219, l219, y219, z219⟩, st219⟩ := X210.virtualBack hx (y := (⟨"com/example/lookahead/lookahead/runtime/Token", "text", "()Ljava/lang/String;"⟩ : MethodName)) (z := (⟨"com/example/lookahead/lookahead/runtime/Token", "text", "()Ljava/lang/String;"⟩ : MethodName)) hown (mvT hZ (own_h hw 53 rfl)) (mvT hZ (own_h hw 54 rfl)) (notFace_of_selects (args := #[]) (mvT hZ (own_h hw 56 rfl))) (mvT hZ (own_h hw 56 rfl)) (mvT hZ (own_h hw 55 rfl)) (by decide) (backOf (W := 0) (rmTS l Z a0 hw [] b192 b20 (0 : Int32) (3 : Int32) b_27 kb_27 [(.int ((q0.toInt8.toInt32).toInt8.toInt32)), (.int ((q1.toInt8.toInt32).toInt8.toInt32)), (.int ((q2.toInt8.toInt32).toInt8.toInt32)), (.int ((q3.toInt8.toInt32).toInt8.toInt32))] cs fm h210 n0 Z218 O217 pq210_0 pq210_1 pq210_2 f212 f213 f214 f215 p_0 p_1 p_2 p_3 ⟨by decide, by decide, by decide⟩ (by decide)) hZ (own_h hw 57 rfl) (own_h hw 33 rfl) (by decide) (by decide)) q219a q219c (g := (mkF m 110 #[.val (.int x0), .val (.int x1), .val (.int x2), .val (.int x3), .val (.int x4), .val (.ref b1), .val (.ref b20), .val (.int (0 : Int32)), .val (.int (3 : Int32)), .val (.ref b192), .unset] [(.ref b192)])) rfl (by rw [hml]; rfl) (Steps.refl _) (argsL := []) (rest := []) (lenOf pd_7 rfl) rfl (by show 2 * 0 + _ ≤ _; exact Nat.le_of_eq rfl) (hb hby at_110) (fun _ _ => ⟨rfl, e210, (by decide : 4 + 2 ≤ _), (by decide : 18 + 8 ≤ _)⟩)
      dsimp only [Pt.U, Pt.locs, Pt.cells, Pt.slots] at X219 l219 y219 z219 st219 hQ219
      subst y219 z219
      obtain ⟨r_219, b_219, kb_219, vd_219, rfl, N219q, K219, pq219_0, pq219_1, pq219_2, pq219_3, pq219_4, pq219_5, pq219_6, pq219_7⟩ := hQ219
      have N219 := Fr.app N210 N219q
      rw [← l219] at N219
      clear l219
      obtain ⟨h219, e219⟩ : ∃ z, T219.heap = z := ⟨_, rfl⟩
      rw [e219] at K219 pq219_3 pq219_4 pq219_5 pq219_6
      have ne220 : b1 ≠ r_219 := Nat.ne_of_lt (Nat.lt_of_lt_of_le f211.lt pq219_0)
      have ne221 : b20 ≠ r_219 := Nat.ne_of_lt (Nat.lt_of_lt_of_le f212.lt pq219_0)
      have ne222 : b_27 ≠ r_219 := Nat.ne_of_lt (Nat.lt_of_lt_of_le f215.lt pq219_0)
      have ne223 : b192 ≠ r_219 := Nat.ne_of_lt (Nat.lt_of_lt_of_le f216.lt pq219_0)
      have g_r_219 : n0 ≤ r_219 := Nat.le_trans Z218 pq219_0
      have ne224 : b1 ≠ b_219 := Nat.ne_of_lt (Nat.lt_of_lt_of_le f211.lt pq219_1)
      have ne225 : b20 ≠ b_219 := Nat.ne_of_lt (Nat.lt_of_lt_of_le f212.lt pq219_1)
      have ne226 : b_27 ≠ b_219 := Nat.ne_of_lt (Nat.lt_of_lt_of_le f215.lt pq219_1)
      have ne227 : b192 ≠ b_219 := Nat.ne_of_lt (Nat.lt_of_lt_of_le f216.lt pq219_1)
      have g_b_219 : n0 ≤ b_219 := Nat.le_trans Z218 pq219_1
      have f228 := f211.keep K219 nin0
      have f229 := f212.keep K219
      have f230 := f213.keep K219 nin0
      have f231 := f214.keep K219 nin0
      have f232 := f215.keep K219 nin0
      have f233 := f216.keep K219
      have f234 := pq210_0.keep K219 nin0
      have f235 := pq210_1.keep K219 nin0
      have f236 := pq210_2.keep K219 nin0
      have O237 := O217.keep K219 all0
      have Z238 : n0 ≤ h219.size := Nat.le_trans Z218 K219.1
      refine own_stepW (st' := T219.setTop (mkF m 113 #[.val (.int x0), .val (.int x1), .val (.int x2), .val (.int x3), .val (.int x4), .val (.ref b1), .val (.ref b20), .val (.int (0 : Int32)), .val (.int (3 : Int32)), .val (.ref b192), .unset] [(.ref r_219)])) (fun t k => st219.trans k) ?_
      have hlen219 : (((0 : Int32) + ((3 : Int32) - (0 : Int32))) - (0 : Int32)) = (3 : Int32) := by decide
      rw [hlen219] at pq219_6
      refine own_stepW (st' := T219.setTop (mkF m 115 #[.val (.int x0), .val (.int x1), .val (.int x2), .val (.int x3), .val (.int x4), .val (.ref b1), .val (.ref b20), .val (.int (0 : Int32)), .val (.int (3 : Int32)), .val (.ref b192), .val (.ref r_219)] [])) (fun t k => XS.astore X219.here hx rfl (hb hby at_113) rfl rfl (l' := #[.val (.int x0), .val (.int x1), .val (.int x2), .val (.int x3), .val (.int x4), .val (.ref b1), .val (.ref b20), .val (.int (0 : Int32)), .val (.int (3 : Int32)), .val (.ref b192), .val (.ref r_219)]) rfl k) ?_
      refine own_stepW (st' := T219.setTop (mkF m 117 #[.val (.int x0), .val (.int x1), .val (.int x2), .val (.int x3), .val (.int x4), .val (.ref b1), .val (.ref b20), .val (.int (0 : Int32)), .val (.int (3 : Int32)), .val (.ref b192), .val (.ref r_219)] [(.ref r_219)])) (fun t k => XS.aload X219.here hx rfl (hb hby at_115) rfl rfl k) ?_
      refine own_stepW (st' := T219.setTop (mkF m 122 #[.val (.int x0), .val (.int x1), .val (.int x2), .val (.int x3), .val (.int x4), .val (.ref b1), .val (.ref b20), .val (.int (0 : Int32)), .val (.int (3 : Int32)), .val (.ref b192), .val (.ref r_219)] [])) (fun t k => XS.ifnonnullYes X219.here hx rfl (pc0 := 117) (pc' := 122) rfl (hb hby at_117) rfl (by decide) (by decide) k) ?_
      refine own_stepW (st' := T219.setTop (mkF m 124 #[.val (.int x0), .val (.int x1), .val (.int x2), .val (.int x3), .val (.int x4), .val (.ref b1), .val (.ref b20), .val (.int (0 : Int32)), .val (.int (3 : Int32)), .val (.ref b192), .val (.ref r_219)] [(.ref r_219)])) (fun t k => XS.aload X219.here hx rfl (hb hby at_122) rfl rfl k) ?_
      obtain ⟨cq239, kq239, q239a, q239b, q239c⟩ := isOf hZ e219 pq219_3
      obtain ⟨_, _, ⟨T239, L239, k239, n239⟩, -, X239, ⟨Lc239, hQ239, l239, y239, z239⟩, st239⟩ := X219.virtualBack hx (y := (⟨"java/lang/String", "length", "()I"⟩ : MethodName)) (z := (⟨"java/lang/String", "length", "()I"⟩ : MethodName)) hown (mvT hZ (own_h hw 93 rfl)) (mvT hZ (own_h hw 64 rfl)) (notFace_of_selects (args := #[]) (mvT hZ (own_h hw 66 rfl))) (mvT hZ (own_h hw 66 rfl)) (mvT hZ (own_h hw 65 rfl)) (by decide) (backOf (W := 0) (rm10 l Z a0 hw [] r_219 b_219 kb_219 (3 : Int32) vd_219 cs h219 n0 Z238 O237 pq219_3 pq219_4 pq219_5 pq219_6 p_0 p_1) hZ (own_h hw 67 rfl) (own_h hw 3 rfl) (by decide) (by decide)) q239a q239c (g := (mkF m 124 #[.val (.int x0), .val (.int x1), .val (.int x2), .val (.int x3), .val (.int x4), .val (.ref b1), .val (.ref b20), .val (.int (0 : Int32)), .val (.int (3 : Int32)), .val (.ref b192), .val (.ref r_219)] [(.ref r_219)])) rfl (by rw [hml]; rfl) (Steps.refl _) (argsL := []) (rest := []) (lenOf pd_9 rfl) rfl (by show 2 * 0 + _ ≤ _; exact Nat.le_of_eq rfl) (hb hby at_124) (fun _ _ => ⟨rfl, e219, (by decide : 6 + 0 ≤ _), (by decide : 26 + 0 ≤ _)⟩)
      dsimp only [Pt.U, Pt.locs, Pt.cells, Pt.slots] at X239 l239 y239 z239 st239 hQ239
      subst y239 z239
      obtain ⟨rfl, N239q, e239⟩ := hQ239
      have N239 := Fr.app N219 N239q
      rw [← l239] at N239
      clear l239
      refine own_stepW (st' := T239.setTop (mkF m 127 #[.val (.int x0), .val (.int x1), .val (.int x2), .val (.int x3), .val (.int x4), .val (.ref b1), .val (.ref b20), .val (.int (0 : Int32)), .val (.int (3 : Int32)), .val (.ref b192), .val (.ref r_219)] [(.int (3 : Int32))])) (fun t k => st239.trans k) ?_
      refine own_stepW (st' := T239.setTop (mkF m 129 #[.val (.int x0), .val (.int x1), .val (.int x2), .val (.int x3), .val (.int x4), .val (.ref b1), .val (.ref b20), .val (.int (0 : Int32)), .val (.int (3 : Int32)), .val (.ref b192), .val (.ref r_219)] [(.int (3 : Int32)), (.int (3 : Int32))])) (fun t k => XS.iload X239.here hx rfl (hb hby at_127) rfl k) ?_
      refine own_stepW (st' := T239.setTop (mkF m 131 #[.val (.int x0), .val (.int x1), .val (.int x2), .val (.int x3), .val (.int x4), .val (.ref b1), .val (.ref b20), .val (.int (0 : Int32)), .val (.int (3 : Int32)), .val (.ref b192), .val (.ref r_219)] [(.int (0 : Int32)), (.int (3 : Int32)), (.int (3 : Int32))])) (fun t k => XS.iload X239.here hx rfl (hb hby at_129) rfl k) ?_
      refine own_stepW (st' := T239.setTop (mkF m 132 #[.val (.int x0), .val (.int x1), .val (.int x2), .val (.int x3), .val (.int x4), .val (.ref b1), .val (.ref b20), .val (.int (0 : Int32)), .val (.int (3 : Int32)), .val (.ref b192), .val (.ref r_219)] [(.int (3 : Int32)), (.int (3 : Int32))])) (fun t k => XS.isub X239.here hx rfl (hb hby at_131) rfl k) ?_
      refine own_stepW (st' := T239.setTop (mkF m 137 #[.val (.int x0), .val (.int x1), .val (.int x2), .val (.int x3), .val (.int x4), .val (.ref b1), .val (.ref b20), .val (.int (0 : Int32)), .val (.int (3 : Int32)), .val (.ref b192), .val (.ref r_219)] [])) (fun t k => XS.icmpYes X239.here hx rfl (pc0 := 132) (pc' := 137) rfl (hb hby at_132) rfl (teq (by decide)).1 (by decide) (by decide) k) ?_
      refine own_stepW (st' := T239.setTop (mkF m 139 #[.val (.int x0), .val (.int x1), .val (.int x2), .val (.int x3), .val (.int x4), .val (.ref b1), .val (.ref b20), .val (.int (0 : Int32)), .val (.int (3 : Int32)), .val (.ref b192), .val (.ref r_219)] [(.ref r_219)])) (fun t k => XS.aload X239.here hx rfl (hb hby at_137) rfl rfl k) ?_
      refine own_stepW (st' := T239.setTop (mkF m 141 #[.val (.int x0), .val (.int x1), .val (.int x2), .val (.int x3), .val (.int x4), .val (.ref b1), .val (.ref b20), .val (.int (0 : Int32)), .val (.int (3 : Int32)), .val (.ref b192), .val (.ref r_219)] [(.ref b1), (.ref r_219)])) (fun t k => XS.aload X239.here hx rfl (hb hby at_139) rfl rfl k) ?_
      refine own_stepW (st' := T239.setTop (mkF m 143 #[.val (.int x0), .val (.int x1), .val (.int x2), .val (.int x3), .val (.int x4), .val (.ref b1), .val (.ref b20), .val (.int (0 : Int32)), .val (.int (3 : Int32)), .val (.ref b192), .val (.ref r_219)] [(.int (0 : Int32)), (.ref b1), (.ref r_219)])) (fun t k => XS.iload X239.here hx rfl (hb hby at_141) rfl k) ?_
      refine own_stepW (st' := T239.setTop (mkF m 145 #[.val (.int x0), .val (.int x1), .val (.int x2), .val (.int x3), .val (.int x4), .val (.ref b1), .val (.ref b20), .val (.int (0 : Int32)), .val (.int (3 : Int32)), .val (.ref b192), .val (.ref r_219)] [(.int (3 : Int32)), (.int (0 : Int32)), (.ref b1), (.ref r_219)])) (fun t k => XS.iload X239.here hx rfl (hb hby at_143) rfl k) ?_
      refine own_stepW (st' := T239.setTop (mkF m 146 #[.val (.int x0), .val (.int x1), .val (.int x2), .val (.int x3), .val (.int x4), .val (.ref b1), .val (.ref b20), .val (.int (0 : Int32)), .val (.int (3 : Int32)), .val (.ref b192), .val (.ref r_219)] [(.int (0 : Int32)), (.int (3 : Int32)), (.int (0 : Int32)), (.ref b1), (.ref r_219)])) (fun t k => XS.iconst X239.here hx rfl (hb hby at_145) k) ?_
      obtain ⟨_, _, ⟨T240, L240, k240, n240⟩, -, X240, ⟨Lc240, hQ240, l240, y240, z240⟩, st240⟩ := Jvm.LawKit.callS X239 hx (y := (⟨"com/example/lookahead/lookahead/runtime/TokenTextPinLaw", "charOk", "(Ljava/lang/String;[CIII)Z"⟩ : MethodName)) hown (mvT hZ (own_h hw 94 rfl)) (mvT hZ (own_h hw 95 rfl)) (mvT hZ (own_h hw 96 rfl)) (mvT hZ (own_h hw 97 rfl)) (by decide) (backOf (W := 0) (rmK2 l Z a0 hw [] r_219 b1 (0 : Int32) (3 : Int32) (0 : Int32) b_219 kb_219 (3 : Int32) vd_219 k1 [(.int q0), (.int q1), (.int q2), (.int q3)] ((q0.toInt8.toInt32).toInt8.toInt32) q0 cs fm h219 n0 Z238 O237 pq219_3 pq219_4 pq219_5 pq219_6 f228 (by decide) (by decide) (by decide) ((pq219_7 _).trans rfl) (own_byte b_q0) (own_nc b_q0) ⟨by decide, by decide⟩ rfl p_0 p_1 p_2 p_3) hZ (own_h hw 97 rfl) (own_h hw 96 rfl) (by decide) (by decide)) (g := (mkF m 146 #[.val (.int x0), .val (.int x1), .val (.int x2), .val (.int x3), .val (.int x4), .val (.ref b1), .val (.ref b20), .val (.int (0 : Int32)), .val (.int (3 : Int32)), .val (.ref b192), .val (.ref r_219)] [(.int (0 : Int32)), (.int (3 : Int32)), (.int (0 : Int32)), (.ref b1), (.ref r_219)])) rfl (by rw [hml]; rfl) (argsL := [(.ref r_219), (.ref b1), (.int (0 : Int32)), (.int (3 : Int32)), (.int (0 : Int32))]) (rest := []) (lenOf pd_15 rfl) rfl (by show 2 * 0 + _ ≤ _; exact Nat.le_of_eq rfl) (hb hby at_146) (fun _ _ => ⟨rfl, e239, (by decide : 6 + 0 ≤ _), (by decide : 26 + 0 ≤ _)⟩)
      dsimp only [Pt.U, Pt.locs, Pt.cells, Pt.slots] at X240 l240 y240 z240 st240 hQ240
      subst y240 z240
      obtain ⟨rfl, N240q, e240⟩ := hQ240
      have N240 := Fr.app N239 N240q
      rw [← l240] at N240
      clear l240
      refine own_stepW (st' := T240.setTop (mkF m 149 #[.val (.int x0), .val (.int x1), .val (.int x2), .val (.int x3), .val (.int x4), .val (.ref b1), .val (.ref b20), .val (.int (0 : Int32)), .val (.int (3 : Int32)), .val (.ref b192), .val (.ref r_219)] [(.int (1 : Int32))])) st240 ?_
      refine own_stepW (st' := T240.setTop (mkF m 152 #[.val (.int x0), .val (.int x1), .val (.int x2), .val (.int x3), .val (.int x4), .val (.ref b1), .val (.ref b20), .val (.int (0 : Int32)), .val (.int (3 : Int32)), .val (.ref b192), .val (.ref r_219)] [])) (fun t k => XS.ifNo X240.here hx rfl (hb hby at_149) rfl ((if0 _ _).trans (feq (by decide)).1) k) ?_
      refine own_stepW (st' := T240.setTop (mkF m 154 #[.val (.int x0), .val (.int x1), .val (.int x2), .val (.int x3), .val (.int x4), .val (.ref b1), .val (.ref b20), .val (.int (0 : Int32)), .val (.int (3 : Int32)), .val (.ref b192), .val (.ref r_219)] [(.ref r_219)])) (fun t k => XS.aload X240.here hx rfl (hb hby at_152) rfl rfl k) ?_
      refine own_stepW (st' := T240.setTop (mkF m 156 #[.val (.int x0), .val (.int x1), .val (.int x2), .val (.int x3), .val (.int x4), .val (.ref b1), .val (.ref b20), .val (.int (0 : Int32)), .val (.int (3 : Int32)), .val (.ref b192), .val (.ref r_219)] [(.ref b1), (.ref r_219)])) (fun t k => XS.aload X240.here hx rfl (hb hby at_154) rfl rfl k) ?_
      refine own_stepW (st' := T240.setTop (mkF m 158 #[.val (.int x0), .val (.int x1), .val (.int x2), .val (.int x3), .val (.int x4), .val (.ref b1), .val (.ref b20), .val (.int (0 : Int32)), .val (.int (3 : Int32)), .val (.ref b192), .val (.ref r_219)] [(.int (0 : Int32)), (.ref b1), (.ref r_219)])) (fun t k => XS.iload X240.here hx rfl (hb hby at_156) rfl k) ?_
      refine own_stepW (st' := T240.setTop (mkF m 160 #[.val (.int x0), .val (.int x1), .val (.int x2), .val (.int x3), .val (.int x4), .val (.ref b1), .val (.ref b20), .val (.int (0 : Int32)), .val (.int (3 : Int32)), .val (.ref b192), .val (.ref r_219)] [(.int (3 : Int32)), (.int (0 : Int32)), (.ref b1), (.ref r_219)])) (fun t k => XS.iload X240.here hx rfl (hb hby at_158) rfl k) ?_
      refine own_stepW (st' := T240.setTop (mkF m 161 #[.val (.int x0), .val (.int x1), .val (.int x2), .val (.int x3), .val (.int x4), .val (.ref b1), .val (.ref b20), .val (.int (0 : Int32)), .val (.int (3 : Int32)), .val (.ref b192), .val (.ref r_219)] [(.int (1 : Int32)), (.int (3 : Int32)), (.int (0 : Int32)), (.ref b1), (.ref r_219)])) (fun t k => XS.iconst X240.here hx rfl (hb hby at_160) k) ?_
      obtain ⟨_, _, ⟨T241, L241, k241, n241⟩, -, X241, ⟨Lc241, hQ241, l241, y241, z241⟩, st241⟩ := Jvm.LawKit.callS X240 hx (y := (⟨"com/example/lookahead/lookahead/runtime/TokenTextPinLaw", "charOk", "(Ljava/lang/String;[CIII)Z"⟩ : MethodName)) hown (mvT hZ (own_h hw 94 rfl)) (mvT hZ (own_h hw 95 rfl)) (mvT hZ (own_h hw 96 rfl)) (mvT hZ (own_h hw 97 rfl)) (by decide) (backOf (W := 0) (rmK2 l Z a0 hw [] r_219 b1 (0 : Int32) (3 : Int32) (1 : Int32) b_219 kb_219 (3 : Int32) vd_219 k1 [(.int q0), (.int q1), (.int q2), (.int q3)] ((q1.toInt8.toInt32).toInt8.toInt32) q1 cs fm h219 n0 Z238 O237 pq219_3 pq219_4 pq219_5 pq219_6 f228 (by decide) (by decide) (by decide) ((pq219_7 _).trans rfl) (own_byte b_q1) (own_nc b_q1) ⟨by decide, by decide⟩ rfl p_0 p_1 p_2 p_3) hZ (own_h hw 97 rfl) (own_h hw 96 rfl) (by decide) (by decide)) (g := (mkF m 161 #[.val (.int x0), .val (.int x1), .val (.int x2), .val (.int x3), .val (.int x4), .val (.ref b1), .val (.ref b20), .val (.int (0 : Int32)), .val (.int (3 : Int32)), .val (.ref b192), .val (.ref r_219)] [(.int (1 : Int32)), (.int (3 : Int32)), (.int (0 : Int32)), (.ref b1), (.ref r_219)])) rfl (by rw [hml]; rfl) (argsL := [(.ref r_219), (.ref b1), (.int (0 : Int32)), (.int (3 : Int32)), (.int (1 : Int32))]) (rest := []) (lenOf pd_15 rfl) rfl (by show 2 * 0 + _ ≤ _; exact Nat.le_of_eq rfl) (hb hby at_161) (fun _ _ => ⟨rfl, e240, (by decide : 6 + 0 ≤ _), (by decide : 26 + 0 ≤ _)⟩)
      dsimp only [Pt.U, Pt.locs, Pt.cells, Pt.slots] at X241 l241 y241 z241 st241 hQ241
      subst y241 z241
      obtain ⟨rfl, N241q, e241⟩ := hQ241
      have N241 := Fr.app N240 N241q
      rw [← l241] at N241
      clear l241
      refine own_stepW (st' := T241.setTop (mkF m 164 #[.val (.int x0), .val (.int x1), .val (.int x2), .val (.int x3), .val (.int x4), .val (.ref b1), .val (.ref b20), .val (.int (0 : Int32)), .val (.int (3 : Int32)), .val (.ref b192), .val (.ref r_219)] [(.int (1 : Int32))])) st241 ?_
      refine own_stepW (st' := T241.setTop (mkF m 167 #[.val (.int x0), .val (.int x1), .val (.int x2), .val (.int x3), .val (.int x4), .val (.ref b1), .val (.ref b20), .val (.int (0 : Int32)), .val (.int (3 : Int32)), .val (.ref b192), .val (.ref r_219)] [])) (fun t k => XS.ifNo X241.here hx rfl (hb hby at_164) rfl ((if0 _ _).trans (feq (by decide)).1) k) ?_
      refine own_stepW (st' := T241.setTop (mkF m 169 #[.val (.int x0), .val (.int x1), .val (.int x2), .val (.int x3), .val (.int x4), .val (.ref b1), .val (.ref b20), .val (.int (0 : Int32)), .val (.int (3 : Int32)), .val (.ref b192), .val (.ref r_219)] [(.ref r_219)])) (fun t k => XS.aload X241.here hx rfl (hb hby at_167) rfl rfl k) ?_
      refine own_stepW (st' := T241.setTop (mkF m 171 #[.val (.int x0), .val (.int x1), .val (.int x2), .val (.int x3), .val (.int x4), .val (.ref b1), .val (.ref b20), .val (.int (0 : Int32)), .val (.int (3 : Int32)), .val (.ref b192), .val (.ref r_219)] [(.ref b1), (.ref r_219)])) (fun t k => XS.aload X241.here hx rfl (hb hby at_169) rfl rfl k) ?_
      refine own_stepW (st' := T241.setTop (mkF m 173 #[.val (.int x0), .val (.int x1), .val (.int x2), .val (.int x3), .val (.int x4), .val (.ref b1), .val (.ref b20), .val (.int (0 : Int32)), .val (.int (3 : Int32)), .val (.ref b192), .val (.ref r_219)] [(.int (0 : Int32)), (.ref b1), (.ref r_219)])) (fun t k => XS.iload X241.here hx rfl (hb hby at_171) rfl k) ?_
      refine own_stepW (st' := T241.setTop (mkF m 175 #[.val (.int x0), .val (.int x1), .val (.int x2), .val (.int x3), .val (.int x4), .val (.ref b1), .val (.ref b20), .val (.int (0 : Int32)), .val (.int (3 : Int32)), .val (.ref b192), .val (.ref r_219)] [(.int (3 : Int32)), (.int (0 : Int32)), (.ref b1), (.ref r_219)])) (fun t k => XS.iload X241.here hx rfl (hb hby at_173) rfl k) ?_
      refine own_stepW (st' := T241.setTop (mkF m 176 #[.val (.int x0), .val (.int x1), .val (.int x2), .val (.int x3), .val (.int x4), .val (.ref b1), .val (.ref b20), .val (.int (0 : Int32)), .val (.int (3 : Int32)), .val (.ref b192), .val (.ref r_219)] [(.int (2 : Int32)), (.int (3 : Int32)), (.int (0 : Int32)), (.ref b1), (.ref r_219)])) (fun t k => XS.iconst X241.here hx rfl (hb hby at_175) k) ?_
      obtain ⟨_, _, ⟨T242, L242, k242, n242⟩, -, X242, ⟨Lc242, hQ242, l242, y242, z242⟩, st242⟩ := Jvm.LawKit.callS X241 hx (y := (⟨"com/example/lookahead/lookahead/runtime/TokenTextPinLaw", "charOk", "(Ljava/lang/String;[CIII)Z"⟩ : MethodName)) hown (mvT hZ (own_h hw 94 rfl)) (mvT hZ (own_h hw 95 rfl)) (mvT hZ (own_h hw 96 rfl)) (mvT hZ (own_h hw 97 rfl)) (by decide) (backOf (W := 0) (rmK2 l Z a0 hw [] r_219 b1 (0 : Int32) (3 : Int32) (2 : Int32) b_219 kb_219 (3 : Int32) vd_219 k1 [(.int q0), (.int q1), (.int q2), (.int q3)] ((q2.toInt8.toInt32).toInt8.toInt32) q2 cs fm h219 n0 Z238 O237 pq219_3 pq219_4 pq219_5 pq219_6 f228 (by decide) (by decide) (by decide) ((pq219_7 _).trans rfl) (own_byte b_q2) (own_nc b_q2) ⟨by decide, by decide⟩ rfl p_0 p_1 p_2 p_3) hZ (own_h hw 97 rfl) (own_h hw 96 rfl) (by decide) (by decide)) (g := (mkF m 176 #[.val (.int x0), .val (.int x1), .val (.int x2), .val (.int x3), .val (.int x4), .val (.ref b1), .val (.ref b20), .val (.int (0 : Int32)), .val (.int (3 : Int32)), .val (.ref b192), .val (.ref r_219)] [(.int (2 : Int32)), (.int (3 : Int32)), (.int (0 : Int32)), (.ref b1), (.ref r_219)])) rfl (by rw [hml]; rfl) (argsL := [(.ref r_219), (.ref b1), (.int (0 : Int32)), (.int (3 : Int32)), (.int (2 : Int32))]) (rest := []) (lenOf pd_15 rfl) rfl (by show 2 * 0 + _ ≤ _; exact Nat.le_of_eq rfl) (hb hby at_176) (fun _ _ => ⟨rfl, e241, (by decide : 6 + 0 ≤ _), (by decide : 26 + 0 ≤ _)⟩)
      dsimp only [Pt.U, Pt.locs, Pt.cells, Pt.slots] at X242 l242 y242 z242 st242 hQ242
      subst y242 z242
      obtain ⟨rfl, N242q, e242⟩ := hQ242
      have N242 := Fr.app N241 N242q
      rw [← l242] at N242
      clear l242
      refine own_stepW (st' := T242.setTop (mkF m 179 #[.val (.int x0), .val (.int x1), .val (.int x2), .val (.int x3), .val (.int x4), .val (.ref b1), .val (.ref b20), .val (.int (0 : Int32)), .val (.int (3 : Int32)), .val (.ref b192), .val (.ref r_219)] [(.int (1 : Int32))])) st242 ?_
      refine own_stepW (st' := T242.setTop (mkF m 182 #[.val (.int x0), .val (.int x1), .val (.int x2), .val (.int x3), .val (.int x4), .val (.ref b1), .val (.ref b20), .val (.int (0 : Int32)), .val (.int (3 : Int32)), .val (.ref b192), .val (.ref r_219)] [])) (fun t k => XS.ifNo X242.here hx rfl (hb hby at_179) rfl ((if0 _ _).trans (feq (by decide)).1) k) ?_
      refine own_stepW (st' := T242.setTop (mkF m 184 #[.val (.int x0), .val (.int x1), .val (.int x2), .val (.int x3), .val (.int x4), .val (.ref b1), .val (.ref b20), .val (.int (0 : Int32)), .val (.int (3 : Int32)), .val (.ref b192), .val (.ref r_219)] [(.ref r_219)])) (fun t k => XS.aload X242.here hx rfl (hb hby at_182) rfl rfl k) ?_
      refine own_stepW (st' := T242.setTop (mkF m 186 #[.val (.int x0), .val (.int x1), .val (.int x2), .val (.int x3), .val (.int x4), .val (.ref b1), .val (.ref b20), .val (.int (0 : Int32)), .val (.int (3 : Int32)), .val (.ref b192), .val (.ref r_219)] [(.ref b1), (.ref r_219)])) (fun t k => XS.aload X242.here hx rfl (hb hby at_184) rfl rfl k) ?_
      refine own_stepW (st' := T242.setTop (mkF m 188 #[.val (.int x0), .val (.int x1), .val (.int x2), .val (.int x3), .val (.int x4), .val (.ref b1), .val (.ref b20), .val (.int (0 : Int32)), .val (.int (3 : Int32)), .val (.ref b192), .val (.ref r_219)] [(.int (0 : Int32)), (.ref b1), (.ref r_219)])) (fun t k => XS.iload X242.here hx rfl (hb hby at_186) rfl k) ?_
      refine own_stepW (st' := T242.setTop (mkF m 190 #[.val (.int x0), .val (.int x1), .val (.int x2), .val (.int x3), .val (.int x4), .val (.ref b1), .val (.ref b20), .val (.int (0 : Int32)), .val (.int (3 : Int32)), .val (.ref b192), .val (.ref r_219)] [(.int (3 : Int32)), (.int (0 : Int32)), (.ref b1), (.ref r_219)])) (fun t k => XS.iload X242.here hx rfl (hb hby at_188) rfl k) ?_
      refine own_stepW (st' := T242.setTop (mkF m 191 #[.val (.int x0), .val (.int x1), .val (.int x2), .val (.int x3), .val (.int x4), .val (.ref b1), .val (.ref b20), .val (.int (0 : Int32)), .val (.int (3 : Int32)), .val (.ref b192), .val (.ref r_219)] [(.int (3 : Int32)), (.int (3 : Int32)), (.int (0 : Int32)), (.ref b1), (.ref r_219)])) (fun t k => XS.iconst X242.here hx rfl (hb hby at_190) k) ?_
      obtain ⟨_, _, ⟨T243, L243, k243, n243⟩, -, X243, ⟨Lc243, hQ243, l243, y243, z243⟩, st243⟩ := Jvm.LawKit.callS X242 hx (y := (⟨"com/example/lookahead/lookahead/runtime/TokenTextPinLaw", "charOk", "(Ljava/lang/String;[CIII)Z"⟩ : MethodName)) hown (mvT hZ (own_h hw 94 rfl)) (mvT hZ (own_h hw 95 rfl)) (mvT hZ (own_h hw 96 rfl)) (mvT hZ (own_h hw 97 rfl)) (by decide) (backOf (W := 0) (rmK1 l Z a0 hw [] r_219 b1 (0 : Int32) (3 : Int32) (3 : Int32) h219 n0 Z238 (by decide)) hZ (own_h hw 97 rfl) (own_h hw 96 rfl) (by decide) (by decide)) (g := (mkF m 191 #[.val (.int x0), .val (.int x1), .val (.int x2), .val (.int x3), .val (.int x4), .val (.ref b1), .val (.ref b20), .val (.int (0 : Int32)), .val (.int (3 : Int32)), .val (.ref b192), .val (.ref r_219)] [(.int (3 : Int32)), (.int (3 : Int32)), (.int (0 : Int32)), (.ref b1), (.ref r_219)])) rfl (by rw [hml]; rfl) (argsL := [(.ref r_219), (.ref b1), (.int (0 : Int32)), (.int (3 : Int32)), (.int (3 : Int32))]) (rest := []) (lenOf pd_15 rfl) rfl (by show 2 * 0 + _ ≤ _; exact Nat.le_of_eq rfl) (hb hby at_191) (fun _ _ => ⟨rfl, e242, (by decide : 6 + 0 ≤ _), (by decide : 26 + 0 ≤ _)⟩)
      dsimp only [Pt.U, Pt.locs, Pt.cells, Pt.slots] at X243 l243 y243 z243 st243 hQ243
      subst y243 z243
      obtain ⟨rfl, N243q, e243⟩ := hQ243
      have N243 := Fr.app N242 N243q
      rw [← l243] at N243
      clear l243
      refine own_stepW (st' := T243.setTop (mkF m 194 #[.val (.int x0), .val (.int x1), .val (.int x2), .val (.int x3), .val (.int x4), .val (.ref b1), .val (.ref b20), .val (.int (0 : Int32)), .val (.int (3 : Int32)), .val (.ref b192), .val (.ref r_219)] [(.int (1 : Int32))])) st243 ?_
      refine own_stepW (st' := T243.setTop (mkF m 197 #[.val (.int x0), .val (.int x1), .val (.int x2), .val (.int x3), .val (.int x4), .val (.ref b1), .val (.ref b20), .val (.int (0 : Int32)), .val (.int (3 : Int32)), .val (.ref b192), .val (.ref r_219)] [])) (fun t k => XS.ifNo X243.here hx rfl (hb hby at_194) rfl ((if0 _ _).trans (feq (by decide)).1) k) ?_
      refine own_stepW (st' := T243.setTop (mkF m 198 #[.val (.int x0), .val (.int x1), .val (.int x2), .val (.int x3), .val (.int x4), .val (.ref b1), .val (.ref b20), .val (.int (0 : Int32)), .val (.int (3 : Int32)), .val (.ref b192), .val (.ref r_219)] [(.int (1 : Int32))])) (fun t k => XS.iconst X243.here hx rfl (hb hby at_197) k) ?_
      refine own_stepW (st' := T243.setTop (mkF m 202 #[.val (.int x0), .val (.int x1), .val (.int x2), .val (.int x3), .val (.int x4), .val (.ref b1), .val (.ref b20), .val (.int (0 : Int32)), .val (.int (3 : Int32)), .val (.ref b192), .val (.ref r_219)] [(.int (1 : Int32))])) (fun t k => XS.goto X243.here hx rfl (pc0 := 198) (pc' := 202) rfl (hb hby at_198) (by decide) (by decide) k) ?_
      refine own_toW <| own_ret X243 Bd.notSynchronized (some (.int (1 : Int32))) (fun h => by rw [Bd.returns] at h; cases h) (fun fs hr => retN X243 hx (t := .boolean) Bd.returns (by simp) (hb hby at_202) hr) ?_ (by decide) (by decide)
      rw [e243]
      exact ⟨rfl, N243⟩
    · rw [hn43]
      refine own_stepW (st' := T27.setTop (mkF m 85 #[.val (.int x0), .val (.int x1), .val (.int x2), .val (.int x3), .val (.int x4), .val (.ref b1), .val (.ref b20), .val (.int (0 : Int32)), .unset, .unset, .unset] [(.int (4 : Int32))])) (fun t k => XS.iadd X27.here hx rfl (hb hby at_84) rfl k) ?_
      refine own_stepW (st' := T27.setTop (mkF m 87 #[.val (.int x0), .val (.int x1), .val (.int x2), .val (.int x3), .val (.int x4), .val (.ref b1), .val (.ref b20), .val (.int (0 : Int32)), .val (.int (4 : Int32)), .unset, .unset] [])) (fun t k => XS.istore X27.here hx rfl (hb hby at_85) rfl (l' := #[.val (.int x0), .val (.int x1), .val (.int x2), .val (.int x3), .val (.int x4), .val (.ref b1), .val (.ref b20), .val (.int (0 : Int32)), .val (.int (4 : Int32)), .unset, .unset]) rfl k) ?_
      obtain ⟨T244, h244, X244, e244, E244, A244, D244, -, st244⟩ := newO X27 hx hZ hown (own_h hw 31 rfl) (own_h hw 32 rfl) (own_h hw 33 rfl) e27 (g := (mkF m 87 #[.val (.int x0), .val (.int x1), .val (.int x2), .val (.int x3), .val (.int x4), .val (.ref b1), .val (.ref b20), .val (.int (0 : Int32)), .val (.int (4 : Int32)), .unset, .unset] [])) rfl (hb hby at_87) (by decide) (by decide)
      obtain ⟨b244, g244⟩ : ∃ z, z = h27.size := ⟨_, rfl⟩
      rw [← g244] at A244 D244 st244
      have ne245 : b1 ≠ b244 := Nat.ne_of_lt (Nat.lt_of_lt_of_le f30.lt (Nat.le_of_eq g244.symm))
      have ne246 : b20 ≠ b244 := Nat.ne_of_lt (Nat.lt_of_lt_of_le f31.lt (Nat.le_of_eq g244.symm))
      have ne247 : b_27 ≠ b244 := Nat.ne_of_lt (Nat.lt_of_lt_of_le pq27_3.lt (Nat.le_of_eq g244.symm))
      have g_b244 : n0 ≤ b244 := Nat.le_trans Z33 (Nat.le_of_eq g244.symm)
      have f248 := f30.ext E244
      have f249 := f31.ext E244
      have f250 := pq27_1.ext E244
      have f251 := pq27_2.ext E244
      have f252 := pq27_3.ext E244
      have O253 := O32.ext E244
      have Z254 : n0 ≤ h244.size := Nat.le_trans Z33 E244.1
      have f255 : Fld Z h244 b244 "com/example/lookahead/lookahead/runtime/Token" "terminal" "Lcom/example/lookahead/lookahead/core/Terminal;" .null := D244 (Or.inr (own_h hw 42 rfl)) (ty := (.object "com/example/lookahead/lookahead/core/Terminal")) (by decide)
      have f256 : Fld Z h244 b244 "com/example/lookahead/lookahead/runtime/Token" "input" "Ljava/lang/String;" .null := D244 (Or.inr (own_h hw 44 rfl)) (ty := (.object "java/lang/String")) (by decide)
      have f257 : Fld Z h244 b244 "com/example/lookahead/lookahead/runtime/Token" "start" "I" (.int (0 : Int32)) := D244 (Or.inr (own_h hw 46 rfl)) (ty := .int) (by decide)
      have f258 : Fld Z h244 b244 "com/example/lookahead/lookahead/runtime/Token" "end" "I" (.int (0 : Int32)) := D244 (Or.inr (own_h hw 48 rfl)) (ty := .int) (by decide)
      have f259 : Fld Z h244 b244 "com/example/lookahead/lookahead/runtime/Token" "line" "I" (.int (0 : Int32)) := D244 (Or.inr (own_h hw 50 rfl)) (ty := .int) (by decide)
      have f260 : Fld Z h244 b244 "com/example/lookahead/lookahead/runtime/Token" "column" "I" (.int (0 : Int32)) := D244 (Or.inr (own_h hw 52 rfl)) (ty := .int) (by decide)
      refine own_stepW (st' := T244.setTop (mkF m 90 #[.val (.int x0), .val (.int x1), .val (.int x2), .val (.int x3), .val (.int x4), .val (.ref b1), .val (.ref b20), .val (.int (0 : Int32)), .val (.int (4 : Int32)), .unset, .unset] [(.ref b244)])) st244 ?_
      refine own_stepW (st' := T244.setTop (mkF m 91 #[.val (.int x0), .val (.int x1), .val (.int x2), .val (.int x3), .val (.int x4), .val (.ref b1), .val (.ref b20), .val (.int (0 : Int32)), .val (.int (4 : Int32)), .unset, .unset] [(.ref b244), (.ref b244)])) (fun t k => XS.dup X244.here hx rfl (hb hby at_90) rfl rfl k) ?_
      obtain ⟨T261, X261, e261, st261⟩ := getS2 X244 hx hZ hown (host := "") (Or.inl (own_h hw 34 rfl)) Via.refl e244 (p_4.ext O253.2) (g := (mkF m 91 #[.val (.int x0), .val (.int x1), .val (.int x2), .val (.int x3), .val (.int x4), .val (.ref b1), .val (.ref b20), .val (.int (0 : Int32)), .val (.int (4 : Int32)), .unset, .unset] [(.ref b244), (.ref b244)])) rfl (hb hby at_91)
      refine own_stepW (st' := T261.setTop (mkF m 94 #[.val (.int x0), .val (.int x1), .val (.int x2), .val (.int x3), .val (.int x4), .val (.ref b1), .val (.ref b20), .val (.int (0 : Int32)), .val (.int (4 : Int32)), .unset, .unset] [(.ref tm), (.ref b244), (.ref b244)])) st261 ?_
      refine own_stepW (st' := T261.setTop (mkF m 96 #[.val (.int x0), .val (.int x1), .val (.int x2), .val (.int x3), .val (.int x4), .val (.ref b1), .val (.ref b20), .val (.int (0 : Int32)), .val (.int (4 : Int32)), .unset, .unset] [(.ref b20), (.ref tm), (.ref b244), (.ref b244)])) (fun t k => XS.aload X261.here hx rfl (hb hby at_94) rfl rfl k) ?_
      refine own_stepW (st' := T261.setTop (mkF m 98 #[.val (.int x0), .val (.int x1), .val (.int x2), .val (.int x3), .val (.int x4), .val (.ref b1), .val (.ref b20), .val (.int (0 : Int32)), .val (.int (4 : Int32)), .unset, .unset] [(.int (0 : Int32)), (.ref b20), (.ref tm), (.ref b244), (.ref b244)])) (fun t k => XS.iload X261.here hx rfl (hb hby at_96) rfl k) ?_
      refine own_stepW (st' := T261.setTop (mkF m 100 #[.val (.int x0), .val (.int x1), .val (.int x2), .val (.int x3), .val (.int x4), .val (.ref b1), .val (.ref b20), .val (.int (0 : Int32)), .val (.int (4 : Int32)), .unset, .unset] [(.int (4 : Int32)), (.int (0 : Int32)), (.ref b20), (.ref tm), (.ref b244), (.ref b244)])) (fun t k => XS.iload X261.here hx rfl (hb hby at_98) rfl k) ?_
      refine own_stepW (st' := T261.setTop (mkF m 101 #[.val (.int x0), .val (.int x1), .val (.int x2), .val (.int x3), .val (.int x4), .val (.ref b1), .val (.ref b20), .val (.int (0 : Int32)), .val (.int (4 : Int32)), .unset, .unset] [(.int x3), (.int (4 : Int32)), (.int (0 : Int32)), (.ref b20), (.ref tm), (.ref b244), (.ref b244)])) (fun t k => XS.iloadN X261.here hx rfl (hb hby at_100) rfl k) ?_
      refine own_stepW (st' := T261.setTop (mkF m 103 #[.val (.int x0), .val (.int x1), .val (.int x2), .val (.int x3), .val (.int x4), .val (.ref b1), .val (.ref b20), .val (.int (0 : Int32)), .val (.int (4 : Int32)), .unset, .unset] [(.int x4), (.int x3), (.int (4 : Int32)), (.int (0 : Int32)), (.ref b20), (.ref tm), (.ref b244), (.ref b244)])) (fun t k => XS.iload X261.here hx rfl (hb hby at_101) rfl k) ?_
      obtain ⟨_, _, ⟨T262, L262, k262, n262⟩, -, X262, ⟨Lc262, hQ262, l262, y262, z262⟩, st262⟩ := X261.specialBack hx (y := (⟨"com/example/lookahead/lookahead/runtime/Token", "<init>", "(Lcom/example/lookahead/lookahead/core/Terminal;Ljava/lang/String;IIII)V"⟩ : MethodName)) rfl hown (mvT hZ (own_h hw 37 rfl)) (mvT hZ (own_h hw 38 rfl)) (mvT hZ (own_h hw 39 rfl)) (by decide) (backOf (W := 1) (rm7 l Z a0 hw [] b244 tm b20 (0 : Int32) (4 : Int32) x3 x4 h244 n0 Z254 f255 f256 f257 f258 f259 f260 A244 g_b244) hZ (own_h hw 39 rfl) (own_h hw 33 rfl) (by decide) (by decide)) (g := (mkF m 103 #[.val (.int x0), .val (.int x1), .val (.int x2), .val (.int x3), .val (.int x4), .val (.ref b1), .val (.ref b20), .val (.int (0 : Int32)), .val (.int (4 : Int32)), .unset, .unset] [(.int x4), (.int x3), (.int (4 : Int32)), (.int (0 : Int32)), (.ref b20), (.ref tm), (.ref b244), (.ref b244)])) rfl (by rw [hml]; rfl) (Steps.refl _) (a := b244) (argsL := [(.ref tm), (.ref b20), (.int (0 : Int32)), (.int (4 : Int32)), (.int x3), (.int x4)]) (rest := [(.ref b244)]) (lenOf pd_6 rfl) rfl (by show 2 * 0 + _ ≤ _; exact Nat.le_of_eq rfl) (hb hby at_103) (fun _ _ => ⟨rfl, e261, (by decide : 4 + 0 ≤ _), (by decide : 18 + 0 ≤ _)⟩)
      dsimp only [Pt.U, Pt.locs, Pt.cells, Pt.slots] at X262 l262 y262 z262 st262 hQ262
      subst y262 z262
      obtain ⟨rfl, N262q, K262, pq262_0, pq262_1, pq262_2⟩ := hQ262
      have N262 := Fr.app N27 N262q
      rw [← l262] at N262
      clear l262
      obtain ⟨h262, e262⟩ : ∃ z, T262.heap = z := ⟨_, rfl⟩
      rw [e262] at K262 pq262_0 pq262_1 pq262_2
      have f263 := f248.keep K262 (ninS ne245 nin0)
      have f264 := f249.keep K262
      have f265 := f250.keep K262 (ninS ne246 nin0)
      have f266 := f251.keep K262 (ninS ne246 nin0)
      have f267 := f252.keep K262 (ninS ne247 nin0)
      have f268 := A244.keep K262
      have O269 := O253.keep K262 (allS g_b244 all0)
      have Z270 : n0 ≤ h262.size := Nat.le_trans Z254 K262.1
      refine own_stepW (st' := T262.setTop (mkF m 106 #[.val (.int x0), .val (.int x1), .val (.int x2), .val (.int x3), .val (.int x4), .val (.ref b1), .val (.ref b20), .val (.int (0 : Int32)), .val (.int (4 : Int32)), .unset, .unset] [(.ref b244)])) (fun t k => st262.trans k) ?_
      refine own_stepW (st' := T262.setTop (mkF m 108 #[.val (.int x0), .val (.int x1), .val (.int x2), .val (.int x3), .val (.int x4), .val (.ref b1), .val (.ref b20), .val (.int (0 : Int32)), .val (.int (4 : Int32)), .val (.ref b244), .unset] [])) (fun t k => XS.astore X262.here hx rfl (hb hby at_106) rfl rfl (l' := #[.val (.int x0), .val (.int x1), .val (.int x2), .val (.int x3), .val (.int x4), .val (.ref b1), .val (.ref b20), .val (.int (0 : Int32)), .val (.int (4 : Int32)), .val (.ref b244), .unset]) rfl k) ?_
      refine own_stepW (st' := T262.setTop (mkF m 110 #[.val (.int x0), .val (.int x1), .val (.int x2), .val (.int x3), .val (.int x4), .val (.ref b1), .val (.ref b20), .val (.int (0 : Int32)), .val (.int (4 : Int32)), .val (.ref b244), .unset] [(.ref b244)])) (fun t k => XS.aload X262.here hx rfl (hb hby at_108) rfl rfl k) ?_
      obtain ⟨cq271, kq271, q271a, q271b, q271c⟩ := isOf hZ e262 f268
      obtain ⟨_, _, ⟨T271, L271, k271, n271⟩, -, X271, ⟨Lc271, hQ271, l271, y271, z271⟩, st271⟩ := X262.virtualBack hx (y := (⟨"com/example/lookahead/lookahead/runtime/Token", "text", "()Ljava/lang/String;"⟩ : MethodName)) (z := (⟨"com/example/lookahead/lookahead/runtime/Token", "text", "()Ljava/lang/String;"⟩ : MethodName)) hown (mvT hZ (own_h hw 53 rfl)) (mvT hZ (own_h hw 54 rfl)) (notFace_of_selects (args := #[]) (mvT hZ (own_h hw 56 rfl))) (mvT hZ (own_h hw 56 rfl)) (mvT hZ (own_h hw 55 rfl)) (by decide) (backOf (W := 0) (rmTW l Z a0 hw [] b244 b20 (0 : Int32) (4 : Int32) b_27 kb_27 [(.int ((q0.toInt8.toInt32).toInt8.toInt32)), (.int ((q1.toInt8.toInt32).toInt8.toInt32)), (.int ((q2.toInt8.toInt32).toInt8.toInt32)), (.int ((q3.toInt8.toInt32).toInt8.toInt32))] cs fm h262 n0 Z270 O269 pq262_0 pq262_1 pq262_2 f264 f265 f266 f267 p_0 p_1 p_2 p_3 rfl rfl) hZ (own_h hw 57 rfl) (own_h hw 33 rfl) (by decide) (by decide)) q271a q271c (g := (mkF m 110 #[.val (.int x0), .val (.int x1), .val (.int x2), .val (.int x3), .val (.int x4), .val (.ref b1), .val (.ref b20), .val (.int (0 : Int32)), .val (.int (4 : Int32)), .val (.ref b244), .unset] [(.ref b244)])) rfl (by rw [hml]; rfl) (Steps.refl _) (argsL := []) (rest := []) (lenOf pd_7 rfl) rfl (by show 2 * 0 + _ ≤ _; exact Nat.le_of_eq rfl) (hb hby at_110) (fun _ _ => ⟨rfl, e262, (by decide : 4 + 0 ≤ _), (by decide : 18 + 0 ≤ _)⟩)
      dsimp only [Pt.U, Pt.locs, Pt.cells, Pt.slots] at X271 l271 y271 z271 st271 hQ271
      subst y271 z271
      obtain ⟨rfl, N271q, e271⟩ := hQ271
      have N271 := Fr.app N262 N271q
      rw [← l271] at N271
      clear l271
      refine own_stepW (st' := T271.setTop (mkF m 113 #[.val (.int x0), .val (.int x1), .val (.int x2), .val (.int x3), .val (.int x4), .val (.ref b1), .val (.ref b20), .val (.int (0 : Int32)), .val (.int (4 : Int32)), .val (.ref b244), .unset] [(.ref b20)])) (fun t k => st271.trans k) ?_
      refine own_stepW (st' := T271.setTop (mkF m 115 #[.val (.int x0), .val (.int x1), .val (.int x2), .val (.int x3), .val (.int x4), .val (.ref b1), .val (.ref b20), .val (.int (0 : Int32)), .val (.int (4 : Int32)), .val (.ref b244), .val (.ref b20)] [])) (fun t k => XS.astore X271.here hx rfl (hb hby at_113) rfl rfl (l' := #[.val (.int x0), .val (.int x1), .val (.int x2), .val (.int x3), .val (.int x4), .val (.ref b1), .val (.ref b20), .val (.int (0 : Int32)), .val (.int (4 : Int32)), .val (.ref b244), .val (.ref b20)]) rfl k) ?_
      refine own_stepW (st' := T271.setTop (mkF m 117 #[.val (.int x0), .val (.int x1), .val (.int x2), .val (.int x3), .val (.int x4), .val (.ref b1), .val (.ref b20), .val (.int (0 : Int32)), .val (.int (4 : Int32)), .val (.ref b244), .val (.ref b20)] [(.ref b20)])) (fun t k => XS.aload X271.here hx rfl (hb hby at_115) rfl rfl k) ?_
      refine own_stepW (st' := T271.setTop (mkF m 122 #[.val (.int x0), .val (.int x1), .val (.int x2), .val (.int x3), .val (.int x4), .val (.ref b1), .val (.ref b20), .val (.int (0 : Int32)), .val (.int (4 : Int32)), .val (.ref b244), .val (.ref b20)] [])) (fun t k => XS.ifnonnullYes X271.here hx rfl (pc0 := 117) (pc' := 122) rfl (hb hby at_117) rfl (by decide) (by decide) k) ?_
      refine own_stepW (st' := T271.setTop (mkF m 124 #[.val (.int x0), .val (.int x1), .val (.int x2), .val (.int x3), .val (.int x4), .val (.ref b1), .val (.ref b20), .val (.int (0 : Int32)), .val (.int (4 : Int32)), .val (.ref b244), .val (.ref b20)] [(.ref b20)])) (fun t k => XS.aload X271.here hx rfl (hb hby at_122) rfl rfl k) ?_
      obtain ⟨cq272, kq272, q272a, q272b, q272c⟩ := isOf hZ e271 f264
      obtain ⟨_, _, ⟨T272, L272, k272, n272⟩, -, X272, ⟨Lc272, hQ272, l272, y272, z272⟩, st272⟩ := X271.virtualBack hx (y := (⟨"java/lang/String", "length", "()I"⟩ : MethodName)) (z := (⟨"java/lang/String", "length", "()I"⟩ : MethodName)) hown (mvT hZ (own_h hw 93 rfl)) (mvT hZ (own_h hw 64 rfl)) (notFace_of_selects (args := #[]) (mvT hZ (own_h hw 66 rfl))) (mvT hZ (own_h hw 66 rfl)) (mvT hZ (own_h hw 65 rfl)) (by decide) (backOf (W := 0) (rm10 l Z a0 hw [] b20 b_27 kb_27 (4 : Int32) [(.int ((q0.toInt8.toInt32).toInt8.toInt32)), (.int ((q1.toInt8.toInt32).toInt8.toInt32)), (.int ((q2.toInt8.toInt32).toInt8.toInt32)), (.int ((q3.toInt8.toInt32).toInt8.toInt32))] cs h262 n0 Z270 O269 f264 f265 f266 f267 p_0 p_1) hZ (own_h hw 67 rfl) (own_h hw 3 rfl) (by decide) (by decide)) q272a q272c (g := (mkF m 124 #[.val (.int x0), .val (.int x1), .val (.int x2), .val (.int x3), .val (.int x4), .val (.ref b1), .val (.ref b20), .val (.int (0 : Int32)), .val (.int (4 : Int32)), .val (.ref b244), .val (.ref b20)] [(.ref b20)])) rfl (by rw [hml]; rfl) (Steps.refl _) (argsL := []) (rest := []) (lenOf pd_9 rfl) rfl (by show 2 * 0 + _ ≤ _; exact Nat.le_of_eq rfl) (hb hby at_124) (fun _ _ => ⟨rfl, e271, (by decide : 4 + 0 ≤ _), (by decide : 18 + 0 ≤ _)⟩)
      dsimp only [Pt.U, Pt.locs, Pt.cells, Pt.slots] at X272 l272 y272 z272 st272 hQ272
      subst y272 z272
      obtain ⟨rfl, N272q, e272⟩ := hQ272
      have N272 := Fr.app N271 N272q
      rw [← l272] at N272
      clear l272
      refine own_stepW (st' := T272.setTop (mkF m 127 #[.val (.int x0), .val (.int x1), .val (.int x2), .val (.int x3), .val (.int x4), .val (.ref b1), .val (.ref b20), .val (.int (0 : Int32)), .val (.int (4 : Int32)), .val (.ref b244), .val (.ref b20)] [(.int (4 : Int32))])) (fun t k => st272.trans k) ?_
      refine own_stepW (st' := T272.setTop (mkF m 129 #[.val (.int x0), .val (.int x1), .val (.int x2), .val (.int x3), .val (.int x4), .val (.ref b1), .val (.ref b20), .val (.int (0 : Int32)), .val (.int (4 : Int32)), .val (.ref b244), .val (.ref b20)] [(.int (4 : Int32)), (.int (4 : Int32))])) (fun t k => XS.iload X272.here hx rfl (hb hby at_127) rfl k) ?_
      refine own_stepW (st' := T272.setTop (mkF m 131 #[.val (.int x0), .val (.int x1), .val (.int x2), .val (.int x3), .val (.int x4), .val (.ref b1), .val (.ref b20), .val (.int (0 : Int32)), .val (.int (4 : Int32)), .val (.ref b244), .val (.ref b20)] [(.int (0 : Int32)), (.int (4 : Int32)), (.int (4 : Int32))])) (fun t k => XS.iload X272.here hx rfl (hb hby at_129) rfl k) ?_
      refine own_stepW (st' := T272.setTop (mkF m 132 #[.val (.int x0), .val (.int x1), .val (.int x2), .val (.int x3), .val (.int x4), .val (.ref b1), .val (.ref b20), .val (.int (0 : Int32)), .val (.int (4 : Int32)), .val (.ref b244), .val (.ref b20)] [(.int (4 : Int32)), (.int (4 : Int32))])) (fun t k => XS.isub X272.here hx rfl (hb hby at_131) rfl k) ?_
      refine own_stepW (st' := T272.setTop (mkF m 137 #[.val (.int x0), .val (.int x1), .val (.int x2), .val (.int x3), .val (.int x4), .val (.ref b1), .val (.ref b20), .val (.int (0 : Int32)), .val (.int (4 : Int32)), .val (.ref b244), .val (.ref b20)] [])) (fun t k => XS.icmpYes X272.here hx rfl (pc0 := 132) (pc' := 137) rfl (hb hby at_132) rfl (teq (by decide)).1 (by decide) (by decide) k) ?_
      refine own_stepW (st' := T272.setTop (mkF m 139 #[.val (.int x0), .val (.int x1), .val (.int x2), .val (.int x3), .val (.int x4), .val (.ref b1), .val (.ref b20), .val (.int (0 : Int32)), .val (.int (4 : Int32)), .val (.ref b244), .val (.ref b20)] [(.ref b20)])) (fun t k => XS.aload X272.here hx rfl (hb hby at_137) rfl rfl k) ?_
      refine own_stepW (st' := T272.setTop (mkF m 141 #[.val (.int x0), .val (.int x1), .val (.int x2), .val (.int x3), .val (.int x4), .val (.ref b1), .val (.ref b20), .val (.int (0 : Int32)), .val (.int (4 : Int32)), .val (.ref b244), .val (.ref b20)] [(.ref b1), (.ref b20)])) (fun t k => XS.aload X272.here hx rfl (hb hby at_139) rfl rfl k) ?_
      refine own_stepW (st' := T272.setTop (mkF m 143 #[.val (.int x0), .val (.int x1), .val (.int x2), .val (.int x3), .val (.int x4), .val (.ref b1), .val (.ref b20), .val (.int (0 : Int32)), .val (.int (4 : Int32)), .val (.ref b244), .val (.ref b20)] [(.int (0 : Int32)), (.ref b1), (.ref b20)])) (fun t k => XS.iload X272.here hx rfl (hb hby at_141) rfl k) ?_
      refine own_stepW (st' := T272.setTop (mkF m 145 #[.val (.int x0), .val (.int x1), .val (.int x2), .val (.int x3), .val (.int x4), .val (.ref b1), .val (.ref b20), .val (.int (0 : Int32)), .val (.int (4 : Int32)), .val (.ref b244), .val (.ref b20)] [(.int (4 : Int32)), (.int (0 : Int32)), (.ref b1), (.ref b20)])) (fun t k => XS.iload X272.here hx rfl (hb hby at_143) rfl k) ?_
      refine own_stepW (st' := T272.setTop (mkF m 146 #[.val (.int x0), .val (.int x1), .val (.int x2), .val (.int x3), .val (.int x4), .val (.ref b1), .val (.ref b20), .val (.int (0 : Int32)), .val (.int (4 : Int32)), .val (.ref b244), .val (.ref b20)] [(.int (0 : Int32)), (.int (4 : Int32)), (.int (0 : Int32)), (.ref b1), (.ref b20)])) (fun t k => XS.iconst X272.here hx rfl (hb hby at_145) k) ?_
      obtain ⟨_, _, ⟨T273, L273, k273, n273⟩, -, X273, ⟨Lc273, hQ273, l273, y273, z273⟩, st273⟩ := Jvm.LawKit.callS X272 hx (y := (⟨"com/example/lookahead/lookahead/runtime/TokenTextPinLaw", "charOk", "(Ljava/lang/String;[CIII)Z"⟩ : MethodName)) hown (mvT hZ (own_h hw 94 rfl)) (mvT hZ (own_h hw 95 rfl)) (mvT hZ (own_h hw 96 rfl)) (mvT hZ (own_h hw 97 rfl)) (by decide) (backOf (W := 0) (rmK2 l Z a0 hw [] b20 b1 (0 : Int32) (4 : Int32) (0 : Int32) b_27 kb_27 (4 : Int32) [(.int ((q0.toInt8.toInt32).toInt8.toInt32)), (.int ((q1.toInt8.toInt32).toInt8.toInt32)), (.int ((q2.toInt8.toInt32).toInt8.toInt32)), (.int ((q3.toInt8.toInt32).toInt8.toInt32))] k1 [(.int q0), (.int q1), (.int q2), (.int q3)] ((q0.toInt8.toInt32).toInt8.toInt32) q0 cs fm h262 n0 Z270 O269 f264 f265 f266 f267 f263 (by decide) (by decide) (by decide) rfl (own_byte b_q0) (own_nc b_q0) ⟨by decide, by decide⟩ rfl p_0 p_1 p_2 p_3) hZ (own_h hw 97 rfl) (own_h hw 96 rfl) (by decide) (by decide)) (g := (mkF m 146 #[.val (.int x0), .val (.int x1), .val (.int x2), .val (.int x3), .val (.int x4), .val (.ref b1), .val (.ref b20), .val (.int (0 : Int32)), .val (.int (4 : Int32)), .val (.ref b244), .val (.ref b20)] [(.int (0 : Int32)), (.int (4 : Int32)), (.int (0 : Int32)), (.ref b1), (.ref b20)])) rfl (by rw [hml]; rfl) (argsL := [(.ref b20), (.ref b1), (.int (0 : Int32)), (.int (4 : Int32)), (.int (0 : Int32))]) (rest := []) (lenOf pd_15 rfl) rfl (by show 2 * 0 + _ ≤ _; exact Nat.le_of_eq rfl) (hb hby at_146) (fun _ _ => ⟨rfl, e272, (by decide : 4 + 0 ≤ _), (by decide : 18 + 0 ≤ _)⟩)
      dsimp only [Pt.U, Pt.locs, Pt.cells, Pt.slots] at X273 l273 y273 z273 st273 hQ273
      subst y273 z273
      obtain ⟨rfl, N273q, e273⟩ := hQ273
      have N273 := Fr.app N272 N273q
      rw [← l273] at N273
      clear l273
      refine own_stepW (st' := T273.setTop (mkF m 149 #[.val (.int x0), .val (.int x1), .val (.int x2), .val (.int x3), .val (.int x4), .val (.ref b1), .val (.ref b20), .val (.int (0 : Int32)), .val (.int (4 : Int32)), .val (.ref b244), .val (.ref b20)] [(.int (1 : Int32))])) st273 ?_
      refine own_stepW (st' := T273.setTop (mkF m 152 #[.val (.int x0), .val (.int x1), .val (.int x2), .val (.int x3), .val (.int x4), .val (.ref b1), .val (.ref b20), .val (.int (0 : Int32)), .val (.int (4 : Int32)), .val (.ref b244), .val (.ref b20)] [])) (fun t k => XS.ifNo X273.here hx rfl (hb hby at_149) rfl ((if0 _ _).trans (feq (by decide)).1) k) ?_
      refine own_stepW (st' := T273.setTop (mkF m 154 #[.val (.int x0), .val (.int x1), .val (.int x2), .val (.int x3), .val (.int x4), .val (.ref b1), .val (.ref b20), .val (.int (0 : Int32)), .val (.int (4 : Int32)), .val (.ref b244), .val (.ref b20)] [(.ref b20)])) (fun t k => XS.aload X273.here hx rfl (hb hby at_152) rfl rfl k) ?_
      refine own_stepW (st' := T273.setTop (mkF m 156 #[.val (.int x0), .val (.int x1), .val (.int x2), .val (.int x3), .val (.int x4), .val (.ref b1), .val (.ref b20), .val (.int (0 : Int32)), .val (.int (4 : Int32)), .val (.ref b244), .val (.ref b20)] [(.ref b1), (.ref b20)])) (fun t k => XS.aload X273.here hx rfl (hb hby at_154) rfl rfl k) ?_
      refine own_stepW (st' := T273.setTop (mkF m 158 #[.val (.int x0), .val (.int x1), .val (.int x2), .val (.int x3), .val (.int x4), .val (.ref b1), .val (.ref b20), .val (.int (0 : Int32)), .val (.int (4 : Int32)), .val (.ref b244), .val (.ref b20)] [(.int (0 : Int32)), (.ref b1), (.ref b20)])) (fun t k => XS.iload X273.here hx rfl (hb hby at_156) rfl k) ?_
      refine own_stepW (st' := T273.setTop (mkF m 160 #[.val (.int x0), .val (.int x1), .val (.int x2), .val (.int x3), .val (.int x4), .val (.ref b1), .val (.ref b20), .val (.int (0 : Int32)), .val (.int (4 : Int32)), .val (.ref b244), .val (.ref b20)] [(.int (4 : Int32)), (.int (0 : Int32)), (.ref b1), (.ref b20)])) (fun t k => XS.iload X273.here hx rfl (hb hby at_158) rfl k) ?_
      refine own_stepW (st' := T273.setTop (mkF m 161 #[.val (.int x0), .val (.int x1), .val (.int x2), .val (.int x3), .val (.int x4), .val (.ref b1), .val (.ref b20), .val (.int (0 : Int32)), .val (.int (4 : Int32)), .val (.ref b244), .val (.ref b20)] [(.int (1 : Int32)), (.int (4 : Int32)), (.int (0 : Int32)), (.ref b1), (.ref b20)])) (fun t k => XS.iconst X273.here hx rfl (hb hby at_160) k) ?_
      obtain ⟨_, _, ⟨T274, L274, k274, n274⟩, -, X274, ⟨Lc274, hQ274, l274, y274, z274⟩, st274⟩ := Jvm.LawKit.callS X273 hx (y := (⟨"com/example/lookahead/lookahead/runtime/TokenTextPinLaw", "charOk", "(Ljava/lang/String;[CIII)Z"⟩ : MethodName)) hown (mvT hZ (own_h hw 94 rfl)) (mvT hZ (own_h hw 95 rfl)) (mvT hZ (own_h hw 96 rfl)) (mvT hZ (own_h hw 97 rfl)) (by decide) (backOf (W := 0) (rmK2 l Z a0 hw [] b20 b1 (0 : Int32) (4 : Int32) (1 : Int32) b_27 kb_27 (4 : Int32) [(.int ((q0.toInt8.toInt32).toInt8.toInt32)), (.int ((q1.toInt8.toInt32).toInt8.toInt32)), (.int ((q2.toInt8.toInt32).toInt8.toInt32)), (.int ((q3.toInt8.toInt32).toInt8.toInt32))] k1 [(.int q0), (.int q1), (.int q2), (.int q3)] ((q1.toInt8.toInt32).toInt8.toInt32) q1 cs fm h262 n0 Z270 O269 f264 f265 f266 f267 f263 (by decide) (by decide) (by decide) rfl (own_byte b_q1) (own_nc b_q1) ⟨by decide, by decide⟩ rfl p_0 p_1 p_2 p_3) hZ (own_h hw 97 rfl) (own_h hw 96 rfl) (by decide) (by decide)) (g := (mkF m 161 #[.val (.int x0), .val (.int x1), .val (.int x2), .val (.int x3), .val (.int x4), .val (.ref b1), .val (.ref b20), .val (.int (0 : Int32)), .val (.int (4 : Int32)), .val (.ref b244), .val (.ref b20)] [(.int (1 : Int32)), (.int (4 : Int32)), (.int (0 : Int32)), (.ref b1), (.ref b20)])) rfl (by rw [hml]; rfl) (argsL := [(.ref b20), (.ref b1), (.int (0 : Int32)), (.int (4 : Int32)), (.int (1 : Int32))]) (rest := []) (lenOf pd_15 rfl) rfl (by show 2 * 0 + _ ≤ _; exact Nat.le_of_eq rfl) (hb hby at_161) (fun _ _ => ⟨rfl, e273, (by decide : 4 + 0 ≤ _), (by decide : 18 + 0 ≤ _)⟩)
      dsimp only [Pt.U, Pt.locs, Pt.cells, Pt.slots] at X274 l274 y274 z274 st274 hQ274
      subst y274 z274
      obtain ⟨rfl, N274q, e274⟩ := hQ274
      have N274 := Fr.app N273 N274q
      rw [← l274] at N274
      clear l274
      refine own_stepW (st' := T274.setTop (mkF m 164 #[.val (.int x0), .val (.int x1), .val (.int x2), .val (.int x3), .val (.int x4), .val (.ref b1), .val (.ref b20), .val (.int (0 : Int32)), .val (.int (4 : Int32)), .val (.ref b244), .val (.ref b20)] [(.int (1 : Int32))])) st274 ?_
      refine own_stepW (st' := T274.setTop (mkF m 167 #[.val (.int x0), .val (.int x1), .val (.int x2), .val (.int x3), .val (.int x4), .val (.ref b1), .val (.ref b20), .val (.int (0 : Int32)), .val (.int (4 : Int32)), .val (.ref b244), .val (.ref b20)] [])) (fun t k => XS.ifNo X274.here hx rfl (hb hby at_164) rfl ((if0 _ _).trans (feq (by decide)).1) k) ?_
      refine own_stepW (st' := T274.setTop (mkF m 169 #[.val (.int x0), .val (.int x1), .val (.int x2), .val (.int x3), .val (.int x4), .val (.ref b1), .val (.ref b20), .val (.int (0 : Int32)), .val (.int (4 : Int32)), .val (.ref b244), .val (.ref b20)] [(.ref b20)])) (fun t k => XS.aload X274.here hx rfl (hb hby at_167) rfl rfl k) ?_
      refine own_stepW (st' := T274.setTop (mkF m 171 #[.val (.int x0), .val (.int x1), .val (.int x2), .val (.int x3), .val (.int x4), .val (.ref b1), .val (.ref b20), .val (.int (0 : Int32)), .val (.int (4 : Int32)), .val (.ref b244), .val (.ref b20)] [(.ref b1), (.ref b20)])) (fun t k => XS.aload X274.here hx rfl (hb hby at_169) rfl rfl k) ?_
      refine own_stepW (st' := T274.setTop (mkF m 173 #[.val (.int x0), .val (.int x1), .val (.int x2), .val (.int x3), .val (.int x4), .val (.ref b1), .val (.ref b20), .val (.int (0 : Int32)), .val (.int (4 : Int32)), .val (.ref b244), .val (.ref b20)] [(.int (0 : Int32)), (.ref b1), (.ref b20)])) (fun t k => XS.iload X274.here hx rfl (hb hby at_171) rfl k) ?_
      refine own_stepW (st' := T274.setTop (mkF m 175 #[.val (.int x0), .val (.int x1), .val (.int x2), .val (.int x3), .val (.int x4), .val (.ref b1), .val (.ref b20), .val (.int (0 : Int32)), .val (.int (4 : Int32)), .val (.ref b244), .val (.ref b20)] [(.int (4 : Int32)), (.int (0 : Int32)), (.ref b1), (.ref b20)])) (fun t k => XS.iload X274.here hx rfl (hb hby at_173) rfl k) ?_
      refine own_stepW (st' := T274.setTop (mkF m 176 #[.val (.int x0), .val (.int x1), .val (.int x2), .val (.int x3), .val (.int x4), .val (.ref b1), .val (.ref b20), .val (.int (0 : Int32)), .val (.int (4 : Int32)), .val (.ref b244), .val (.ref b20)] [(.int (2 : Int32)), (.int (4 : Int32)), (.int (0 : Int32)), (.ref b1), (.ref b20)])) (fun t k => XS.iconst X274.here hx rfl (hb hby at_175) k) ?_
      obtain ⟨_, _, ⟨T275, L275, k275, n275⟩, -, X275, ⟨Lc275, hQ275, l275, y275, z275⟩, st275⟩ := Jvm.LawKit.callS X274 hx (y := (⟨"com/example/lookahead/lookahead/runtime/TokenTextPinLaw", "charOk", "(Ljava/lang/String;[CIII)Z"⟩ : MethodName)) hown (mvT hZ (own_h hw 94 rfl)) (mvT hZ (own_h hw 95 rfl)) (mvT hZ (own_h hw 96 rfl)) (mvT hZ (own_h hw 97 rfl)) (by decide) (backOf (W := 0) (rmK2 l Z a0 hw [] b20 b1 (0 : Int32) (4 : Int32) (2 : Int32) b_27 kb_27 (4 : Int32) [(.int ((q0.toInt8.toInt32).toInt8.toInt32)), (.int ((q1.toInt8.toInt32).toInt8.toInt32)), (.int ((q2.toInt8.toInt32).toInt8.toInt32)), (.int ((q3.toInt8.toInt32).toInt8.toInt32))] k1 [(.int q0), (.int q1), (.int q2), (.int q3)] ((q2.toInt8.toInt32).toInt8.toInt32) q2 cs fm h262 n0 Z270 O269 f264 f265 f266 f267 f263 (by decide) (by decide) (by decide) rfl (own_byte b_q2) (own_nc b_q2) ⟨by decide, by decide⟩ rfl p_0 p_1 p_2 p_3) hZ (own_h hw 97 rfl) (own_h hw 96 rfl) (by decide) (by decide)) (g := (mkF m 176 #[.val (.int x0), .val (.int x1), .val (.int x2), .val (.int x3), .val (.int x4), .val (.ref b1), .val (.ref b20), .val (.int (0 : Int32)), .val (.int (4 : Int32)), .val (.ref b244), .val (.ref b20)] [(.int (2 : Int32)), (.int (4 : Int32)), (.int (0 : Int32)), (.ref b1), (.ref b20)])) rfl (by rw [hml]; rfl) (argsL := [(.ref b20), (.ref b1), (.int (0 : Int32)), (.int (4 : Int32)), (.int (2 : Int32))]) (rest := []) (lenOf pd_15 rfl) rfl (by show 2 * 0 + _ ≤ _; exact Nat.le_of_eq rfl) (hb hby at_176) (fun _ _ => ⟨rfl, e274, (by decide : 4 + 0 ≤ _), (by decide : 18 + 0 ≤ _)⟩)
      dsimp only [Pt.U, Pt.locs, Pt.cells, Pt.slots] at X275 l275 y275 z275 st275 hQ275
      subst y275 z275
      obtain ⟨rfl, N275q, e275⟩ := hQ275
      have N275 := Fr.app N274 N275q
      rw [← l275] at N275
      clear l275
      refine own_stepW (st' := T275.setTop (mkF m 179 #[.val (.int x0), .val (.int x1), .val (.int x2), .val (.int x3), .val (.int x4), .val (.ref b1), .val (.ref b20), .val (.int (0 : Int32)), .val (.int (4 : Int32)), .val (.ref b244), .val (.ref b20)] [(.int (1 : Int32))])) st275 ?_
      refine own_stepW (st' := T275.setTop (mkF m 182 #[.val (.int x0), .val (.int x1), .val (.int x2), .val (.int x3), .val (.int x4), .val (.ref b1), .val (.ref b20), .val (.int (0 : Int32)), .val (.int (4 : Int32)), .val (.ref b244), .val (.ref b20)] [])) (fun t k => XS.ifNo X275.here hx rfl (hb hby at_179) rfl ((if0 _ _).trans (feq (by decide)).1) k) ?_
      refine own_stepW (st' := T275.setTop (mkF m 184 #[.val (.int x0), .val (.int x1), .val (.int x2), .val (.int x3), .val (.int x4), .val (.ref b1), .val (.ref b20), .val (.int (0 : Int32)), .val (.int (4 : Int32)), .val (.ref b244), .val (.ref b20)] [(.ref b20)])) (fun t k => XS.aload X275.here hx rfl (hb hby at_182) rfl rfl k) ?_
      refine own_stepW (st' := T275.setTop (mkF m 186 #[.val (.int x0), .val (.int x1), .val (.int x2), .val (.int x3), .val (.int x4), .val (.ref b1), .val (.ref b20), .val (.int (0 : Int32)), .val (.int (4 : Int32)), .val (.ref b244), .val (.ref b20)] [(.ref b1), (.ref b20)])) (fun t k => XS.aload X275.here hx rfl (hb hby at_184) rfl rfl k) ?_
      refine own_stepW (st' := T275.setTop (mkF m 188 #[.val (.int x0), .val (.int x1), .val (.int x2), .val (.int x3), .val (.int x4), .val (.ref b1), .val (.ref b20), .val (.int (0 : Int32)), .val (.int (4 : Int32)), .val (.ref b244), .val (.ref b20)] [(.int (0 : Int32)), (.ref b1), (.ref b20)])) (fun t k => XS.iload X275.here hx rfl (hb hby at_186) rfl k) ?_
      refine own_stepW (st' := T275.setTop (mkF m 190 #[.val (.int x0), .val (.int x1), .val (.int x2), .val (.int x3), .val (.int x4), .val (.ref b1), .val (.ref b20), .val (.int (0 : Int32)), .val (.int (4 : Int32)), .val (.ref b244), .val (.ref b20)] [(.int (4 : Int32)), (.int (0 : Int32)), (.ref b1), (.ref b20)])) (fun t k => XS.iload X275.here hx rfl (hb hby at_188) rfl k) ?_
      refine own_stepW (st' := T275.setTop (mkF m 191 #[.val (.int x0), .val (.int x1), .val (.int x2), .val (.int x3), .val (.int x4), .val (.ref b1), .val (.ref b20), .val (.int (0 : Int32)), .val (.int (4 : Int32)), .val (.ref b244), .val (.ref b20)] [(.int (3 : Int32)), (.int (4 : Int32)), (.int (0 : Int32)), (.ref b1), (.ref b20)])) (fun t k => XS.iconst X275.here hx rfl (hb hby at_190) k) ?_
      obtain ⟨_, _, ⟨T276, L276, k276, n276⟩, -, X276, ⟨Lc276, hQ276, l276, y276, z276⟩, st276⟩ := Jvm.LawKit.callS X275 hx (y := (⟨"com/example/lookahead/lookahead/runtime/TokenTextPinLaw", "charOk", "(Ljava/lang/String;[CIII)Z"⟩ : MethodName)) hown (mvT hZ (own_h hw 94 rfl)) (mvT hZ (own_h hw 95 rfl)) (mvT hZ (own_h hw 96 rfl)) (mvT hZ (own_h hw 97 rfl)) (by decide) (backOf (W := 0) (rmK2 l Z a0 hw [] b20 b1 (0 : Int32) (4 : Int32) (3 : Int32) b_27 kb_27 (4 : Int32) [(.int ((q0.toInt8.toInt32).toInt8.toInt32)), (.int ((q1.toInt8.toInt32).toInt8.toInt32)), (.int ((q2.toInt8.toInt32).toInt8.toInt32)), (.int ((q3.toInt8.toInt32).toInt8.toInt32))] k1 [(.int q0), (.int q1), (.int q2), (.int q3)] ((q3.toInt8.toInt32).toInt8.toInt32) q3 cs fm h262 n0 Z270 O269 f264 f265 f266 f267 f263 (by decide) (by decide) (by decide) rfl (own_byte b_q3) (own_nc b_q3) ⟨by decide, by decide⟩ rfl p_0 p_1 p_2 p_3) hZ (own_h hw 97 rfl) (own_h hw 96 rfl) (by decide) (by decide)) (g := (mkF m 191 #[.val (.int x0), .val (.int x1), .val (.int x2), .val (.int x3), .val (.int x4), .val (.ref b1), .val (.ref b20), .val (.int (0 : Int32)), .val (.int (4 : Int32)), .val (.ref b244), .val (.ref b20)] [(.int (3 : Int32)), (.int (4 : Int32)), (.int (0 : Int32)), (.ref b1), (.ref b20)])) rfl (by rw [hml]; rfl) (argsL := [(.ref b20), (.ref b1), (.int (0 : Int32)), (.int (4 : Int32)), (.int (3 : Int32))]) (rest := []) (lenOf pd_15 rfl) rfl (by show 2 * 0 + _ ≤ _; exact Nat.le_of_eq rfl) (hb hby at_191) (fun _ _ => ⟨rfl, e275, (by decide : 4 + 0 ≤ _), (by decide : 18 + 0 ≤ _)⟩)
      dsimp only [Pt.U, Pt.locs, Pt.cells, Pt.slots] at X276 l276 y276 z276 st276 hQ276
      subst y276 z276
      obtain ⟨rfl, N276q, e276⟩ := hQ276
      have N276 := Fr.app N275 N276q
      rw [← l276] at N276
      clear l276
      refine own_stepW (st' := T276.setTop (mkF m 194 #[.val (.int x0), .val (.int x1), .val (.int x2), .val (.int x3), .val (.int x4), .val (.ref b1), .val (.ref b20), .val (.int (0 : Int32)), .val (.int (4 : Int32)), .val (.ref b244), .val (.ref b20)] [(.int (1 : Int32))])) st276 ?_
      refine own_stepW (st' := T276.setTop (mkF m 197 #[.val (.int x0), .val (.int x1), .val (.int x2), .val (.int x3), .val (.int x4), .val (.ref b1), .val (.ref b20), .val (.int (0 : Int32)), .val (.int (4 : Int32)), .val (.ref b244), .val (.ref b20)] [])) (fun t k => XS.ifNo X276.here hx rfl (hb hby at_194) rfl ((if0 _ _).trans (feq (by decide)).1) k) ?_
      refine own_stepW (st' := T276.setTop (mkF m 198 #[.val (.int x0), .val (.int x1), .val (.int x2), .val (.int x3), .val (.int x4), .val (.ref b1), .val (.ref b20), .val (.int (0 : Int32)), .val (.int (4 : Int32)), .val (.ref b244), .val (.ref b20)] [(.int (1 : Int32))])) (fun t k => XS.iconst X276.here hx rfl (hb hby at_197) k) ?_
      refine own_stepW (st' := T276.setTop (mkF m 202 #[.val (.int x0), .val (.int x1), .val (.int x2), .val (.int x3), .val (.int x4), .val (.ref b1), .val (.ref b20), .val (.int (0 : Int32)), .val (.int (4 : Int32)), .val (.ref b244), .val (.ref b20)] [(.int (1 : Int32))])) (fun t k => XS.goto X276.here hx rfl (pc0 := 198) (pc' := 202) rfl (hb hby at_198) (by decide) (by decide) k) ?_
      refine own_toW <| own_ret X276 Bd.notSynchronized (some (.int (1 : Int32))) (fun h => by rw [Bd.returns] at h; cases h) (fun fs hr => retN X276 hx (t := .boolean) Bd.returns (by simp) (hb hby at_202) hr) ?_ (by decide) (by decide)
      rw [e276]
      exact ⟨rfl, N276⟩
  · rw [hn35]
    refine own_stepW (st' := T27.setTop (mkF m 73 #[.val (.int x0), .val (.int x1), .val (.int x2), .val (.int x3), .val (.int x4), .val (.ref b1), .val (.ref b20), .val (.int (1 : Int32)), .unset, .unset, .unset] [])) (fun t k => XS.istore X27.here hx rfl (hb hby at_71) rfl (l' := #[.val (.int x0), .val (.int x1), .val (.int x2), .val (.int x3), .val (.int x4), .val (.ref b1), .val (.ref b20), .val (.int (1 : Int32)), .unset, .unset, .unset]) rfl k) ?_
    refine own_stepW (st' := T27.setTop (mkF m 75 #[.val (.int x0), .val (.int x1), .val (.int x2), .val (.int x3), .val (.int x4), .val (.ref b1), .val (.ref b20), .val (.int (1 : Int32)), .unset, .unset, .unset] [(.int (1 : Int32))])) (fun t k => XS.iload X27.here hx rfl (hb hby at_73) rfl k) ?_
    refine own_stepW (st' := T27.setTop (mkF m 76 #[.val (.int x0), .val (.int x1), .val (.int x2), .val (.int x3), .val (.int x4), .val (.ref b1), .val (.ref b20), .val (.int (1 : Int32)), .unset, .unset, .unset] [(.int x2), (.int (1 : Int32))])) (fun t k => XS.iloadN X27.here hx rfl (hb hby at_75) rfl k) ?_
    refine own_stepW (st' := T27.setTop (mkF m 78 #[.val (.int x0), .val (.int x1), .val (.int x2), .val (.int x3), .val (.int x4), .val (.ref b1), .val (.ref b20), .val (.int (1 : Int32)), .unset, .unset, .unset] [(.int (2147483647 : Int32)), (.int x2), (.int (1 : Int32))])) (fun t k => X27.ldcInt hx hown (mvT hZ (own_h hw 30 rfl)) (g := (mkF m 76 #[.val (.int x0), .val (.int x1), .val (.int x2), .val (.int x3), .val (.int x4), .val (.ref b1), .val (.ref b20), .val (.int (1 : Int32)), .unset, .unset, .unset] [(.int x2), (.int (1 : Int32))])) rfl (hb hby at_76) t k) ?_
    refine own_stepW (st' := T27.setTop (mkF m 79 #[.val (.int x0), .val (.int x1), .val (.int x2), .val (.int x3), .val (.int x4), .val (.ref b1), .val (.ref b20), .val (.int (1 : Int32)), .unset, .unset, .unset] [(.int (x2 &&& (2147483647 : Int32))), (.int (1 : Int32))])) (fun t k => XS.iand X27.here hx rfl (hb hby at_78) rfl k) ?_
    refine own_stepW (st' := T27.setTop (mkF m 80 #[.val (.int x0), .val (.int x1), .val (.int x2), .val (.int x3), .val (.int x4), .val (.ref b1), .val (.ref b20), .val (.int (1 : Int32)), .unset, .unset, .unset] [(.int (5 : Int32)), (.int (x2 &&& (2147483647 : Int32))), (.int (1 : Int32))])) (fun t k => XS.iconst X27.here hx rfl (hb hby at_79) k) ?_
    refine own_stepW (st' := T27.setTop (mkF m 82 #[.val (.int x0), .val (.int x1), .val (.int x2), .val (.int x3), .val (.int x4), .val (.ref b1), .val (.ref b20), .val (.int (1 : Int32)), .unset, .unset, .unset] [(.int (1 : Int32)), (.int (5 : Int32)), (.int (x2 &&& (2147483647 : Int32))), (.int (1 : Int32))])) (fun t k => XS.iload X27.here hx rfl (hb hby at_80) rfl k) ?_
    refine own_stepW (st' := T27.setTop (mkF m 83 #[.val (.int x0), .val (.int x1), .val (.int x2), .val (.int x3), .val (.int x4), .val (.ref b1), .val (.ref b20), .val (.int (1 : Int32)), .unset, .unset, .unset] [(.int (4 : Int32)), (.int (x2 &&& (2147483647 : Int32))), (.int (1 : Int32))])) (fun t k => XS.isub X27.here hx rfl (hb hby at_82) rfl k) ?_
    refine own_stepW (st' := T27.setTop (mkF m 84 #[.val (.int x0), .val (.int x1), .val (.int x2), .val (.int x3), .val (.int x4), .val (.ref b1), .val (.ref b20), .val (.int (1 : Int32)), .unset, .unset, .unset] [(.int ((x2 &&& (2147483647 : Int32)) % (4 : Int32))), (.int (1 : Int32))])) (fun t k => iremM (g := (mkF m 83 #[.val (.int x0), .val (.int x1), .val (.int x2), .val (.int x3), .val (.int x4), .val (.ref b1), .val (.ref b20), .val (.int (1 : Int32)), .unset, .unset, .unset] [(.int (4 : Int32)), (.int (x2 &&& (2147483647 : Int32))), (.int (1 : Int32))])) X27 hx rfl (hb hby at_83) rfl (by decide) k) ?_
    rcases own_s4 x2 with hn277 | hn278 | hn279 | hn280
    · rw [hn277]
      refine own_stepW (st' := T27.setTop (mkF m 85 #[.val (.int x0), .val (.int x1), .val (.int x2), .val (.int x3), .val (.int x4), .val (.ref b1), .val (.ref b20), .val (.int (1 : Int32)), .unset, .unset, .unset] [(.int (1 : Int32))])) (fun t k => XS.iadd X27.here hx rfl (hb hby at_84) rfl k) ?_
      refine own_stepW (st' := T27.setTop (mkF m 87 #[.val (.int x0), .val (.int x1), .val (.int x2), .val (.int x3), .val (.int x4), .val (.ref b1), .val (.ref b20), .val (.int (1 : Int32)), .val (.int (1 : Int32)), .unset, .unset] [])) (fun t k => XS.istore X27.here hx rfl (hb hby at_85) rfl (l' := #[.val (.int x0), .val (.int x1), .val (.int x2), .val (.int x3), .val (.int x4), .val (.ref b1), .val (.ref b20), .val (.int (1 : Int32)), .val (.int (1 : Int32)), .unset, .unset]) rfl k) ?_
      obtain ⟨T281, h281, X281, e281, E281, A281, D281, -, st281⟩ := newO X27 hx hZ hown (own_h hw 31 rfl) (own_h hw 32 rfl) (own_h hw 33 rfl) e27 (g := (mkF m 87 #[.val (.int x0), .val (.int x1), .val (.int x2), .val (.int x3), .val (.int x4), .val (.ref b1), .val (.ref b20), .val (.int (1 : Int32)), .val (.int (1 : Int32)), .unset, .unset] [])) rfl (hb hby at_87) (by decide) (by decide)
      obtain ⟨b281, g281⟩ : ∃ z, z = h27.size := ⟨_, rfl⟩
      rw [← g281] at A281 D281 st281
      have ne282 : b1 ≠ b281 := Nat.ne_of_lt (Nat.lt_of_lt_of_le f30.lt (Nat.le_of_eq g281.symm))
      have ne283 : b20 ≠ b281 := Nat.ne_of_lt (Nat.lt_of_lt_of_le f31.lt (Nat.le_of_eq g281.symm))
      have ne284 : b_27 ≠ b281 := Nat.ne_of_lt (Nat.lt_of_lt_of_le pq27_3.lt (Nat.le_of_eq g281.symm))
      have g_b281 : n0 ≤ b281 := Nat.le_trans Z33 (Nat.le_of_eq g281.symm)
      have f285 := f30.ext E281
      have f286 := f31.ext E281
      have f287 := pq27_1.ext E281
      have f288 := pq27_2.ext E281
      have f289 := pq27_3.ext E281
      have O290 := O32.ext E281
      have Z291 : n0 ≤ h281.size := Nat.le_trans Z33 E281.1
      have f292 : Fld Z h281 b281 "com/example/lookahead/lookahead/runtime/Token" "terminal" "Lcom/example/lookahead/lookahead/core/Terminal;" .null := D281 (Or.inr (own_h hw 42 rfl)) (ty := (.object "com/example/lookahead/lookahead/core/Terminal")) (by decide)
      have f293 : Fld Z h281 b281 "com/example/lookahead/lookahead/runtime/Token" "input" "Ljava/lang/String;" .null := D281 (Or.inr (own_h hw 44 rfl)) (ty := (.object "java/lang/String")) (by decide)
      have f294 : Fld Z h281 b281 "com/example/lookahead/lookahead/runtime/Token" "start" "I" (.int (0 : Int32)) := D281 (Or.inr (own_h hw 46 rfl)) (ty := .int) (by decide)
      have f295 : Fld Z h281 b281 "com/example/lookahead/lookahead/runtime/Token" "end" "I" (.int (0 : Int32)) := D281 (Or.inr (own_h hw 48 rfl)) (ty := .int) (by decide)
      have f296 : Fld Z h281 b281 "com/example/lookahead/lookahead/runtime/Token" "line" "I" (.int (0 : Int32)) := D281 (Or.inr (own_h hw 50 rfl)) (ty := .int) (by decide)
      have f297 : Fld Z h281 b281 "com/example/lookahead/lookahead/runtime/Token" "column" "I" (.int (0 : Int32)) := D281 (Or.inr (own_h hw 52 rfl)) (ty := .int) (by decide)
      refine own_stepW (st' := T281.setTop (mkF m 90 #[.val (.int x0), .val (.int x1), .val (.int x2), .val (.int x3), .val (.int x4), .val (.ref b1), .val (.ref b20), .val (.int (1 : Int32)), .val (.int (1 : Int32)), .unset, .unset] [(.ref b281)])) st281 ?_
      refine own_stepW (st' := T281.setTop (mkF m 91 #[.val (.int x0), .val (.int x1), .val (.int x2), .val (.int x3), .val (.int x4), .val (.ref b1), .val (.ref b20), .val (.int (1 : Int32)), .val (.int (1 : Int32)), .unset, .unset] [(.ref b281), (.ref b281)])) (fun t k => XS.dup X281.here hx rfl (hb hby at_90) rfl rfl k) ?_
      obtain ⟨T298, X298, e298, st298⟩ := getS2 X281 hx hZ hown (host := "") (Or.inl (own_h hw 34 rfl)) Via.refl e281 (p_4.ext O290.2) (g := (mkF m 91 #[.val (.int x0), .val (.int x1), .val (.int x2), .val (.int x3), .val (.int x4), .val (.ref b1), .val (.ref b20), .val (.int (1 : Int32)), .val (.int (1 : Int32)), .unset, .unset] [(.ref b281), (.ref b281)])) rfl (hb hby at_91)
      refine own_stepW (st' := T298.setTop (mkF m 94 #[.val (.int x0), .val (.int x1), .val (.int x2), .val (.int x3), .val (.int x4), .val (.ref b1), .val (.ref b20), .val (.int (1 : Int32)), .val (.int (1 : Int32)), .unset, .unset] [(.ref tm), (.ref b281), (.ref b281)])) st298 ?_
      refine own_stepW (st' := T298.setTop (mkF m 96 #[.val (.int x0), .val (.int x1), .val (.int x2), .val (.int x3), .val (.int x4), .val (.ref b1), .val (.ref b20), .val (.int (1 : Int32)), .val (.int (1 : Int32)), .unset, .unset] [(.ref b20), (.ref tm), (.ref b281), (.ref b281)])) (fun t k => XS.aload X298.here hx rfl (hb hby at_94) rfl rfl k) ?_
      refine own_stepW (st' := T298.setTop (mkF m 98 #[.val (.int x0), .val (.int x1), .val (.int x2), .val (.int x3), .val (.int x4), .val (.ref b1), .val (.ref b20), .val (.int (1 : Int32)), .val (.int (1 : Int32)), .unset, .unset] [(.int (1 : Int32)), (.ref b20), (.ref tm), (.ref b281), (.ref b281)])) (fun t k => XS.iload X298.here hx rfl (hb hby at_96) rfl k) ?_
      refine own_stepW (st' := T298.setTop (mkF m 100 #[.val (.int x0), .val (.int x1), .val (.int x2), .val (.int x3), .val (.int x4), .val (.ref b1), .val (.ref b20), .val (.int (1 : Int32)), .val (.int (1 : Int32)), .unset, .unset] [(.int (1 : Int32)), (.int (1 : Int32)), (.ref b20), (.ref tm), (.ref b281), (.ref b281)])) (fun t k => XS.iload X298.here hx rfl (hb hby at_98) rfl k) ?_
      refine own_stepW (st' := T298.setTop (mkF m 101 #[.val (.int x0), .val (.int x1), .val (.int x2), .val (.int x3), .val (.int x4), .val (.ref b1), .val (.ref b20), .val (.int (1 : Int32)), .val (.int (1 : Int32)), .unset, .unset] [(.int x3), (.int (1 : Int32)), (.int (1 : Int32)), (.ref b20), (.ref tm), (.ref b281), (.ref b281)])) (fun t k => XS.iloadN X298.here hx rfl (hb hby at_100) rfl k) ?_
      refine own_stepW (st' := T298.setTop (mkF m 103 #[.val (.int x0), .val (.int x1), .val (.int x2), .val (.int x3), .val (.int x4), .val (.ref b1), .val (.ref b20), .val (.int (1 : Int32)), .val (.int (1 : Int32)), .unset, .unset] [(.int x4), (.int x3), (.int (1 : Int32)), (.int (1 : Int32)), (.ref b20), (.ref tm), (.ref b281), (.ref b281)])) (fun t k => XS.iload X298.here hx rfl (hb hby at_101) rfl k) ?_
      obtain ⟨_, _, ⟨T299, L299, k299, n299⟩, -, X299, ⟨Lc299, hQ299, l299, y299, z299⟩, st299⟩ := X298.specialBack hx (y := (⟨"com/example/lookahead/lookahead/runtime/Token", "<init>", "(Lcom/example/lookahead/lookahead/core/Terminal;Ljava/lang/String;IIII)V"⟩ : MethodName)) rfl hown (mvT hZ (own_h hw 37 rfl)) (mvT hZ (own_h hw 38 rfl)) (mvT hZ (own_h hw 39 rfl)) (by decide) (backOf (W := 1) (rm7 l Z a0 hw [] b281 tm b20 (1 : Int32) (1 : Int32) x3 x4 h281 n0 Z291 f292 f293 f294 f295 f296 f297 A281 g_b281) hZ (own_h hw 39 rfl) (own_h hw 33 rfl) (by decide) (by decide)) (g := (mkF m 103 #[.val (.int x0), .val (.int x1), .val (.int x2), .val (.int x3), .val (.int x4), .val (.ref b1), .val (.ref b20), .val (.int (1 : Int32)), .val (.int (1 : Int32)), .unset, .unset] [(.int x4), (.int x3), (.int (1 : Int32)), (.int (1 : Int32)), (.ref b20), (.ref tm), (.ref b281), (.ref b281)])) rfl (by rw [hml]; rfl) (Steps.refl _) (a := b281) (argsL := [(.ref tm), (.ref b20), (.int (1 : Int32)), (.int (1 : Int32)), (.int x3), (.int x4)]) (rest := [(.ref b281)]) (lenOf pd_6 rfl) rfl (by show 2 * 0 + _ ≤ _; exact Nat.le_of_eq rfl) (hb hby at_103) (fun _ _ => ⟨rfl, e298, (by decide : 4 + 0 ≤ _), (by decide : 18 + 0 ≤ _)⟩)
      dsimp only [Pt.U, Pt.locs, Pt.cells, Pt.slots] at X299 l299 y299 z299 st299 hQ299
      subst y299 z299
      obtain ⟨rfl, N299q, K299, pq299_0, pq299_1, pq299_2⟩ := hQ299
      have N299 := Fr.app N27 N299q
      rw [← l299] at N299
      clear l299
      obtain ⟨h299, e299⟩ : ∃ z, T299.heap = z := ⟨_, rfl⟩
      rw [e299] at K299 pq299_0 pq299_1 pq299_2
      have f300 := f285.keep K299 (ninS ne282 nin0)
      have f301 := f286.keep K299
      have f302 := f287.keep K299 (ninS ne283 nin0)
      have f303 := f288.keep K299 (ninS ne283 nin0)
      have f304 := f289.keep K299 (ninS ne284 nin0)
      have f305 := A281.keep K299
      have O306 := O290.keep K299 (allS g_b281 all0)
      have Z307 : n0 ≤ h299.size := Nat.le_trans Z291 K299.1
      refine own_stepW (st' := T299.setTop (mkF m 106 #[.val (.int x0), .val (.int x1), .val (.int x2), .val (.int x3), .val (.int x4), .val (.ref b1), .val (.ref b20), .val (.int (1 : Int32)), .val (.int (1 : Int32)), .unset, .unset] [(.ref b281)])) (fun t k => st299.trans k) ?_
      refine own_stepW (st' := T299.setTop (mkF m 108 #[.val (.int x0), .val (.int x1), .val (.int x2), .val (.int x3), .val (.int x4), .val (.ref b1), .val (.ref b20), .val (.int (1 : Int32)), .val (.int (1 : Int32)), .val (.ref b281), .unset] [])) (fun t k => XS.astore X299.here hx rfl (hb hby at_106) rfl rfl (l' := #[.val (.int x0), .val (.int x1), .val (.int x2), .val (.int x3), .val (.int x4), .val (.ref b1), .val (.ref b20), .val (.int (1 : Int32)), .val (.int (1 : Int32)), .val (.ref b281), .unset]) rfl k) ?_
      refine own_stepW (st' := T299.setTop (mkF m 110 #[.val (.int x0), .val (.int x1), .val (.int x2), .val (.int x3), .val (.int x4), .val (.ref b1), .val (.ref b20), .val (.int (1 : Int32)), .val (.int (1 : Int32)), .val (.ref b281), .unset] [(.ref b281)])) (fun t k => XS.aload X299.here hx rfl (hb hby at_108) rfl rfl k) ?_
      obtain ⟨cq308, kq308, q308a, q308b, q308c⟩ := isOf hZ e299 f305
      obtain ⟨_, _, ⟨T308, L308, k308, n308⟩, -, X308, hS308, hgr308, ⟨Lc308, hQ308, l308, y308, z308⟩, st308⟩ := X299.virtualBackS hx (y := (⟨"com/example/lookahead/lookahead/runtime/Token", "text", "()Ljava/lang/String;"⟩ : MethodName)) (z := (⟨"com/example/lookahead/lookahead/runtime/Token", "text", "()Ljava/lang/String;"⟩ : MethodName)) hown (mvT hZ (own_h hw 53 rfl)) (mvT hZ (own_h hw 54 rfl)) (notFace_of_selects (args := #[]) (mvT hZ (own_h hw 56 rfl))) (mvT hZ (own_h hw 56 rfl)) (mvT hZ (own_h hw 55 rfl)) (by decide) (own_backS (W := 0) (rmT0 l Z a0 hw [] b281 b20 (1 : Int32) (1 : Int32) b_27 kb_27 [(.int ((q0.toInt8.toInt32).toInt8.toInt32)), (.int ((q1.toInt8.toInt32).toInt8.toInt32)), (.int ((q2.toInt8.toInt32).toInt8.toInt32)), (.int ((q3.toInt8.toInt32).toInt8.toInt32))] cs fm h299 n0 Z307 O306 pq299_0 pq299_1 pq299_2 f301 f302 f303 f304 p_0 p_1 p_2 p_3 ⟨by decide, by decide⟩ rfl p_5) hZH (own_h hw 57 rfl) (own_h hw 33 rfl) (by decide) (by decide)) q308a q308c (g := (mkF m 110 #[.val (.int x0), .val (.int x1), .val (.int x2), .val (.int x3), .val (.int x4), .val (.ref b1), .val (.ref b20), .val (.int (1 : Int32)), .val (.int (1 : Int32)), .val (.ref b281), .unset] [(.ref b281)])) rfl (by rw [hml]; rfl) (Steps.refl _) (argsL := []) (rest := []) (lenOf pd_7 rfl) rfl (by show 2 * 0 + _ ≤ _; exact Nat.le_of_eq rfl) (hb hby at_110) (fun _ _ => ⟨rfl, e299, (by decide : 4 + 2 ≤ _), (by decide : 18 + 4 ≤ _)⟩)
      dsimp only [Pt.U, Pt.locs, Pt.cells, Pt.slots] at X308 l308 y308 z308 st308 hQ308 hS308
      subst y308 z308
      obtain ⟨r_308, b_308, kb_308, rfl, N308q, K308, pq308_0, pq308_1, pq308_2, pq308_3⟩ := hQ308
      have N308 := Fr.app N299 N308q
      rw [← l308] at N308
      clear l308
      obtain ⟨h308, e308⟩ : ∃ z, T308.heap = z := ⟨_, rfl⟩
      rw [e308] at K308 pq308_0 pq308_1 pq308_2 pq308_3
      have f309 := f300.keep K308 nin0
      have f310 := f301.keep K308
      have f311 := f302.keep K308 nin0
      have f312 := f303.keep K308 nin0
      have f313 := f304.keep K308 nin0
      have f314 := f305.keep K308
      have f315 := pq299_0.keep K308 nin0
      have f316 := pq299_1.keep K308 nin0
      have f317 := pq299_2.keep K308 nin0
      have O318 := O306.keep K308 all0
      have Z319 : n0 ≤ h308.size := Nat.le_trans Z307 K308.1
      have hZ : Z.Warmed39 (s.setVm T308.vm).vm := State.Warmed39.trans (t := s) hZ hS308.1
      have hown : (s.setVm T308.vm).vm.findClass "com/example/lookahead/lookahead/runtime/TokenTextPinLaw" = some m.cls := by rw [show (s.setVm T308.vm).vm = T308.vm from rfl, hS308.1.alike.findClass]; exact hown
      refine own_stepW (st' := T308.setTop (mkF m 113 #[.val (.int x0), .val (.int x1), .val (.int x2), .val (.int x3), .val (.int x4), .val (.ref b1), .val (.ref b20), .val (.int (1 : Int32)), .val (.int (1 : Int32)), .val (.ref b281), .unset] [(.ref r_308)])) (fun t k => st308.trans k) ?_
      refine own_stepW (st' := T308.setTop (mkF m 115 #[.val (.int x0), .val (.int x1), .val (.int x2), .val (.int x3), .val (.int x4), .val (.ref b1), .val (.ref b20), .val (.int (1 : Int32)), .val (.int (1 : Int32)), .val (.ref b281), .val (.ref r_308)] [])) (fun t k => XS.astore X308.here hx rfl (hb hby at_113) rfl rfl (l' := #[.val (.int x0), .val (.int x1), .val (.int x2), .val (.int x3), .val (.int x4), .val (.ref b1), .val (.ref b20), .val (.int (1 : Int32)), .val (.int (1 : Int32)), .val (.ref b281), .val (.ref r_308)]) rfl k) ?_
      refine own_stepW (st' := T308.setTop (mkF m 117 #[.val (.int x0), .val (.int x1), .val (.int x2), .val (.int x3), .val (.int x4), .val (.ref b1), .val (.ref b20), .val (.int (1 : Int32)), .val (.int (1 : Int32)), .val (.ref b281), .val (.ref r_308)] [(.ref r_308)])) (fun t k => XS.aload X308.here hx rfl (hb hby at_115) rfl rfl k) ?_
      refine own_stepW (st' := T308.setTop (mkF m 122 #[.val (.int x0), .val (.int x1), .val (.int x2), .val (.int x3), .val (.int x4), .val (.ref b1), .val (.ref b20), .val (.int (1 : Int32)), .val (.int (1 : Int32)), .val (.ref b281), .val (.ref r_308)] [])) (fun t k => XS.ifnonnullYes X308.here hx rfl (pc0 := 117) (pc' := 122) rfl (hb hby at_117) rfl (by decide) (by decide) k) ?_
      refine own_stepW (st' := T308.setTop (mkF m 124 #[.val (.int x0), .val (.int x1), .val (.int x2), .val (.int x3), .val (.int x4), .val (.ref b1), .val (.ref b20), .val (.int (1 : Int32)), .val (.int (1 : Int32)), .val (.ref b281), .val (.ref r_308)] [(.ref r_308)])) (fun t k => XS.aload X308.here hx rfl (hb hby at_122) rfl rfl k) ?_
      obtain ⟨cq320, kq320, q320a, q320b, q320c⟩ := isOf hZ e308 pq308_0
      obtain ⟨_, _, ⟨T320, L320, k320, n320⟩, -, X320, ⟨Lc320, hQ320, l320, y320, z320⟩, st320⟩ := X308.virtualBack hx (y := (⟨"java/lang/String", "length", "()I"⟩ : MethodName)) (z := (⟨"java/lang/String", "length", "()I"⟩ : MethodName)) hown (mvT hZ (own_h hw 93 rfl)) (mvT hZ (own_h hw 64 rfl)) (notFace_of_selects (args := #[]) (mvT hZ (own_h hw 66 rfl))) (mvT hZ (own_h hw 66 rfl)) (mvT hZ (own_h hw 65 rfl)) (by decide) (backOf (W := 0) (rm10 l Z a0 hw [] r_308 b_308 kb_308 (0 : Int32) [] cs h308 n0 Z319 O318 pq308_0 pq308_1 pq308_2 pq308_3 p_0 p_1) hZ (own_h hw 67 rfl) (own_h hw 3 rfl) (by decide) (by decide)) q320a q320c (g := (mkF m 124 #[.val (.int x0), .val (.int x1), .val (.int x2), .val (.int x3), .val (.int x4), .val (.ref b1), .val (.ref b20), .val (.int (1 : Int32)), .val (.int (1 : Int32)), .val (.ref b281), .val (.ref r_308)] [(.ref r_308)])) rfl (by rw [hml]; rfl) (Steps.refl _) (argsL := []) (rest := []) (lenOf pd_9 rfl) rfl (by show 2 * 0 + _ ≤ _; exact Nat.le_of_eq rfl) (hb hby at_124) (fun _ _ => ⟨rfl, e308, (by decide : 6 + 0 ≤ _), (by decide : 22 + 0 ≤ _)⟩)
      dsimp only [Pt.U, Pt.locs, Pt.cells, Pt.slots] at X320 l320 y320 z320 st320 hQ320
      subst y320 z320
      obtain ⟨rfl, N320q, e320⟩ := hQ320
      have N320 := Fr.app N308 N320q
      rw [← l320] at N320
      clear l320
      refine own_stepW (st' := T320.setTop (mkF m 127 #[.val (.int x0), .val (.int x1), .val (.int x2), .val (.int x3), .val (.int x4), .val (.ref b1), .val (.ref b20), .val (.int (1 : Int32)), .val (.int (1 : Int32)), .val (.ref b281), .val (.ref r_308)] [(.int (0 : Int32))])) (fun t k => st320.trans k) ?_
      refine own_stepW (st' := T320.setTop (mkF m 129 #[.val (.int x0), .val (.int x1), .val (.int x2), .val (.int x3), .val (.int x4), .val (.ref b1), .val (.ref b20), .val (.int (1 : Int32)), .val (.int (1 : Int32)), .val (.ref b281), .val (.ref r_308)] [(.int (1 : Int32)), (.int (0 : Int32))])) (fun t k => XS.iload X320.here hx rfl (hb hby at_127) rfl k) ?_
      refine own_stepW (st' := T320.setTop (mkF m 131 #[.val (.int x0), .val (.int x1), .val (.int x2), .val (.int x3), .val (.int x4), .val (.ref b1), .val (.ref b20), .val (.int (1 : Int32)), .val (.int (1 : Int32)), .val (.ref b281), .val (.ref r_308)] [(.int (1 : Int32)), (.int (1 : Int32)), (.int (0 : Int32))])) (fun t k => XS.iload X320.here hx rfl (hb hby at_129) rfl k) ?_
      refine own_stepW (st' := T320.setTop (mkF m 132 #[.val (.int x0), .val (.int x1), .val (.int x2), .val (.int x3), .val (.int x4), .val (.ref b1), .val (.ref b20), .val (.int (1 : Int32)), .val (.int (1 : Int32)), .val (.ref b281), .val (.ref r_308)] [(.int (0 : Int32)), (.int (0 : Int32))])) (fun t k => XS.isub X320.here hx rfl (hb hby at_131) rfl k) ?_
      refine own_stepW (st' := T320.setTop (mkF m 137 #[.val (.int x0), .val (.int x1), .val (.int x2), .val (.int x3), .val (.int x4), .val (.ref b1), .val (.ref b20), .val (.int (1 : Int32)), .val (.int (1 : Int32)), .val (.ref b281), .val (.ref r_308)] [])) (fun t k => XS.icmpYes X320.here hx rfl (pc0 := 132) (pc' := 137) rfl (hb hby at_132) rfl (teq (by decide)).1 (by decide) (by decide) k) ?_
      refine own_stepW (st' := T320.setTop (mkF m 139 #[.val (.int x0), .val (.int x1), .val (.int x2), .val (.int x3), .val (.int x4), .val (.ref b1), .val (.ref b20), .val (.int (1 : Int32)), .val (.int (1 : Int32)), .val (.ref b281), .val (.ref r_308)] [(.ref r_308)])) (fun t k => XS.aload X320.here hx rfl (hb hby at_137) rfl rfl k) ?_
      refine own_stepW (st' := T320.setTop (mkF m 141 #[.val (.int x0), .val (.int x1), .val (.int x2), .val (.int x3), .val (.int x4), .val (.ref b1), .val (.ref b20), .val (.int (1 : Int32)), .val (.int (1 : Int32)), .val (.ref b281), .val (.ref r_308)] [(.ref b1), (.ref r_308)])) (fun t k => XS.aload X320.here hx rfl (hb hby at_139) rfl rfl k) ?_
      refine own_stepW (st' := T320.setTop (mkF m 143 #[.val (.int x0), .val (.int x1), .val (.int x2), .val (.int x3), .val (.int x4), .val (.ref b1), .val (.ref b20), .val (.int (1 : Int32)), .val (.int (1 : Int32)), .val (.ref b281), .val (.ref r_308)] [(.int (1 : Int32)), (.ref b1), (.ref r_308)])) (fun t k => XS.iload X320.here hx rfl (hb hby at_141) rfl k) ?_
      refine own_stepW (st' := T320.setTop (mkF m 145 #[.val (.int x0), .val (.int x1), .val (.int x2), .val (.int x3), .val (.int x4), .val (.ref b1), .val (.ref b20), .val (.int (1 : Int32)), .val (.int (1 : Int32)), .val (.ref b281), .val (.ref r_308)] [(.int (1 : Int32)), (.int (1 : Int32)), (.ref b1), (.ref r_308)])) (fun t k => XS.iload X320.here hx rfl (hb hby at_143) rfl k) ?_
      refine own_stepW (st' := T320.setTop (mkF m 146 #[.val (.int x0), .val (.int x1), .val (.int x2), .val (.int x3), .val (.int x4), .val (.ref b1), .val (.ref b20), .val (.int (1 : Int32)), .val (.int (1 : Int32)), .val (.ref b281), .val (.ref r_308)] [(.int (0 : Int32)), (.int (1 : Int32)), (.int (1 : Int32)), (.ref b1), (.ref r_308)])) (fun t k => XS.iconst X320.here hx rfl (hb hby at_145) k) ?_
      obtain ⟨_, _, ⟨T321, L321, k321, n321⟩, -, X321, ⟨Lc321, hQ321, l321, y321, z321⟩, st321⟩ := Jvm.LawKit.callS X320 hx (y := (⟨"com/example/lookahead/lookahead/runtime/TokenTextPinLaw", "charOk", "(Ljava/lang/String;[CIII)Z"⟩ : MethodName)) hown (mvT hZ (own_h hw 94 rfl)) (mvT hZ (own_h hw 95 rfl)) (mvT hZ (own_h hw 96 rfl)) (mvT hZ (own_h hw 97 rfl)) (by decide) (backOf (W := 0) (rmK1 l Z a0 hw [] r_308 b1 (1 : Int32) (1 : Int32) (0 : Int32) h308 n0 Z319 (by decide)) hZ (own_h hw 97 rfl) (own_h hw 96 rfl) (by decide) (by decide)) (g := (mkF m 146 #[.val (.int x0), .val (.int x1), .val (.int x2), .val (.int x3), .val (.int x4), .val (.ref b1), .val (.ref b20), .val (.int (1 : Int32)), .val (.int (1 : Int32)), .val (.ref b281), .val (.ref r_308)] [(.int (0 : Int32)), (.int (1 : Int32)), (.int (1 : Int32)), (.ref b1), (.ref r_308)])) rfl (by rw [hml]; rfl) (argsL := [(.ref r_308), (.ref b1), (.int (1 : Int32)), (.int (1 : Int32)), (.int (0 : Int32))]) (rest := []) (lenOf pd_15 rfl) rfl (by show 2 * 0 + _ ≤ _; exact Nat.le_of_eq rfl) (hb hby at_146) (fun _ _ => ⟨rfl, e320, (by decide : 6 + 0 ≤ _), (by decide : 22 + 0 ≤ _)⟩)
      dsimp only [Pt.U, Pt.locs, Pt.cells, Pt.slots] at X321 l321 y321 z321 st321 hQ321
      subst y321 z321
      obtain ⟨rfl, N321q, e321⟩ := hQ321
      have N321 := Fr.app N320 N321q
      rw [← l321] at N321
      clear l321
      refine own_stepW (st' := T321.setTop (mkF m 149 #[.val (.int x0), .val (.int x1), .val (.int x2), .val (.int x3), .val (.int x4), .val (.ref b1), .val (.ref b20), .val (.int (1 : Int32)), .val (.int (1 : Int32)), .val (.ref b281), .val (.ref r_308)] [(.int (1 : Int32))])) st321 ?_
      refine own_stepW (st' := T321.setTop (mkF m 152 #[.val (.int x0), .val (.int x1), .val (.int x2), .val (.int x3), .val (.int x4), .val (.ref b1), .val (.ref b20), .val (.int (1 : Int32)), .val (.int (1 : Int32)), .val (.ref b281), .val (.ref r_308)] [])) (fun t k => XS.ifNo X321.here hx rfl (hb hby at_149) rfl ((if0 _ _).trans (feq (by decide)).1) k) ?_
      refine own_stepW (st' := T321.setTop (mkF m 154 #[.val (.int x0), .val (.int x1), .val (.int x2), .val (.int x3), .val (.int x4), .val (.ref b1), .val (.ref b20), .val (.int (1 : Int32)), .val (.int (1 : Int32)), .val (.ref b281), .val (.ref r_308)] [(.ref r_308)])) (fun t k => XS.aload X321.here hx rfl (hb hby at_152) rfl rfl k) ?_
      refine own_stepW (st' := T321.setTop (mkF m 156 #[.val (.int x0), .val (.int x1), .val (.int x2), .val (.int x3), .val (.int x4), .val (.ref b1), .val (.ref b20), .val (.int (1 : Int32)), .val (.int (1 : Int32)), .val (.ref b281), .val (.ref r_308)] [(.ref b1), (.ref r_308)])) (fun t k => XS.aload X321.here hx rfl (hb hby at_154) rfl rfl k) ?_
      refine own_stepW (st' := T321.setTop (mkF m 158 #[.val (.int x0), .val (.int x1), .val (.int x2), .val (.int x3), .val (.int x4), .val (.ref b1), .val (.ref b20), .val (.int (1 : Int32)), .val (.int (1 : Int32)), .val (.ref b281), .val (.ref r_308)] [(.int (1 : Int32)), (.ref b1), (.ref r_308)])) (fun t k => XS.iload X321.here hx rfl (hb hby at_156) rfl k) ?_
      refine own_stepW (st' := T321.setTop (mkF m 160 #[.val (.int x0), .val (.int x1), .val (.int x2), .val (.int x3), .val (.int x4), .val (.ref b1), .val (.ref b20), .val (.int (1 : Int32)), .val (.int (1 : Int32)), .val (.ref b281), .val (.ref r_308)] [(.int (1 : Int32)), (.int (1 : Int32)), (.ref b1), (.ref r_308)])) (fun t k => XS.iload X321.here hx rfl (hb hby at_158) rfl k) ?_
      refine own_stepW (st' := T321.setTop (mkF m 161 #[.val (.int x0), .val (.int x1), .val (.int x2), .val (.int x3), .val (.int x4), .val (.ref b1), .val (.ref b20), .val (.int (1 : Int32)), .val (.int (1 : Int32)), .val (.ref b281), .val (.ref r_308)] [(.int (1 : Int32)), (.int (1 : Int32)), (.int (1 : Int32)), (.ref b1), (.ref r_308)])) (fun t k => XS.iconst X321.here hx rfl (hb hby at_160) k) ?_
      obtain ⟨_, _, ⟨T322, L322, k322, n322⟩, -, X322, ⟨Lc322, hQ322, l322, y322, z322⟩, st322⟩ := Jvm.LawKit.callS X321 hx (y := (⟨"com/example/lookahead/lookahead/runtime/TokenTextPinLaw", "charOk", "(Ljava/lang/String;[CIII)Z"⟩ : MethodName)) hown (mvT hZ (own_h hw 94 rfl)) (mvT hZ (own_h hw 95 rfl)) (mvT hZ (own_h hw 96 rfl)) (mvT hZ (own_h hw 97 rfl)) (by decide) (backOf (W := 0) (rmK1 l Z a0 hw [] r_308 b1 (1 : Int32) (1 : Int32) (1 : Int32) h308 n0 Z319 (by decide)) hZ (own_h hw 97 rfl) (own_h hw 96 rfl) (by decide) (by decide)) (g := (mkF m 161 #[.val (.int x0), .val (.int x1), .val (.int x2), .val (.int x3), .val (.int x4), .val (.ref b1), .val (.ref b20), .val (.int (1 : Int32)), .val (.int (1 : Int32)), .val (.ref b281), .val (.ref r_308)] [(.int (1 : Int32)), (.int (1 : Int32)), (.int (1 : Int32)), (.ref b1), (.ref r_308)])) rfl (by rw [hml]; rfl) (argsL := [(.ref r_308), (.ref b1), (.int (1 : Int32)), (.int (1 : Int32)), (.int (1 : Int32))]) (rest := []) (lenOf pd_15 rfl) rfl (by show 2 * 0 + _ ≤ _; exact Nat.le_of_eq rfl) (hb hby at_161) (fun _ _ => ⟨rfl, e321, (by decide : 6 + 0 ≤ _), (by decide : 22 + 0 ≤ _)⟩)
      dsimp only [Pt.U, Pt.locs, Pt.cells, Pt.slots] at X322 l322 y322 z322 st322 hQ322
      subst y322 z322
      obtain ⟨rfl, N322q, e322⟩ := hQ322
      have N322 := Fr.app N321 N322q
      rw [← l322] at N322
      clear l322
      refine own_stepW (st' := T322.setTop (mkF m 164 #[.val (.int x0), .val (.int x1), .val (.int x2), .val (.int x3), .val (.int x4), .val (.ref b1), .val (.ref b20), .val (.int (1 : Int32)), .val (.int (1 : Int32)), .val (.ref b281), .val (.ref r_308)] [(.int (1 : Int32))])) st322 ?_
      refine own_stepW (st' := T322.setTop (mkF m 167 #[.val (.int x0), .val (.int x1), .val (.int x2), .val (.int x3), .val (.int x4), .val (.ref b1), .val (.ref b20), .val (.int (1 : Int32)), .val (.int (1 : Int32)), .val (.ref b281), .val (.ref r_308)] [])) (fun t k => XS.ifNo X322.here hx rfl (hb hby at_164) rfl ((if0 _ _).trans (feq (by decide)).1) k) ?_
      refine own_stepW (st' := T322.setTop (mkF m 169 #[.val (.int x0), .val (.int x1), .val (.int x2), .val (.int x3), .val (.int x4), .val (.ref b1), .val (.ref b20), .val (.int (1 : Int32)), .val (.int (1 : Int32)), .val (.ref b281), .val (.ref r_308)] [(.ref r_308)])) (fun t k => XS.aload X322.here hx rfl (hb hby at_167) rfl rfl k) ?_
      refine own_stepW (st' := T322.setTop (mkF m 171 #[.val (.int x0), .val (.int x1), .val (.int x2), .val (.int x3), .val (.int x4), .val (.ref b1), .val (.ref b20), .val (.int (1 : Int32)), .val (.int (1 : Int32)), .val (.ref b281), .val (.ref r_308)] [(.ref b1), (.ref r_308)])) (fun t k => XS.aload X322.here hx rfl (hb hby at_169) rfl rfl k) ?_
      refine own_stepW (st' := T322.setTop (mkF m 173 #[.val (.int x0), .val (.int x1), .val (.int x2), .val (.int x3), .val (.int x4), .val (.ref b1), .val (.ref b20), .val (.int (1 : Int32)), .val (.int (1 : Int32)), .val (.ref b281), .val (.ref r_308)] [(.int (1 : Int32)), (.ref b1), (.ref r_308)])) (fun t k => XS.iload X322.here hx rfl (hb hby at_171) rfl k) ?_
      refine own_stepW (st' := T322.setTop (mkF m 175 #[.val (.int x0), .val (.int x1), .val (.int x2), .val (.int x3), .val (.int x4), .val (.ref b1), .val (.ref b20), .val (.int (1 : Int32)), .val (.int (1 : Int32)), .val (.ref b281), .val (.ref r_308)] [(.int (1 : Int32)), (.int (1 : Int32)), (.ref b1), (.ref r_308)])) (fun t k => XS.iload X322.here hx rfl (hb hby at_173) rfl k) ?_
      refine own_stepW (st' := T322.setTop (mkF m 176 #[.val (.int x0), .val (.int x1), .val (.int x2), .val (.int x3), .val (.int x4), .val (.ref b1), .val (.ref b20), .val (.int (1 : Int32)), .val (.int (1 : Int32)), .val (.ref b281), .val (.ref r_308)] [(.int (2 : Int32)), (.int (1 : Int32)), (.int (1 : Int32)), (.ref b1), (.ref r_308)])) (fun t k => XS.iconst X322.here hx rfl (hb hby at_175) k) ?_
      obtain ⟨_, _, ⟨T323, L323, k323, n323⟩, -, X323, ⟨Lc323, hQ323, l323, y323, z323⟩, st323⟩ := Jvm.LawKit.callS X322 hx (y := (⟨"com/example/lookahead/lookahead/runtime/TokenTextPinLaw", "charOk", "(Ljava/lang/String;[CIII)Z"⟩ : MethodName)) hown (mvT hZ (own_h hw 94 rfl)) (mvT hZ (own_h hw 95 rfl)) (mvT hZ (own_h hw 96 rfl)) (mvT hZ (own_h hw 97 rfl)) (by decide) (backOf (W := 0) (rmK1 l Z a0 hw [] r_308 b1 (1 : Int32) (1 : Int32) (2 : Int32) h308 n0 Z319 (by decide)) hZ (own_h hw 97 rfl) (own_h hw 96 rfl) (by decide) (by decide)) (g := (mkF m 176 #[.val (.int x0), .val (.int x1), .val (.int x2), .val (.int x3), .val (.int x4), .val (.ref b1), .val (.ref b20), .val (.int (1 : Int32)), .val (.int (1 : Int32)), .val (.ref b281), .val (.ref r_308)] [(.int (2 : Int32)), (.int (1 : Int32)), (.int (1 : Int32)), (.ref b1), (.ref r_308)])) rfl (by rw [hml]; rfl) (argsL := [(.ref r_308), (.ref b1), (.int (1 : Int32)), (.int (1 : Int32)), (.int (2 : Int32))]) (rest := []) (lenOf pd_15 rfl) rfl (by show 2 * 0 + _ ≤ _; exact Nat.le_of_eq rfl) (hb hby at_176) (fun _ _ => ⟨rfl, e322, (by decide : 6 + 0 ≤ _), (by decide : 22 + 0 ≤ _)⟩)
      dsimp only [Pt.U, Pt.locs, Pt.cells, Pt.slots] at X323 l323 y323 z323 st323 hQ323
      subst y323 z323
      obtain ⟨rfl, N323q, e323⟩ := hQ323
      have N323 := Fr.app N322 N323q
      rw [← l323] at N323
      clear l323
      refine own_stepW (st' := T323.setTop (mkF m 179 #[.val (.int x0), .val (.int x1), .val (.int x2), .val (.int x3), .val (.int x4), .val (.ref b1), .val (.ref b20), .val (.int (1 : Int32)), .val (.int (1 : Int32)), .val (.ref b281), .val (.ref r_308)] [(.int (1 : Int32))])) st323 ?_
      refine own_stepW (st' := T323.setTop (mkF m 182 #[.val (.int x0), .val (.int x1), .val (.int x2), .val (.int x3), .val (.int x4), .val (.ref b1), .val (.ref b20), .val (.int (1 : Int32)), .val (.int (1 : Int32)), .val (.ref b281), .val (.ref r_308)] [])) (fun t k => XS.ifNo X323.here hx rfl (hb hby at_179) rfl ((if0 _ _).trans (feq (by decide)).1) k) ?_
      refine own_stepW (st' := T323.setTop (mkF m 184 #[.val (.int x0), .val (.int x1), .val (.int x2), .val (.int x3), .val (.int x4), .val (.ref b1), .val (.ref b20), .val (.int (1 : Int32)), .val (.int (1 : Int32)), .val (.ref b281), .val (.ref r_308)] [(.ref r_308)])) (fun t k => XS.aload X323.here hx rfl (hb hby at_182) rfl rfl k) ?_
      refine own_stepW (st' := T323.setTop (mkF m 186 #[.val (.int x0), .val (.int x1), .val (.int x2), .val (.int x3), .val (.int x4), .val (.ref b1), .val (.ref b20), .val (.int (1 : Int32)), .val (.int (1 : Int32)), .val (.ref b281), .val (.ref r_308)] [(.ref b1), (.ref r_308)])) (fun t k => XS.aload X323.here hx rfl (hb hby at_184) rfl rfl k) ?_
      refine own_stepW (st' := T323.setTop (mkF m 188 #[.val (.int x0), .val (.int x1), .val (.int x2), .val (.int x3), .val (.int x4), .val (.ref b1), .val (.ref b20), .val (.int (1 : Int32)), .val (.int (1 : Int32)), .val (.ref b281), .val (.ref r_308)] [(.int (1 : Int32)), (.ref b1), (.ref r_308)])) (fun t k => XS.iload X323.here hx rfl (hb hby at_186) rfl k) ?_
      refine own_stepW (st' := T323.setTop (mkF m 190 #[.val (.int x0), .val (.int x1), .val (.int x2), .val (.int x3), .val (.int x4), .val (.ref b1), .val (.ref b20), .val (.int (1 : Int32)), .val (.int (1 : Int32)), .val (.ref b281), .val (.ref r_308)] [(.int (1 : Int32)), (.int (1 : Int32)), (.ref b1), (.ref r_308)])) (fun t k => XS.iload X323.here hx rfl (hb hby at_188) rfl k) ?_
      refine own_stepW (st' := T323.setTop (mkF m 191 #[.val (.int x0), .val (.int x1), .val (.int x2), .val (.int x3), .val (.int x4), .val (.ref b1), .val (.ref b20), .val (.int (1 : Int32)), .val (.int (1 : Int32)), .val (.ref b281), .val (.ref r_308)] [(.int (3 : Int32)), (.int (1 : Int32)), (.int (1 : Int32)), (.ref b1), (.ref r_308)])) (fun t k => XS.iconst X323.here hx rfl (hb hby at_190) k) ?_
      obtain ⟨_, _, ⟨T324, L324, k324, n324⟩, -, X324, ⟨Lc324, hQ324, l324, y324, z324⟩, st324⟩ := Jvm.LawKit.callS X323 hx (y := (⟨"com/example/lookahead/lookahead/runtime/TokenTextPinLaw", "charOk", "(Ljava/lang/String;[CIII)Z"⟩ : MethodName)) hown (mvT hZ (own_h hw 94 rfl)) (mvT hZ (own_h hw 95 rfl)) (mvT hZ (own_h hw 96 rfl)) (mvT hZ (own_h hw 97 rfl)) (by decide) (backOf (W := 0) (rmK1 l Z a0 hw [] r_308 b1 (1 : Int32) (1 : Int32) (3 : Int32) h308 n0 Z319 (by decide)) hZ (own_h hw 97 rfl) (own_h hw 96 rfl) (by decide) (by decide)) (g := (mkF m 191 #[.val (.int x0), .val (.int x1), .val (.int x2), .val (.int x3), .val (.int x4), .val (.ref b1), .val (.ref b20), .val (.int (1 : Int32)), .val (.int (1 : Int32)), .val (.ref b281), .val (.ref r_308)] [(.int (3 : Int32)), (.int (1 : Int32)), (.int (1 : Int32)), (.ref b1), (.ref r_308)])) rfl (by rw [hml]; rfl) (argsL := [(.ref r_308), (.ref b1), (.int (1 : Int32)), (.int (1 : Int32)), (.int (3 : Int32))]) (rest := []) (lenOf pd_15 rfl) rfl (by show 2 * 0 + _ ≤ _; exact Nat.le_of_eq rfl) (hb hby at_191) (fun _ _ => ⟨rfl, e323, (by decide : 6 + 0 ≤ _), (by decide : 22 + 0 ≤ _)⟩)
      dsimp only [Pt.U, Pt.locs, Pt.cells, Pt.slots] at X324 l324 y324 z324 st324 hQ324
      subst y324 z324
      obtain ⟨rfl, N324q, e324⟩ := hQ324
      have N324 := Fr.app N323 N324q
      rw [← l324] at N324
      clear l324
      refine own_stepW (st' := T324.setTop (mkF m 194 #[.val (.int x0), .val (.int x1), .val (.int x2), .val (.int x3), .val (.int x4), .val (.ref b1), .val (.ref b20), .val (.int (1 : Int32)), .val (.int (1 : Int32)), .val (.ref b281), .val (.ref r_308)] [(.int (1 : Int32))])) st324 ?_
      refine own_stepW (st' := T324.setTop (mkF m 197 #[.val (.int x0), .val (.int x1), .val (.int x2), .val (.int x3), .val (.int x4), .val (.ref b1), .val (.ref b20), .val (.int (1 : Int32)), .val (.int (1 : Int32)), .val (.ref b281), .val (.ref r_308)] [])) (fun t k => XS.ifNo X324.here hx rfl (hb hby at_194) rfl ((if0 _ _).trans (feq (by decide)).1) k) ?_
      refine own_stepW (st' := T324.setTop (mkF m 198 #[.val (.int x0), .val (.int x1), .val (.int x2), .val (.int x3), .val (.int x4), .val (.ref b1), .val (.ref b20), .val (.int (1 : Int32)), .val (.int (1 : Int32)), .val (.ref b281), .val (.ref r_308)] [(.int (1 : Int32))])) (fun t k => XS.iconst X324.here hx rfl (hb hby at_197) k) ?_
      refine own_stepW (st' := T324.setTop (mkF m 202 #[.val (.int x0), .val (.int x1), .val (.int x2), .val (.int x3), .val (.int x4), .val (.ref b1), .val (.ref b20), .val (.int (1 : Int32)), .val (.int (1 : Int32)), .val (.ref b281), .val (.ref r_308)] [(.int (1 : Int32))])) (fun t k => XS.goto X324.here hx rfl (pc0 := 198) (pc' := 202) rfl (hb hby at_198) (by decide) (by decide) k) ?_
      refine own_retW X324 hS308 (Nat.le_of_eq (congrArg Array.size (e308.trans e324.symm))) Bd.notSynchronized (some (.int (1 : Int32))) (fun h => by rw [Bd.returns] at h; cases h) (fun fs hr => retN X324 hx (t := .boolean) Bd.returns (by simp) (hb hby at_202) hr) ?_ (by decide) (by decide)
      rw [e324]
      exact ⟨rfl, N324⟩
    · rw [hn278]
      refine own_stepW (st' := T27.setTop (mkF m 85 #[.val (.int x0), .val (.int x1), .val (.int x2), .val (.int x3), .val (.int x4), .val (.ref b1), .val (.ref b20), .val (.int (1 : Int32)), .unset, .unset, .unset] [(.int (2 : Int32))])) (fun t k => XS.iadd X27.here hx rfl (hb hby at_84) rfl k) ?_
      refine own_stepW (st' := T27.setTop (mkF m 87 #[.val (.int x0), .val (.int x1), .val (.int x2), .val (.int x3), .val (.int x4), .val (.ref b1), .val (.ref b20), .val (.int (1 : Int32)), .val (.int (2 : Int32)), .unset, .unset] [])) (fun t k => XS.istore X27.here hx rfl (hb hby at_85) rfl (l' := #[.val (.int x0), .val (.int x1), .val (.int x2), .val (.int x3), .val (.int x4), .val (.ref b1), .val (.ref b20), .val (.int (1 : Int32)), .val (.int (2 : Int32)), .unset, .unset]) rfl k) ?_
      obtain ⟨T325, h325, X325, e325, E325, A325, D325, -, st325⟩ := newO X27 hx hZ hown (own_h hw 31 rfl) (own_h hw 32 rfl) (own_h hw 33 rfl) e27 (g := (mkF m 87 #[.val (.int x0), .val (.int x1), .val (.int x2), .val (.int x3), .val (.int x4), .val (.ref b1), .val (.ref b20), .val (.int (1 : Int32)), .val (.int (2 : Int32)), .unset, .unset] [])) rfl (hb hby at_87) (by decide) (by decide)
      obtain ⟨b325, g325⟩ : ∃ z, z = h27.size := ⟨_, rfl⟩
      rw [← g325] at A325 D325 st325
      have ne326 : b1 ≠ b325 := Nat.ne_of_lt (Nat.lt_of_lt_of_le f30.lt (Nat.le_of_eq g325.symm))
      have ne327 : b20 ≠ b325 := Nat.ne_of_lt (Nat.lt_of_lt_of_le f31.lt (Nat.le_of_eq g325.symm))
      have ne328 : b_27 ≠ b325 := Nat.ne_of_lt (Nat.lt_of_lt_of_le pq27_3.lt (Nat.le_of_eq g325.symm))
      have g_b325 : n0 ≤ b325 := Nat.le_trans Z33 (Nat.le_of_eq g325.symm)
      have f329 := f30.ext E325
      have f330 := f31.ext E325
      have f331 := pq27_1.ext E325
      have f332 := pq27_2.ext E325
      have f333 := pq27_3.ext E325
      have O334 := O32.ext E325
      have Z335 : n0 ≤ h325.size := Nat.le_trans Z33 E325.1
      have f336 : Fld Z h325 b325 "com/example/lookahead/lookahead/runtime/Token" "terminal" "Lcom/example/lookahead/lookahead/core/Terminal;" .null := D325 (Or.inr (own_h hw 42 rfl)) (ty := (.object "com/example/lookahead/lookahead/core/Terminal")) (by decide)
      have f337 : Fld Z h325 b325 "com/example/lookahead/lookahead/runtime/Token" "input" "Ljava/lang/String;" .null := D325 (Or.inr (own_h hw 44 rfl)) (ty := (.object "java/lang/String")) (by decide)
      have f338 : Fld Z h325 b325 "com/example/lookahead/lookahead/runtime/Token" "start" "I" (.int (0 : Int32)) := D325 (Or.inr (own_h hw 46 rfl)) (ty := .int) (by decide)
      have f339 : Fld Z h325 b325 "com/example/lookahead/lookahead/runtime/Token" "end" "I" (.int (0 : Int32)) := D325 (Or.inr (own_h hw 48 rfl)) (ty := .int) (by decide)
      have f340 : Fld Z h325 b325 "com/example/lookahead/lookahead/runtime/Token" "line" "I" (.int (0 : Int32)) := D325 (Or.inr (own_h hw 50 rfl)) (ty := .int) (by decide)
      have f341 : Fld Z h325 b325 "com/example/lookahead/lookahead/runtime/Token" "column" "I" (.int (0 : Int32)) := D325 (Or.inr (own_h hw 52 rfl)) (ty := .int) (by decide)
      refine own_stepW (st' := T325.setTop (mkF m 90 #[.val (.int x0), .val (.int x1), .val (.int x2), .val (.int x3), .val (.int x4), .val (.ref b1), .val (.ref b20), .val (.int (1 : Int32)), .val (.int (2 : Int32)), .unset, .unset] [(.ref b325)])) st325 ?_
      refine own_stepW (st' := T325.setTop (mkF m 91 #[.val (.int x0), .val (.int x1), .val (.int x2), .val (.int x3), .val (.int x4), .val (.ref b1), .val (.ref b20), .val (.int (1 : Int32)), .val (.int (2 : Int32)), .unset, .unset] [(.ref b325), (.ref b325)])) (fun t k => XS.dup X325.here hx rfl (hb hby at_90) rfl rfl k) ?_
      obtain ⟨T342, X342, e342, st342⟩ := getS2 X325 hx hZ hown (host := "") (Or.inl (own_h hw 34 rfl)) Via.refl e325 (p_4.ext O334.2) (g := (mkF m 91 #[.val (.int x0), .val (.int x1), .val (.int x2), .val (.int x3), .val (.int x4), .val (.ref b1), .val (.ref b20), .val (.int (1 : Int32)), .val (.int (2 : Int32)), .unset, .unset] [(.ref b325), (.ref b325)])) rfl (hb hby at_91)
      refine own_stepW (st' := T342.setTop (mkF m 94 #[.val (.int x0), .val (.int x1), .val (.int x2), .val (.int x3), .val (.int x4), .val (.ref b1), .val (.ref b20), .val (.int (1 : Int32)), .val (.int (2 : Int32)), .unset, .unset] [(.ref tm), (.ref b325), (.ref b325)])) st342 ?_
      refine own_stepW (st' := T342.setTop (mkF m 96 #[.val (.int x0), .val (.int x1), .val (.int x2), .val (.int x3), .val (.int x4), .val (.ref b1), .val (.ref b20), .val (.int (1 : Int32)), .val (.int (2 : Int32)), .unset, .unset] [(.ref b20), (.ref tm), (.ref b325), (.ref b325)])) (fun t k => XS.aload X342.here hx rfl (hb hby at_94) rfl rfl k) ?_
      refine own_stepW (st' := T342.setTop (mkF m 98 #[.val (.int x0), .val (.int x1), .val (.int x2), .val (.int x3), .val (.int x4), .val (.ref b1), .val (.ref b20), .val (.int (1 : Int32)), .val (.int (2 : Int32)), .unset, .unset] [(.int (1 : Int32)), (.ref b20), (.ref tm), (.ref b325), (.ref b325)])) (fun t k => XS.iload X342.here hx rfl (hb hby at_96) rfl k) ?_
      refine own_stepW (st' := T342.setTop (mkF m 100 #[.val (.int x0), .val (.int x1), .val (.int x2), .val (.int x3), .val (.int x4), .val (.ref b1), .val (.ref b20), .val (.int (1 : Int32)), .val (.int (2 : Int32)), .unset, .unset] [(.int (2 : Int32)), (.int (1 : Int32)), (.ref b20), (.ref tm), (.ref b325), (.ref b325)])) (fun t k => XS.iload X342.here hx rfl (hb hby at_98) rfl k) ?_
      refine own_stepW (st' := T342.setTop (mkF m 101 #[.val (.int x0), .val (.int x1), .val (.int x2), .val (.int x3), .val (.int x4), .val (.ref b1), .val (.ref b20), .val (.int (1 : Int32)), .val (.int (2 : Int32)), .unset, .unset] [(.int x3), (.int (2 : Int32)), (.int (1 : Int32)), (.ref b20), (.ref tm), (.ref b325), (.ref b325)])) (fun t k => XS.iloadN X342.here hx rfl (hb hby at_100) rfl k) ?_
      refine own_stepW (st' := T342.setTop (mkF m 103 #[.val (.int x0), .val (.int x1), .val (.int x2), .val (.int x3), .val (.int x4), .val (.ref b1), .val (.ref b20), .val (.int (1 : Int32)), .val (.int (2 : Int32)), .unset, .unset] [(.int x4), (.int x3), (.int (2 : Int32)), (.int (1 : Int32)), (.ref b20), (.ref tm), (.ref b325), (.ref b325)])) (fun t k => XS.iload X342.here hx rfl (hb hby at_101) rfl k) ?_
      obtain ⟨_, _, ⟨T343, L343, k343, n343⟩, -, X343, ⟨Lc343, hQ343, l343, y343, z343⟩, st343⟩ := X342.specialBack hx (y := (⟨"com/example/lookahead/lookahead/runtime/Token", "<init>", "(Lcom/example/lookahead/lookahead/core/Terminal;Ljava/lang/String;IIII)V"⟩ : MethodName)) rfl hown (mvT hZ (own_h hw 37 rfl)) (mvT hZ (own_h hw 38 rfl)) (mvT hZ (own_h hw 39 rfl)) (by decide) (backOf (W := 1) (rm7 l Z a0 hw [] b325 tm b20 (1 : Int32) (2 : Int32) x3 x4 h325 n0 Z335 f336 f337 f338 f339 f340 f341 A325 g_b325) hZ (own_h hw 39 rfl) (own_h hw 33 rfl) (by decide) (by decide)) (g := (mkF m 103 #[.val (.int x0), .val (.int x1), .val (.int x2), .val (.int x3), .val (.int x4), .val (.ref b1), .val (.ref b20), .val (.int (1 : Int32)), .val (.int (2 : Int32)), .unset, .unset] [(.int x4), (.int x3), (.int (2 : Int32)), (.int (1 : Int32)), (.ref b20), (.ref tm), (.ref b325), (.ref b325)])) rfl (by rw [hml]; rfl) (Steps.refl _) (a := b325) (argsL := [(.ref tm), (.ref b20), (.int (1 : Int32)), (.int (2 : Int32)), (.int x3), (.int x4)]) (rest := [(.ref b325)]) (lenOf pd_6 rfl) rfl (by show 2 * 0 + _ ≤ _; exact Nat.le_of_eq rfl) (hb hby at_103) (fun _ _ => ⟨rfl, e342, (by decide : 4 + 0 ≤ _), (by decide : 18 + 0 ≤ _)⟩)
      dsimp only [Pt.U, Pt.locs, Pt.cells, Pt.slots] at X343 l343 y343 z343 st343 hQ343
      subst y343 z343
      obtain ⟨rfl, N343q, K343, pq343_0, pq343_1, pq343_2⟩ := hQ343
      have N343 := Fr.app N27 N343q
      rw [← l343] at N343
      clear l343
      obtain ⟨h343, e343⟩ : ∃ z, T343.heap = z := ⟨_, rfl⟩
      rw [e343] at K343 pq343_0 pq343_1 pq343_2
      have f344 := f329.keep K343 (ninS ne326 nin0)
      have f345 := f330.keep K343
      have f346 := f331.keep K343 (ninS ne327 nin0)
      have f347 := f332.keep K343 (ninS ne327 nin0)
      have f348 := f333.keep K343 (ninS ne328 nin0)
      have f349 := A325.keep K343
      have O350 := O334.keep K343 (allS g_b325 all0)
      have Z351 : n0 ≤ h343.size := Nat.le_trans Z335 K343.1
      refine own_stepW (st' := T343.setTop (mkF m 106 #[.val (.int x0), .val (.int x1), .val (.int x2), .val (.int x3), .val (.int x4), .val (.ref b1), .val (.ref b20), .val (.int (1 : Int32)), .val (.int (2 : Int32)), .unset, .unset] [(.ref b325)])) (fun t k => st343.trans k) ?_
      refine own_stepW (st' := T343.setTop (mkF m 108 #[.val (.int x0), .val (.int x1), .val (.int x2), .val (.int x3), .val (.int x4), .val (.ref b1), .val (.ref b20), .val (.int (1 : Int32)), .val (.int (2 : Int32)), .val (.ref b325), .unset] [])) (fun t k => XS.astore X343.here hx rfl (hb hby at_106) rfl rfl (l' := #[.val (.int x0), .val (.int x1), .val (.int x2), .val (.int x3), .val (.int x4), .val (.ref b1), .val (.ref b20), .val (.int (1 : Int32)), .val (.int (2 : Int32)), .val (.ref b325), .unset]) rfl k) ?_
      refine own_stepW (st' := T343.setTop (mkF m 110 #[.val (.int x0), .val (.int x1), .val (.int x2), .val (.int x3), .val (.int x4), .val (.ref b1), .val (.ref b20), .val (.int (1 : Int32)), .val (.int (2 : Int32)), .val (.ref b325), .unset] [(.ref b325)])) (fun t k => XS.aload X343.here hx rfl (hb hby at_108) rfl rfl k) ?_
      obtain ⟨cq352, kq352, q352a, q352b, q352c⟩ := isOf hZ e343 f349
      obtain ⟨_, _, ⟨T352, L352, k352, n352⟩, -, X352, ⟨Lc352, hQ352, l352, y352, z352⟩, st352⟩ := X343.virtualBack hx (y := (⟨"com/example/lookahead/lookahead/runtime/Token", "text", "()Ljava/lang/String;"⟩ : MethodName)) (z := (⟨"com/example/lookahead/lookahead/runtime/Token", "text", "()Ljava/lang/String;"⟩ : MethodName)) hown (mvT hZ (own_h hw 53 rfl)) (mvT hZ (own_h hw 54 rfl)) (notFace_of_selects (args := #[]) (mvT hZ (own_h hw 56 rfl))) (mvT hZ (own_h hw 56 rfl)) (mvT hZ (own_h hw 55 rfl)) (by decide) (backOf (W := 0) (rmTS l Z a0 hw [] b325 b20 (1 : Int32) (2 : Int32) b_27 kb_27 [(.int ((q0.toInt8.toInt32).toInt8.toInt32)), (.int ((q1.toInt8.toInt32).toInt8.toInt32)), (.int ((q2.toInt8.toInt32).toInt8.toInt32)), (.int ((q3.toInt8.toInt32).toInt8.toInt32))] cs fm h343 n0 Z351 O350 pq343_0 pq343_1 pq343_2 f345 f346 f347 f348 p_0 p_1 p_2 p_3 ⟨by decide, by decide, by decide⟩ (by decide)) hZ (own_h hw 57 rfl) (own_h hw 33 rfl) (by decide) (by decide)) q352a q352c (g := (mkF m 110 #[.val (.int x0), .val (.int x1), .val (.int x2), .val (.int x3), .val (.int x4), .val (.ref b1), .val (.ref b20), .val (.int (1 : Int32)), .val (.int (2 : Int32)), .val (.ref b325), .unset] [(.ref b325)])) rfl (by rw [hml]; rfl) (Steps.refl _) (argsL := []) (rest := []) (lenOf pd_7 rfl) rfl (by show 2 * 0 + _ ≤ _; exact Nat.le_of_eq rfl) (hb hby at_110) (fun _ _ => ⟨rfl, e343, (by decide : 4 + 2 ≤ _), (by decide : 18 + 8 ≤ _)⟩)
      dsimp only [Pt.U, Pt.locs, Pt.cells, Pt.slots] at X352 l352 y352 z352 st352 hQ352
      subst y352 z352
      obtain ⟨r_352, b_352, kb_352, vd_352, rfl, N352q, K352, pq352_0, pq352_1, pq352_2, pq352_3, pq352_4, pq352_5, pq352_6, pq352_7⟩ := hQ352
      have N352 := Fr.app N343 N352q
      rw [← l352] at N352
      clear l352
      obtain ⟨h352, e352⟩ : ∃ z, T352.heap = z := ⟨_, rfl⟩
      rw [e352] at K352 pq352_3 pq352_4 pq352_5 pq352_6
      have ne353 : b1 ≠ r_352 := Nat.ne_of_lt (Nat.lt_of_lt_of_le f344.lt pq352_0)
      have ne354 : b20 ≠ r_352 := Nat.ne_of_lt (Nat.lt_of_lt_of_le f345.lt pq352_0)
      have ne355 : b_27 ≠ r_352 := Nat.ne_of_lt (Nat.lt_of_lt_of_le f348.lt pq352_0)
      have ne356 : b325 ≠ r_352 := Nat.ne_of_lt (Nat.lt_of_lt_of_le f349.lt pq352_0)
      have g_r_352 : n0 ≤ r_352 := Nat.le_trans Z351 pq352_0
      have ne357 : b1 ≠ b_352 := Nat.ne_of_lt (Nat.lt_of_lt_of_le f344.lt pq352_1)
      have ne358 : b20 ≠ b_352 := Nat.ne_of_lt (Nat.lt_of_lt_of_le f345.lt pq352_1)
      have ne359 : b_27 ≠ b_352 := Nat.ne_of_lt (Nat.lt_of_lt_of_le f348.lt pq352_1)
      have ne360 : b325 ≠ b_352 := Nat.ne_of_lt (Nat.lt_of_lt_of_le f349.lt pq352_1)
      have g_b_352 : n0 ≤ b_352 := Nat.le_trans Z351 pq352_1
      have f361 := f344.keep K352 nin0
      have f362 := f345.keep K352
      have f363 := f346.keep K352 nin0
      have f364 := f347.keep K352 nin0
      have f365 := f348.keep K352 nin0
      have f366 := f349.keep K352
      have f367 := pq343_0.keep K352 nin0
      have f368 := pq343_1.keep K352 nin0
      have f369 := pq343_2.keep K352 nin0
      have O370 := O350.keep K352 all0
      have Z371 : n0 ≤ h352.size := Nat.le_trans Z351 K352.1
      refine own_stepW (st' := T352.setTop (mkF m 113 #[.val (.int x0), .val (.int x1), .val (.int x2), .val (.int x3), .val (.int x4), .val (.ref b1), .val (.ref b20), .val (.int (1 : Int32)), .val (.int (2 : Int32)), .val (.ref b325), .unset] [(.ref r_352)])) (fun t k => st352.trans k) ?_
      have hlen352 : (((1 : Int32) + ((2 : Int32) - (1 : Int32))) - (1 : Int32)) = (1 : Int32) := by decide
      rw [hlen352] at pq352_6
      refine own_stepW (st' := T352.setTop (mkF m 115 #[.val (.int x0), .val (.int x1), .val (.int x2), .val (.int x3), .val (.int x4), .val (.ref b1), .val (.ref b20), .val (.int (1 : Int32)), .val (.int (2 : Int32)), .val (.ref b325), .val (.ref r_352)] [])) (fun t k => XS.astore X352.here hx rfl (hb hby at_113) rfl rfl (l' := #[.val (.int x0), .val (.int x1), .val (.int x2), .val (.int x3), .val (.int x4), .val (.ref b1), .val (.ref b20), .val (.int (1 : Int32)), .val (.int (2 : Int32)), .val (.ref b325), .val (.ref r_352)]) rfl k) ?_
      refine own_stepW (st' := T352.setTop (mkF m 117 #[.val (.int x0), .val (.int x1), .val (.int x2), .val (.int x3), .val (.int x4), .val (.ref b1), .val (.ref b20), .val (.int (1 : Int32)), .val (.int (2 : Int32)), .val (.ref b325), .val (.ref r_352)] [(.ref r_352)])) (fun t k => XS.aload X352.here hx rfl (hb hby at_115) rfl rfl k) ?_
      refine own_stepW (st' := T352.setTop (mkF m 122 #[.val (.int x0), .val (.int x1), .val (.int x2), .val (.int x3), .val (.int x4), .val (.ref b1), .val (.ref b20), .val (.int (1 : Int32)), .val (.int (2 : Int32)), .val (.ref b325), .val (.ref r_352)] [])) (fun t k => XS.ifnonnullYes X352.here hx rfl (pc0 := 117) (pc' := 122) rfl (hb hby at_117) rfl (by decide) (by decide) k) ?_
      refine own_stepW (st' := T352.setTop (mkF m 124 #[.val (.int x0), .val (.int x1), .val (.int x2), .val (.int x3), .val (.int x4), .val (.ref b1), .val (.ref b20), .val (.int (1 : Int32)), .val (.int (2 : Int32)), .val (.ref b325), .val (.ref r_352)] [(.ref r_352)])) (fun t k => XS.aload X352.here hx rfl (hb hby at_122) rfl rfl k) ?_
      obtain ⟨cq372, kq372, q372a, q372b, q372c⟩ := isOf hZ e352 pq352_3
      obtain ⟨_, _, ⟨T372, L372, k372, n372⟩, -, X372, ⟨Lc372, hQ372, l372, y372, z372⟩, st372⟩ := X352.virtualBack hx (y := (⟨"java/lang/String", "length", "()I"⟩ : MethodName)) (z := (⟨"java/lang/String", "length", "()I"⟩ : MethodName)) hown (mvT hZ (own_h hw 93 rfl)) (mvT hZ (own_h hw 64 rfl)) (notFace_of_selects (args := #[]) (mvT hZ (own_h hw 66 rfl))) (mvT hZ (own_h hw 66 rfl)) (mvT hZ (own_h hw 65 rfl)) (by decide) (backOf (W := 0) (rm10 l Z a0 hw [] r_352 b_352 kb_352 (1 : Int32) vd_352 cs h352 n0 Z371 O370 pq352_3 pq352_4 pq352_5 pq352_6 p_0 p_1) hZ (own_h hw 67 rfl) (own_h hw 3 rfl) (by decide) (by decide)) q372a q372c (g := (mkF m 124 #[.val (.int x0), .val (.int x1), .val (.int x2), .val (.int x3), .val (.int x4), .val (.ref b1), .val (.ref b20), .val (.int (1 : Int32)), .val (.int (2 : Int32)), .val (.ref b325), .val (.ref r_352)] [(.ref r_352)])) rfl (by rw [hml]; rfl) (Steps.refl _) (argsL := []) (rest := []) (lenOf pd_9 rfl) rfl (by show 2 * 0 + _ ≤ _; exact Nat.le_of_eq rfl) (hb hby at_124) (fun _ _ => ⟨rfl, e352, (by decide : 6 + 0 ≤ _), (by decide : 26 + 0 ≤ _)⟩)
      dsimp only [Pt.U, Pt.locs, Pt.cells, Pt.slots] at X372 l372 y372 z372 st372 hQ372
      subst y372 z372
      obtain ⟨rfl, N372q, e372⟩ := hQ372
      have N372 := Fr.app N352 N372q
      rw [← l372] at N372
      clear l372
      refine own_stepW (st' := T372.setTop (mkF m 127 #[.val (.int x0), .val (.int x1), .val (.int x2), .val (.int x3), .val (.int x4), .val (.ref b1), .val (.ref b20), .val (.int (1 : Int32)), .val (.int (2 : Int32)), .val (.ref b325), .val (.ref r_352)] [(.int (1 : Int32))])) (fun t k => st372.trans k) ?_
      refine own_stepW (st' := T372.setTop (mkF m 129 #[.val (.int x0), .val (.int x1), .val (.int x2), .val (.int x3), .val (.int x4), .val (.ref b1), .val (.ref b20), .val (.int (1 : Int32)), .val (.int (2 : Int32)), .val (.ref b325), .val (.ref r_352)] [(.int (2 : Int32)), (.int (1 : Int32))])) (fun t k => XS.iload X372.here hx rfl (hb hby at_127) rfl k) ?_
      refine own_stepW (st' := T372.setTop (mkF m 131 #[.val (.int x0), .val (.int x1), .val (.int x2), .val (.int x3), .val (.int x4), .val (.ref b1), .val (.ref b20), .val (.int (1 : Int32)), .val (.int (2 : Int32)), .val (.ref b325), .val (.ref r_352)] [(.int (1 : Int32)), (.int (2 : Int32)), (.int (1 : Int32))])) (fun t k => XS.iload X372.here hx rfl (hb hby at_129) rfl k) ?_
      refine own_stepW (st' := T372.setTop (mkF m 132 #[.val (.int x0), .val (.int x1), .val (.int x2), .val (.int x3), .val (.int x4), .val (.ref b1), .val (.ref b20), .val (.int (1 : Int32)), .val (.int (2 : Int32)), .val (.ref b325), .val (.ref r_352)] [(.int (1 : Int32)), (.int (1 : Int32))])) (fun t k => XS.isub X372.here hx rfl (hb hby at_131) rfl k) ?_
      refine own_stepW (st' := T372.setTop (mkF m 137 #[.val (.int x0), .val (.int x1), .val (.int x2), .val (.int x3), .val (.int x4), .val (.ref b1), .val (.ref b20), .val (.int (1 : Int32)), .val (.int (2 : Int32)), .val (.ref b325), .val (.ref r_352)] [])) (fun t k => XS.icmpYes X372.here hx rfl (pc0 := 132) (pc' := 137) rfl (hb hby at_132) rfl (teq (by decide)).1 (by decide) (by decide) k) ?_
      refine own_stepW (st' := T372.setTop (mkF m 139 #[.val (.int x0), .val (.int x1), .val (.int x2), .val (.int x3), .val (.int x4), .val (.ref b1), .val (.ref b20), .val (.int (1 : Int32)), .val (.int (2 : Int32)), .val (.ref b325), .val (.ref r_352)] [(.ref r_352)])) (fun t k => XS.aload X372.here hx rfl (hb hby at_137) rfl rfl k) ?_
      refine own_stepW (st' := T372.setTop (mkF m 141 #[.val (.int x0), .val (.int x1), .val (.int x2), .val (.int x3), .val (.int x4), .val (.ref b1), .val (.ref b20), .val (.int (1 : Int32)), .val (.int (2 : Int32)), .val (.ref b325), .val (.ref r_352)] [(.ref b1), (.ref r_352)])) (fun t k => XS.aload X372.here hx rfl (hb hby at_139) rfl rfl k) ?_
      refine own_stepW (st' := T372.setTop (mkF m 143 #[.val (.int x0), .val (.int x1), .val (.int x2), .val (.int x3), .val (.int x4), .val (.ref b1), .val (.ref b20), .val (.int (1 : Int32)), .val (.int (2 : Int32)), .val (.ref b325), .val (.ref r_352)] [(.int (1 : Int32)), (.ref b1), (.ref r_352)])) (fun t k => XS.iload X372.here hx rfl (hb hby at_141) rfl k) ?_
      refine own_stepW (st' := T372.setTop (mkF m 145 #[.val (.int x0), .val (.int x1), .val (.int x2), .val (.int x3), .val (.int x4), .val (.ref b1), .val (.ref b20), .val (.int (1 : Int32)), .val (.int (2 : Int32)), .val (.ref b325), .val (.ref r_352)] [(.int (2 : Int32)), (.int (1 : Int32)), (.ref b1), (.ref r_352)])) (fun t k => XS.iload X372.here hx rfl (hb hby at_143) rfl k) ?_
      refine own_stepW (st' := T372.setTop (mkF m 146 #[.val (.int x0), .val (.int x1), .val (.int x2), .val (.int x3), .val (.int x4), .val (.ref b1), .val (.ref b20), .val (.int (1 : Int32)), .val (.int (2 : Int32)), .val (.ref b325), .val (.ref r_352)] [(.int (0 : Int32)), (.int (2 : Int32)), (.int (1 : Int32)), (.ref b1), (.ref r_352)])) (fun t k => XS.iconst X372.here hx rfl (hb hby at_145) k) ?_
      obtain ⟨_, _, ⟨T373, L373, k373, n373⟩, -, X373, ⟨Lc373, hQ373, l373, y373, z373⟩, st373⟩ := Jvm.LawKit.callS X372 hx (y := (⟨"com/example/lookahead/lookahead/runtime/TokenTextPinLaw", "charOk", "(Ljava/lang/String;[CIII)Z"⟩ : MethodName)) hown (mvT hZ (own_h hw 94 rfl)) (mvT hZ (own_h hw 95 rfl)) (mvT hZ (own_h hw 96 rfl)) (mvT hZ (own_h hw 97 rfl)) (by decide) (backOf (W := 0) (rmK2 l Z a0 hw [] r_352 b1 (1 : Int32) (2 : Int32) (0 : Int32) b_352 kb_352 (1 : Int32) vd_352 k1 [(.int q0), (.int q1), (.int q2), (.int q3)] ((q1.toInt8.toInt32).toInt8.toInt32) q1 cs fm h352 n0 Z371 O370 pq352_3 pq352_4 pq352_5 pq352_6 f361 (by decide) (by decide) (by decide) ((pq352_7 _).trans rfl) (own_byte b_q1) (own_nc b_q1) ⟨by decide, by decide⟩ rfl p_0 p_1 p_2 p_3) hZ (own_h hw 97 rfl) (own_h hw 96 rfl) (by decide) (by decide)) (g := (mkF m 146 #[.val (.int x0), .val (.int x1), .val (.int x2), .val (.int x3), .val (.int x4), .val (.ref b1), .val (.ref b20), .val (.int (1 : Int32)), .val (.int (2 : Int32)), .val (.ref b325), .val (.ref r_352)] [(.int (0 : Int32)), (.int (2 : Int32)), (.int (1 : Int32)), (.ref b1), (.ref r_352)])) rfl (by rw [hml]; rfl) (argsL := [(.ref r_352), (.ref b1), (.int (1 : Int32)), (.int (2 : Int32)), (.int (0 : Int32))]) (rest := []) (lenOf pd_15 rfl) rfl (by show 2 * 0 + _ ≤ _; exact Nat.le_of_eq rfl) (hb hby at_146) (fun _ _ => ⟨rfl, e372, (by decide : 6 + 0 ≤ _), (by decide : 26 + 0 ≤ _)⟩)
      dsimp only [Pt.U, Pt.locs, Pt.cells, Pt.slots] at X373 l373 y373 z373 st373 hQ373
      subst y373 z373
      obtain ⟨rfl, N373q, e373⟩ := hQ373
      have N373 := Fr.app N372 N373q
      rw [← l373] at N373
      clear l373
      refine own_stepW (st' := T373.setTop (mkF m 149 #[.val (.int x0), .val (.int x1), .val (.int x2), .val (.int x3), .val (.int x4), .val (.ref b1), .val (.ref b20), .val (.int (1 : Int32)), .val (.int (2 : Int32)), .val (.ref b325), .val (.ref r_352)] [(.int (1 : Int32))])) st373 ?_
      refine own_stepW (st' := T373.setTop (mkF m 152 #[.val (.int x0), .val (.int x1), .val (.int x2), .val (.int x3), .val (.int x4), .val (.ref b1), .val (.ref b20), .val (.int (1 : Int32)), .val (.int (2 : Int32)), .val (.ref b325), .val (.ref r_352)] [])) (fun t k => XS.ifNo X373.here hx rfl (hb hby at_149) rfl ((if0 _ _).trans (feq (by decide)).1) k) ?_
      refine own_stepW (st' := T373.setTop (mkF m 154 #[.val (.int x0), .val (.int x1), .val (.int x2), .val (.int x3), .val (.int x4), .val (.ref b1), .val (.ref b20), .val (.int (1 : Int32)), .val (.int (2 : Int32)), .val (.ref b325), .val (.ref r_352)] [(.ref r_352)])) (fun t k => XS.aload X373.here hx rfl (hb hby at_152) rfl rfl k) ?_
      refine own_stepW (st' := T373.setTop (mkF m 156 #[.val (.int x0), .val (.int x1), .val (.int x2), .val (.int x3), .val (.int x4), .val (.ref b1), .val (.ref b20), .val (.int (1 : Int32)), .val (.int (2 : Int32)), .val (.ref b325), .val (.ref r_352)] [(.ref b1), (.ref r_352)])) (fun t k => XS.aload X373.here hx rfl (hb hby at_154) rfl rfl k) ?_
      refine own_stepW (st' := T373.setTop (mkF m 158 #[.val (.int x0), .val (.int x1), .val (.int x2), .val (.int x3), .val (.int x4), .val (.ref b1), .val (.ref b20), .val (.int (1 : Int32)), .val (.int (2 : Int32)), .val (.ref b325), .val (.ref r_352)] [(.int (1 : Int32)), (.ref b1), (.ref r_352)])) (fun t k => XS.iload X373.here hx rfl (hb hby at_156) rfl k) ?_
      refine own_stepW (st' := T373.setTop (mkF m 160 #[.val (.int x0), .val (.int x1), .val (.int x2), .val (.int x3), .val (.int x4), .val (.ref b1), .val (.ref b20), .val (.int (1 : Int32)), .val (.int (2 : Int32)), .val (.ref b325), .val (.ref r_352)] [(.int (2 : Int32)), (.int (1 : Int32)), (.ref b1), (.ref r_352)])) (fun t k => XS.iload X373.here hx rfl (hb hby at_158) rfl k) ?_
      refine own_stepW (st' := T373.setTop (mkF m 161 #[.val (.int x0), .val (.int x1), .val (.int x2), .val (.int x3), .val (.int x4), .val (.ref b1), .val (.ref b20), .val (.int (1 : Int32)), .val (.int (2 : Int32)), .val (.ref b325), .val (.ref r_352)] [(.int (1 : Int32)), (.int (2 : Int32)), (.int (1 : Int32)), (.ref b1), (.ref r_352)])) (fun t k => XS.iconst X373.here hx rfl (hb hby at_160) k) ?_
      obtain ⟨_, _, ⟨T374, L374, k374, n374⟩, -, X374, ⟨Lc374, hQ374, l374, y374, z374⟩, st374⟩ := Jvm.LawKit.callS X373 hx (y := (⟨"com/example/lookahead/lookahead/runtime/TokenTextPinLaw", "charOk", "(Ljava/lang/String;[CIII)Z"⟩ : MethodName)) hown (mvT hZ (own_h hw 94 rfl)) (mvT hZ (own_h hw 95 rfl)) (mvT hZ (own_h hw 96 rfl)) (mvT hZ (own_h hw 97 rfl)) (by decide) (backOf (W := 0) (rmK1 l Z a0 hw [] r_352 b1 (1 : Int32) (2 : Int32) (1 : Int32) h352 n0 Z371 (by decide)) hZ (own_h hw 97 rfl) (own_h hw 96 rfl) (by decide) (by decide)) (g := (mkF m 161 #[.val (.int x0), .val (.int x1), .val (.int x2), .val (.int x3), .val (.int x4), .val (.ref b1), .val (.ref b20), .val (.int (1 : Int32)), .val (.int (2 : Int32)), .val (.ref b325), .val (.ref r_352)] [(.int (1 : Int32)), (.int (2 : Int32)), (.int (1 : Int32)), (.ref b1), (.ref r_352)])) rfl (by rw [hml]; rfl) (argsL := [(.ref r_352), (.ref b1), (.int (1 : Int32)), (.int (2 : Int32)), (.int (1 : Int32))]) (rest := []) (lenOf pd_15 rfl) rfl (by show 2 * 0 + _ ≤ _; exact Nat.le_of_eq rfl) (hb hby at_161) (fun _ _ => ⟨rfl, e373, (by decide : 6 + 0 ≤ _), (by decide : 26 + 0 ≤ _)⟩)
      dsimp only [Pt.U, Pt.locs, Pt.cells, Pt.slots] at X374 l374 y374 z374 st374 hQ374
      subst y374 z374
      obtain ⟨rfl, N374q, e374⟩ := hQ374
      have N374 := Fr.app N373 N374q
      rw [← l374] at N374
      clear l374
      refine own_stepW (st' := T374.setTop (mkF m 164 #[.val (.int x0), .val (.int x1), .val (.int x2), .val (.int x3), .val (.int x4), .val (.ref b1), .val (.ref b20), .val (.int (1 : Int32)), .val (.int (2 : Int32)), .val (.ref b325), .val (.ref r_352)] [(.int (1 : Int32))])) st374 ?_
      refine own_stepW (st' := T374.setTop (mkF m 167 #[.val (.int x0), .val (.int x1), .val (.int x2), .val (.int x3), .val (.int x4), .val (.ref b1), .val (.ref b20), .val (.int (1 : Int32)), .val (.int (2 : Int32)), .val (.ref b325), .val (.ref r_352)] [])) (fun t k => XS.ifNo X374.here hx rfl (hb hby at_164) rfl ((if0 _ _).trans (feq (by decide)).1) k) ?_
      refine own_stepW (st' := T374.setTop (mkF m 169 #[.val (.int x0), .val (.int x1), .val (.int x2), .val (.int x3), .val (.int x4), .val (.ref b1), .val (.ref b20), .val (.int (1 : Int32)), .val (.int (2 : Int32)), .val (.ref b325), .val (.ref r_352)] [(.ref r_352)])) (fun t k => XS.aload X374.here hx rfl (hb hby at_167) rfl rfl k) ?_
      refine own_stepW (st' := T374.setTop (mkF m 171 #[.val (.int x0), .val (.int x1), .val (.int x2), .val (.int x3), .val (.int x4), .val (.ref b1), .val (.ref b20), .val (.int (1 : Int32)), .val (.int (2 : Int32)), .val (.ref b325), .val (.ref r_352)] [(.ref b1), (.ref r_352)])) (fun t k => XS.aload X374.here hx rfl (hb hby at_169) rfl rfl k) ?_
      refine own_stepW (st' := T374.setTop (mkF m 173 #[.val (.int x0), .val (.int x1), .val (.int x2), .val (.int x3), .val (.int x4), .val (.ref b1), .val (.ref b20), .val (.int (1 : Int32)), .val (.int (2 : Int32)), .val (.ref b325), .val (.ref r_352)] [(.int (1 : Int32)), (.ref b1), (.ref r_352)])) (fun t k => XS.iload X374.here hx rfl (hb hby at_171) rfl k) ?_
      refine own_stepW (st' := T374.setTop (mkF m 175 #[.val (.int x0), .val (.int x1), .val (.int x2), .val (.int x3), .val (.int x4), .val (.ref b1), .val (.ref b20), .val (.int (1 : Int32)), .val (.int (2 : Int32)), .val (.ref b325), .val (.ref r_352)] [(.int (2 : Int32)), (.int (1 : Int32)), (.ref b1), (.ref r_352)])) (fun t k => XS.iload X374.here hx rfl (hb hby at_173) rfl k) ?_
      refine own_stepW (st' := T374.setTop (mkF m 176 #[.val (.int x0), .val (.int x1), .val (.int x2), .val (.int x3), .val (.int x4), .val (.ref b1), .val (.ref b20), .val (.int (1 : Int32)), .val (.int (2 : Int32)), .val (.ref b325), .val (.ref r_352)] [(.int (2 : Int32)), (.int (2 : Int32)), (.int (1 : Int32)), (.ref b1), (.ref r_352)])) (fun t k => XS.iconst X374.here hx rfl (hb hby at_175) k) ?_
      obtain ⟨_, _, ⟨T375, L375, k375, n375⟩, -, X375, ⟨Lc375, hQ375, l375, y375, z375⟩, st375⟩ := Jvm.LawKit.callS X374 hx (y := (⟨"com/example/lookahead/lookahead/runtime/TokenTextPinLaw", "charOk", "(Ljava/lang/String;[CIII)Z"⟩ : MethodName)) hown (mvT hZ (own_h hw 94 rfl)) (mvT hZ (own_h hw 95 rfl)) (mvT hZ (own_h hw 96 rfl)) (mvT hZ (own_h hw 97 rfl)) (by decide) (backOf (W := 0) (rmK1 l Z a0 hw [] r_352 b1 (1 : Int32) (2 : Int32) (2 : Int32) h352 n0 Z371 (by decide)) hZ (own_h hw 97 rfl) (own_h hw 96 rfl) (by decide) (by decide)) (g := (mkF m 176 #[.val (.int x0), .val (.int x1), .val (.int x2), .val (.int x3), .val (.int x4), .val (.ref b1), .val (.ref b20), .val (.int (1 : Int32)), .val (.int (2 : Int32)), .val (.ref b325), .val (.ref r_352)] [(.int (2 : Int32)), (.int (2 : Int32)), (.int (1 : Int32)), (.ref b1), (.ref r_352)])) rfl (by rw [hml]; rfl) (argsL := [(.ref r_352), (.ref b1), (.int (1 : Int32)), (.int (2 : Int32)), (.int (2 : Int32))]) (rest := []) (lenOf pd_15 rfl) rfl (by show 2 * 0 + _ ≤ _; exact Nat.le_of_eq rfl) (hb hby at_176) (fun _ _ => ⟨rfl, e374, (by decide : 6 + 0 ≤ _), (by decide : 26 + 0 ≤ _)⟩)
      dsimp only [Pt.U, Pt.locs, Pt.cells, Pt.slots] at X375 l375 y375 z375 st375 hQ375
      subst y375 z375
      obtain ⟨rfl, N375q, e375⟩ := hQ375
      have N375 := Fr.app N374 N375q
      rw [← l375] at N375
      clear l375
      refine own_stepW (st' := T375.setTop (mkF m 179 #[.val (.int x0), .val (.int x1), .val (.int x2), .val (.int x3), .val (.int x4), .val (.ref b1), .val (.ref b20), .val (.int (1 : Int32)), .val (.int (2 : Int32)), .val (.ref b325), .val (.ref r_352)] [(.int (1 : Int32))])) st375 ?_
      refine own_stepW (st' := T375.setTop (mkF m 182 #[.val (.int x0), .val (.int x1), .val (.int x2), .val (.int x3), .val (.int x4), .val (.ref b1), .val (.ref b20), .val (.int (1 : Int32)), .val (.int (2 : Int32)), .val (.ref b325), .val (.ref r_352)] [])) (fun t k => XS.ifNo X375.here hx rfl (hb hby at_179) rfl ((if0 _ _).trans (feq (by decide)).1) k) ?_
      refine own_stepW (st' := T375.setTop (mkF m 184 #[.val (.int x0), .val (.int x1), .val (.int x2), .val (.int x3), .val (.int x4), .val (.ref b1), .val (.ref b20), .val (.int (1 : Int32)), .val (.int (2 : Int32)), .val (.ref b325), .val (.ref r_352)] [(.ref r_352)])) (fun t k => XS.aload X375.here hx rfl (hb hby at_182) rfl rfl k) ?_
      refine own_stepW (st' := T375.setTop (mkF m 186 #[.val (.int x0), .val (.int x1), .val (.int x2), .val (.int x3), .val (.int x4), .val (.ref b1), .val (.ref b20), .val (.int (1 : Int32)), .val (.int (2 : Int32)), .val (.ref b325), .val (.ref r_352)] [(.ref b1), (.ref r_352)])) (fun t k => XS.aload X375.here hx rfl (hb hby at_184) rfl rfl k) ?_
      refine own_stepW (st' := T375.setTop (mkF m 188 #[.val (.int x0), .val (.int x1), .val (.int x2), .val (.int x3), .val (.int x4), .val (.ref b1), .val (.ref b20), .val (.int (1 : Int32)), .val (.int (2 : Int32)), .val (.ref b325), .val (.ref r_352)] [(.int (1 : Int32)), (.ref b1), (.ref r_352)])) (fun t k => XS.iload X375.here hx rfl (hb hby at_186) rfl k) ?_
      refine own_stepW (st' := T375.setTop (mkF m 190 #[.val (.int x0), .val (.int x1), .val (.int x2), .val (.int x3), .val (.int x4), .val (.ref b1), .val (.ref b20), .val (.int (1 : Int32)), .val (.int (2 : Int32)), .val (.ref b325), .val (.ref r_352)] [(.int (2 : Int32)), (.int (1 : Int32)), (.ref b1), (.ref r_352)])) (fun t k => XS.iload X375.here hx rfl (hb hby at_188) rfl k) ?_
      refine own_stepW (st' := T375.setTop (mkF m 191 #[.val (.int x0), .val (.int x1), .val (.int x2), .val (.int x3), .val (.int x4), .val (.ref b1), .val (.ref b20), .val (.int (1 : Int32)), .val (.int (2 : Int32)), .val (.ref b325), .val (.ref r_352)] [(.int (3 : Int32)), (.int (2 : Int32)), (.int (1 : Int32)), (.ref b1), (.ref r_352)])) (fun t k => XS.iconst X375.here hx rfl (hb hby at_190) k) ?_
      obtain ⟨_, _, ⟨T376, L376, k376, n376⟩, -, X376, ⟨Lc376, hQ376, l376, y376, z376⟩, st376⟩ := Jvm.LawKit.callS X375 hx (y := (⟨"com/example/lookahead/lookahead/runtime/TokenTextPinLaw", "charOk", "(Ljava/lang/String;[CIII)Z"⟩ : MethodName)) hown (mvT hZ (own_h hw 94 rfl)) (mvT hZ (own_h hw 95 rfl)) (mvT hZ (own_h hw 96 rfl)) (mvT hZ (own_h hw 97 rfl)) (by decide) (backOf (W := 0) (rmK1 l Z a0 hw [] r_352 b1 (1 : Int32) (2 : Int32) (3 : Int32) h352 n0 Z371 (by decide)) hZ (own_h hw 97 rfl) (own_h hw 96 rfl) (by decide) (by decide)) (g := (mkF m 191 #[.val (.int x0), .val (.int x1), .val (.int x2), .val (.int x3), .val (.int x4), .val (.ref b1), .val (.ref b20), .val (.int (1 : Int32)), .val (.int (2 : Int32)), .val (.ref b325), .val (.ref r_352)] [(.int (3 : Int32)), (.int (2 : Int32)), (.int (1 : Int32)), (.ref b1), (.ref r_352)])) rfl (by rw [hml]; rfl) (argsL := [(.ref r_352), (.ref b1), (.int (1 : Int32)), (.int (2 : Int32)), (.int (3 : Int32))]) (rest := []) (lenOf pd_15 rfl) rfl (by show 2 * 0 + _ ≤ _; exact Nat.le_of_eq rfl) (hb hby at_191) (fun _ _ => ⟨rfl, e375, (by decide : 6 + 0 ≤ _), (by decide : 26 + 0 ≤ _)⟩)
      dsimp only [Pt.U, Pt.locs, Pt.cells, Pt.slots] at X376 l376 y376 z376 st376 hQ376
      subst y376 z376
      obtain ⟨rfl, N376q, e376⟩ := hQ376
      have N376 := Fr.app N375 N376q
      rw [← l376] at N376
      clear l376
      refine own_stepW (st' := T376.setTop (mkF m 194 #[.val (.int x0), .val (.int x1), .val (.int x2), .val (.int x3), .val (.int x4), .val (.ref b1), .val (.ref b20), .val (.int (1 : Int32)), .val (.int (2 : Int32)), .val (.ref b325), .val (.ref r_352)] [(.int (1 : Int32))])) st376 ?_
      refine own_stepW (st' := T376.setTop (mkF m 197 #[.val (.int x0), .val (.int x1), .val (.int x2), .val (.int x3), .val (.int x4), .val (.ref b1), .val (.ref b20), .val (.int (1 : Int32)), .val (.int (2 : Int32)), .val (.ref b325), .val (.ref r_352)] [])) (fun t k => XS.ifNo X376.here hx rfl (hb hby at_194) rfl ((if0 _ _).trans (feq (by decide)).1) k) ?_
      refine own_stepW (st' := T376.setTop (mkF m 198 #[.val (.int x0), .val (.int x1), .val (.int x2), .val (.int x3), .val (.int x4), .val (.ref b1), .val (.ref b20), .val (.int (1 : Int32)), .val (.int (2 : Int32)), .val (.ref b325), .val (.ref r_352)] [(.int (1 : Int32))])) (fun t k => XS.iconst X376.here hx rfl (hb hby at_197) k) ?_
      refine own_stepW (st' := T376.setTop (mkF m 202 #[.val (.int x0), .val (.int x1), .val (.int x2), .val (.int x3), .val (.int x4), .val (.ref b1), .val (.ref b20), .val (.int (1 : Int32)), .val (.int (2 : Int32)), .val (.ref b325), .val (.ref r_352)] [(.int (1 : Int32))])) (fun t k => XS.goto X376.here hx rfl (pc0 := 198) (pc' := 202) rfl (hb hby at_198) (by decide) (by decide) k) ?_
      refine own_toW <| own_ret X376 Bd.notSynchronized (some (.int (1 : Int32))) (fun h => by rw [Bd.returns] at h; cases h) (fun fs hr => retN X376 hx (t := .boolean) Bd.returns (by simp) (hb hby at_202) hr) ?_ (by decide) (by decide)
      rw [e376]
      exact ⟨rfl, N376⟩
    · rw [hn279]
      refine own_stepW (st' := T27.setTop (mkF m 85 #[.val (.int x0), .val (.int x1), .val (.int x2), .val (.int x3), .val (.int x4), .val (.ref b1), .val (.ref b20), .val (.int (1 : Int32)), .unset, .unset, .unset] [(.int (3 : Int32))])) (fun t k => XS.iadd X27.here hx rfl (hb hby at_84) rfl k) ?_
      refine own_stepW (st' := T27.setTop (mkF m 87 #[.val (.int x0), .val (.int x1), .val (.int x2), .val (.int x3), .val (.int x4), .val (.ref b1), .val (.ref b20), .val (.int (1 : Int32)), .val (.int (3 : Int32)), .unset, .unset] [])) (fun t k => XS.istore X27.here hx rfl (hb hby at_85) rfl (l' := #[.val (.int x0), .val (.int x1), .val (.int x2), .val (.int x3), .val (.int x4), .val (.ref b1), .val (.ref b20), .val (.int (1 : Int32)), .val (.int (3 : Int32)), .unset, .unset]) rfl k) ?_
      obtain ⟨T377, h377, X377, e377, E377, A377, D377, -, st377⟩ := newO X27 hx hZ hown (own_h hw 31 rfl) (own_h hw 32 rfl) (own_h hw 33 rfl) e27 (g := (mkF m 87 #[.val (.int x0), .val (.int x1), .val (.int x2), .val (.int x3), .val (.int x4), .val (.ref b1), .val (.ref b20), .val (.int (1 : Int32)), .val (.int (3 : Int32)), .unset, .unset] [])) rfl (hb hby at_87) (by decide) (by decide)
      obtain ⟨b377, g377⟩ : ∃ z, z = h27.size := ⟨_, rfl⟩
      rw [← g377] at A377 D377 st377
      have ne378 : b1 ≠ b377 := Nat.ne_of_lt (Nat.lt_of_lt_of_le f30.lt (Nat.le_of_eq g377.symm))
      have ne379 : b20 ≠ b377 := Nat.ne_of_lt (Nat.lt_of_lt_of_le f31.lt (Nat.le_of_eq g377.symm))
      have ne380 : b_27 ≠ b377 := Nat.ne_of_lt (Nat.lt_of_lt_of_le pq27_3.lt (Nat.le_of_eq g377.symm))
      have g_b377 : n0 ≤ b377 := Nat.le_trans Z33 (Nat.le_of_eq g377.symm)
      have f381 := f30.ext E377
      have f382 := f31.ext E377
      have f383 := pq27_1.ext E377
      have f384 := pq27_2.ext E377
      have f385 := pq27_3.ext E377
      have O386 := O32.ext E377
      have Z387 : n0 ≤ h377.size := Nat.le_trans Z33 E377.1
      have f388 : Fld Z h377 b377 "com/example/lookahead/lookahead/runtime/Token" "terminal" "Lcom/example/lookahead/lookahead/core/Terminal;" .null := D377 (Or.inr (own_h hw 42 rfl)) (ty := (.object "com/example/lookahead/lookahead/core/Terminal")) (by decide)
      have f389 : Fld Z h377 b377 "com/example/lookahead/lookahead/runtime/Token" "input" "Ljava/lang/String;" .null := D377 (Or.inr (own_h hw 44 rfl)) (ty := (.object "java/lang/String")) (by decide)
      have f390 : Fld Z h377 b377 "com/example/lookahead/lookahead/runtime/Token" "start" "I" (.int (0 : Int32)) := D377 (Or.inr (own_h hw 46 rfl)) (ty := .int) (by decide)
      have f391 : Fld Z h377 b377 "com/example/lookahead/lookahead/runtime/Token" "end" "I" (.int (0 : Int32)) := D377 (Or.inr (own_h hw 48 rfl)) (ty := .int) (by decide)
      have f392 : Fld Z h377 b377 "com/example/lookahead/lookahead/runtime/Token" "line" "I" (.int (0 : Int32)) := D377 (Or.inr (own_h hw 50 rfl)) (ty := .int) (by decide)
      have f393 : Fld Z h377 b377 "com/example/lookahead/lookahead/runtime/Token" "column" "I" (.int (0 : Int32)) := D377 (Or.inr (own_h hw 52 rfl)) (ty := .int) (by decide)
      refine own_stepW (st' := T377.setTop (mkF m 90 #[.val (.int x0), .val (.int x1), .val (.int x2), .val (.int x3), .val (.int x4), .val (.ref b1), .val (.ref b20), .val (.int (1 : Int32)), .val (.int (3 : Int32)), .unset, .unset] [(.ref b377)])) st377 ?_
      refine own_stepW (st' := T377.setTop (mkF m 91 #[.val (.int x0), .val (.int x1), .val (.int x2), .val (.int x3), .val (.int x4), .val (.ref b1), .val (.ref b20), .val (.int (1 : Int32)), .val (.int (3 : Int32)), .unset, .unset] [(.ref b377), (.ref b377)])) (fun t k => XS.dup X377.here hx rfl (hb hby at_90) rfl rfl k) ?_
      obtain ⟨T394, X394, e394, st394⟩ := getS2 X377 hx hZ hown (host := "") (Or.inl (own_h hw 34 rfl)) Via.refl e377 (p_4.ext O386.2) (g := (mkF m 91 #[.val (.int x0), .val (.int x1), .val (.int x2), .val (.int x3), .val (.int x4), .val (.ref b1), .val (.ref b20), .val (.int (1 : Int32)), .val (.int (3 : Int32)), .unset, .unset] [(.ref b377), (.ref b377)])) rfl (hb hby at_91)
      refine own_stepW (st' := T394.setTop (mkF m 94 #[.val (.int x0), .val (.int x1), .val (.int x2), .val (.int x3), .val (.int x4), .val (.ref b1), .val (.ref b20), .val (.int (1 : Int32)), .val (.int (3 : Int32)), .unset, .unset] [(.ref tm), (.ref b377), (.ref b377)])) st394 ?_
      refine own_stepW (st' := T394.setTop (mkF m 96 #[.val (.int x0), .val (.int x1), .val (.int x2), .val (.int x3), .val (.int x4), .val (.ref b1), .val (.ref b20), .val (.int (1 : Int32)), .val (.int (3 : Int32)), .unset, .unset] [(.ref b20), (.ref tm), (.ref b377), (.ref b377)])) (fun t k => XS.aload X394.here hx rfl (hb hby at_94) rfl rfl k) ?_
      refine own_stepW (st' := T394.setTop (mkF m 98 #[.val (.int x0), .val (.int x1), .val (.int x2), .val (.int x3), .val (.int x4), .val (.ref b1), .val (.ref b20), .val (.int (1 : Int32)), .val (.int (3 : Int32)), .unset, .unset] [(.int (1 : Int32)), (.ref b20), (.ref tm), (.ref b377), (.ref b377)])) (fun t k => XS.iload X394.here hx rfl (hb hby at_96) rfl k) ?_
      refine own_stepW (st' := T394.setTop (mkF m 100 #[.val (.int x0), .val (.int x1), .val (.int x2), .val (.int x3), .val (.int x4), .val (.ref b1), .val (.ref b20), .val (.int (1 : Int32)), .val (.int (3 : Int32)), .unset, .unset] [(.int (3 : Int32)), (.int (1 : Int32)), (.ref b20), (.ref tm), (.ref b377), (.ref b377)])) (fun t k => XS.iload X394.here hx rfl (hb hby at_98) rfl k) ?_
      refine own_stepW (st' := T394.setTop (mkF m 101 #[.val (.int x0), .val (.int x1), .val (.int x2), .val (.int x3), .val (.int x4), .val (.ref b1), .val (.ref b20), .val (.int (1 : Int32)), .val (.int (3 : Int32)), .unset, .unset] [(.int x3), (.int (3 : Int32)), (.int (1 : Int32)), (.ref b20), (.ref tm), (.ref b377), (.ref b377)])) (fun t k => XS.iloadN X394.here hx rfl (hb hby at_100) rfl k) ?_
      refine own_stepW (st' := T394.setTop (mkF m 103 #[.val (.int x0), .val (.int x1), .val (.int x2), .val (.int x3), .val (.int x4), .val (.ref b1), .val (.ref b20), .val (.int (1 : Int32)), .val (.int (3 : Int32)), .unset, .unset] [(.int x4), (.int x3), (.int (3 : Int32)), (.int (1 : Int32)), (.ref b20), (.ref tm), (.ref b377), (.ref b377)])) (fun t k => XS.iload X394.here hx rfl (hb hby at_101) rfl k) ?_
      obtain ⟨_, _, ⟨T395, L395, k395, n395⟩, -, X395, ⟨Lc395, hQ395, l395, y395, z395⟩, st395⟩ := X394.specialBack hx (y := (⟨"com/example/lookahead/lookahead/runtime/Token", "<init>", "(Lcom/example/lookahead/lookahead/core/Terminal;Ljava/lang/String;IIII)V"⟩ : MethodName)) rfl hown (mvT hZ (own_h hw 37 rfl)) (mvT hZ (own_h hw 38 rfl)) (mvT hZ (own_h hw 39 rfl)) (by decide) (backOf (W := 1) (rm7 l Z a0 hw [] b377 tm b20 (1 : Int32) (3 : Int32) x3 x4 h377 n0 Z387 f388 f389 f390 f391 f392 f393 A377 g_b377) hZ (own_h hw 39 rfl) (own_h hw 33 rfl) (by decide) (by decide)) (g := (mkF m 103 #[.val (.int x0), .val (.int x1), .val (.int x2), .val (.int x3), .val (.int x4), .val (.ref b1), .val (.ref b20), .val (.int (1 : Int32)), .val (.int (3 : Int32)), .unset, .unset] [(.int x4), (.int x3), (.int (3 : Int32)), (.int (1 : Int32)), (.ref b20), (.ref tm), (.ref b377), (.ref b377)])) rfl (by rw [hml]; rfl) (Steps.refl _) (a := b377) (argsL := [(.ref tm), (.ref b20), (.int (1 : Int32)), (.int (3 : Int32)), (.int x3), (.int x4)]) (rest := [(.ref b377)]) (lenOf pd_6 rfl) rfl (by show 2 * 0 + _ ≤ _; exact Nat.le_of_eq rfl) (hb hby at_103) (fun _ _ => ⟨rfl, e394, (by decide : 4 + 0 ≤ _), (by decide : 18 + 0 ≤ _)⟩)
      dsimp only [Pt.U, Pt.locs, Pt.cells, Pt.slots] at X395 l395 y395 z395 st395 hQ395
      subst y395 z395
      obtain ⟨rfl, N395q, K395, pq395_0, pq395_1, pq395_2⟩ := hQ395
      have N395 := Fr.app N27 N395q
      rw [← l395] at N395
      clear l395
      obtain ⟨h395, e395⟩ : ∃ z, T395.heap = z := ⟨_, rfl⟩
      rw [e395] at K395 pq395_0 pq395_1 pq395_2
      have f396 := f381.keep K395 (ninS ne378 nin0)
      have f397 := f382.keep K395
      have f398 := f383.keep K395 (ninS ne379 nin0)
      have f399 := f384.keep K395 (ninS ne379 nin0)
      have f400 := f385.keep K395 (ninS ne380 nin0)
      have f401 := A377.keep K395
      have O402 := O386.keep K395 (allS g_b377 all0)
      have Z403 : n0 ≤ h395.size := Nat.le_trans Z387 K395.1
      refine own_stepW (st' := T395.setTop (mkF m 106 #[.val (.int x0), .val (.int x1), .val (.int x2), .val (.int x3), .val (.int x4), .val (.ref b1), .val (.ref b20), .val (.int (1 : Int32)), .val (.int (3 : Int32)), .unset, .unset] [(.ref b377)])) (fun t k => st395.trans k) ?_
      refine own_stepW (st' := T395.setTop (mkF m 108 #[.val (.int x0), .val (.int x1), .val (.int x2), .val (.int x3), .val (.int x4), .val (.ref b1), .val (.ref b20), .val (.int (1 : Int32)), .val (.int (3 : Int32)), .val (.ref b377), .unset] [])) (fun t k => XS.astore X395.here hx rfl (hb hby at_106) rfl rfl (l' := #[.val (.int x0), .val (.int x1), .val (.int x2), .val (.int x3), .val (.int x4), .val (.ref b1), .val (.ref b20), .val (.int (1 : Int32)), .val (.int (3 : Int32)), .val (.ref b377), .unset]) rfl k) ?_
      refine own_stepW (st' := T395.setTop (mkF m 110 #[.val (.int x0), .val (.int x1), .val (.int x2), .val (.int x3), .val (.int x4), .val (.ref b1), .val (.ref b20), .val (.int (1 : Int32)), .val (.int (3 : Int32)), .val (.ref b377), .unset] [(.ref b377)])) (fun t k => XS.aload X395.here hx rfl (hb hby at_108) rfl rfl k) ?_
      obtain ⟨cq404, kq404, q404a, q404b, q404c⟩ := isOf hZ e395 f401
      obtain ⟨_, _, ⟨T404, L404, k404, n404⟩, -, X404, ⟨Lc404, hQ404, l404, y404, z404⟩, st404⟩ := X395.virtualBack hx (y := (⟨"com/example/lookahead/lookahead/runtime/Token", "text", "()Ljava/lang/String;"⟩ : MethodName)) (z := (⟨"com/example/lookahead/lookahead/runtime/Token", "text", "()Ljava/lang/String;"⟩ : MethodName)) hown (mvT hZ (own_h hw 53 rfl)) (mvT hZ (own_h hw 54 rfl)) (notFace_of_selects (args := #[]) (mvT hZ (own_h hw 56 rfl))) (mvT hZ (own_h hw 56 rfl)) (mvT hZ (own_h hw 55 rfl)) (by decide) (backOf (W := 0) (rmTS l Z a0 hw [] b377 b20 (1 : Int32) (3 : Int32) b_27 kb_27 [(.int ((q0.toInt8.toInt32).toInt8.toInt32)), (.int ((q1.toInt8.toInt32).toInt8.toInt32)), (.int ((q2.toInt8.toInt32).toInt8.toInt32)), (.int ((q3.toInt8.toInt32).toInt8.toInt32))] cs fm h395 n0 Z403 O402 pq395_0 pq395_1 pq395_2 f397 f398 f399 f400 p_0 p_1 p_2 p_3 ⟨by decide, by decide, by decide⟩ (by decide)) hZ (own_h hw 57 rfl) (own_h hw 33 rfl) (by decide) (by decide)) q404a q404c (g := (mkF m 110 #[.val (.int x0), .val (.int x1), .val (.int x2), .val (.int x3), .val (.int x4), .val (.ref b1), .val (.ref b20), .val (.int (1 : Int32)), .val (.int (3 : Int32)), .val (.ref b377), .unset] [(.ref b377)])) rfl (by rw [hml]; rfl) (Steps.refl _) (argsL := []) (rest := []) (lenOf pd_7 rfl) rfl (by show 2 * 0 + _ ≤ _; exact Nat.le_of_eq rfl) (hb hby at_110) (fun _ _ => ⟨rfl, e395, (by decide : 4 + 2 ≤ _), (by decide : 18 + 8 ≤ _)⟩)
      dsimp only [Pt.U, Pt.locs, Pt.cells, Pt.slots] at X404 l404 y404 z404 st404 hQ404
      subst y404 z404
      obtain ⟨r_404, b_404, kb_404, vd_404, rfl, N404q, K404, pq404_0, pq404_1, pq404_2, pq404_3, pq404_4, pq404_5, pq404_6, pq404_7⟩ := hQ404
      have N404 := Fr.app N395 N404q
      rw [← l404] at N404
      clear l404
      obtain ⟨h404, e404⟩ : ∃ z, T404.heap = z := ⟨_, rfl⟩
      rw [e404] at K404 pq404_3 pq404_4 pq404_5 pq404_6
      have ne405 : b1 ≠ r_404 := Nat.ne_of_lt (Nat.lt_of_lt_of_le f396.lt pq404_0)
      have ne406 : b20 ≠ r_404 := Nat.ne_of_lt (Nat.lt_of_lt_of_le f397.lt pq404_0)
      have ne407 : b_27 ≠ r_404 := Nat.ne_of_lt (Nat.lt_of_lt_of_le f400.lt pq404_0)
      have ne408 : b377 ≠ r_404 := Nat.ne_of_lt (Nat.lt_of_lt_of_le f401.lt pq404_0)
      have g_r_404 : n0 ≤ r_404 := Nat.le_trans Z403 pq404_0
      have ne409 : b1 ≠ b_404 := Nat.ne_of_lt (Nat.lt_of_lt_of_le f396.lt pq404_1)
      have ne410 : b20 ≠ b_404 := Nat.ne_of_lt (Nat.lt_of_lt_of_le f397.lt pq404_1)
      have ne411 : b_27 ≠ b_404 := Nat.ne_of_lt (Nat.lt_of_lt_of_le f400.lt pq404_1)
      have ne412 : b377 ≠ b_404 := Nat.ne_of_lt (Nat.lt_of_lt_of_le f401.lt pq404_1)
      have g_b_404 : n0 ≤ b_404 := Nat.le_trans Z403 pq404_1
      have f413 := f396.keep K404 nin0
      have f414 := f397.keep K404
      have f415 := f398.keep K404 nin0
      have f416 := f399.keep K404 nin0
      have f417 := f400.keep K404 nin0
      have f418 := f401.keep K404
      have f419 := pq395_0.keep K404 nin0
      have f420 := pq395_1.keep K404 nin0
      have f421 := pq395_2.keep K404 nin0
      have O422 := O402.keep K404 all0
      have Z423 : n0 ≤ h404.size := Nat.le_trans Z403 K404.1
      refine own_stepW (st' := T404.setTop (mkF m 113 #[.val (.int x0), .val (.int x1), .val (.int x2), .val (.int x3), .val (.int x4), .val (.ref b1), .val (.ref b20), .val (.int (1 : Int32)), .val (.int (3 : Int32)), .val (.ref b377), .unset] [(.ref r_404)])) (fun t k => st404.trans k) ?_
      have hlen404 : (((1 : Int32) + ((3 : Int32) - (1 : Int32))) - (1 : Int32)) = (2 : Int32) := by decide
      rw [hlen404] at pq404_6
      refine own_stepW (st' := T404.setTop (mkF m 115 #[.val (.int x0), .val (.int x1), .val (.int x2), .val (.int x3), .val (.int x4), .val (.ref b1), .val (.ref b20), .val (.int (1 : Int32)), .val (.int (3 : Int32)), .val (.ref b377), .val (.ref r_404)] [])) (fun t k => XS.astore X404.here hx rfl (hb hby at_113) rfl rfl (l' := #[.val (.int x0), .val (.int x1), .val (.int x2), .val (.int x3), .val (.int x4), .val (.ref b1), .val (.ref b20), .val (.int (1 : Int32)), .val (.int (3 : Int32)), .val (.ref b377), .val (.ref r_404)]) rfl k) ?_
      refine own_stepW (st' := T404.setTop (mkF m 117 #[.val (.int x0), .val (.int x1), .val (.int x2), .val (.int x3), .val (.int x4), .val (.ref b1), .val (.ref b20), .val (.int (1 : Int32)), .val (.int (3 : Int32)), .val (.ref b377), .val (.ref r_404)] [(.ref r_404)])) (fun t k => XS.aload X404.here hx rfl (hb hby at_115) rfl rfl k) ?_
      refine own_stepW (st' := T404.setTop (mkF m 122 #[.val (.int x0), .val (.int x1), .val (.int x2), .val (.int x3), .val (.int x4), .val (.ref b1), .val (.ref b20), .val (.int (1 : Int32)), .val (.int (3 : Int32)), .val (.ref b377), .val (.ref r_404)] [])) (fun t k => XS.ifnonnullYes X404.here hx rfl (pc0 := 117) (pc' := 122) rfl (hb hby at_117) rfl (by decide) (by decide) k) ?_
      refine own_stepW (st' := T404.setTop (mkF m 124 #[.val (.int x0), .val (.int x1), .val (.int x2), .val (.int x3), .val (.int x4), .val (.ref b1), .val (.ref b20), .val (.int (1 : Int32)), .val (.int (3 : Int32)), .val (.ref b377), .val (.ref r_404)] [(.ref r_404)])) (fun t k => XS.aload X404.here hx rfl (hb hby at_122) rfl rfl k) ?_
      obtain ⟨cq424, kq424, q424a, q424b, q424c⟩ := isOf hZ e404 pq404_3
      obtain ⟨_, _, ⟨T424, L424, k424, n424⟩, -, X424, ⟨Lc424, hQ424, l424, y424, z424⟩, st424⟩ := X404.virtualBack hx (y := (⟨"java/lang/String", "length", "()I"⟩ : MethodName)) (z := (⟨"java/lang/String", "length", "()I"⟩ : MethodName)) hown (mvT hZ (own_h hw 93 rfl)) (mvT hZ (own_h hw 64 rfl)) (notFace_of_selects (args := #[]) (mvT hZ (own_h hw 66 rfl))) (mvT hZ (own_h hw 66 rfl)) (mvT hZ (own_h hw 65 rfl)) (by decide) (backOf (W := 0) (rm10 l Z a0 hw [] r_404 b_404 kb_404 (2 : Int32) vd_404 cs h404 n0 Z423 O422 pq404_3 pq404_4 pq404_5 pq404_6 p_0 p_1) hZ (own_h hw 67 rfl) (own_h hw 3 rfl) (by decide) (by decide)) q424a q424c (g := (mkF m 124 #[.val (.int x0), .val (.int x1), .val (.int x2), .val (.int x3), .val (.int x4), .val (.ref b1), .val (.ref b20), .val (.int (1 : Int32)), .val (.int (3 : Int32)), .val (.ref b377), .val (.ref r_404)] [(.ref r_404)])) rfl (by rw [hml]; rfl) (Steps.refl _) (argsL := []) (rest := []) (lenOf pd_9 rfl) rfl (by show 2 * 0 + _ ≤ _; exact Nat.le_of_eq rfl) (hb hby at_124) (fun _ _ => ⟨rfl, e404, (by decide : 6 + 0 ≤ _), (by decide : 26 + 0 ≤ _)⟩)
      dsimp only [Pt.U, Pt.locs, Pt.cells, Pt.slots] at X424 l424 y424 z424 st424 hQ424
      subst y424 z424
      obtain ⟨rfl, N424q, e424⟩ := hQ424
      have N424 := Fr.app N404 N424q
      rw [← l424] at N424
      clear l424
      refine own_stepW (st' := T424.setTop (mkF m 127 #[.val (.int x0), .val (.int x1), .val (.int x2), .val (.int x3), .val (.int x4), .val (.ref b1), .val (.ref b20), .val (.int (1 : Int32)), .val (.int (3 : Int32)), .val (.ref b377), .val (.ref r_404)] [(.int (2 : Int32))])) (fun t k => st424.trans k) ?_
      refine own_stepW (st' := T424.setTop (mkF m 129 #[.val (.int x0), .val (.int x1), .val (.int x2), .val (.int x3), .val (.int x4), .val (.ref b1), .val (.ref b20), .val (.int (1 : Int32)), .val (.int (3 : Int32)), .val (.ref b377), .val (.ref r_404)] [(.int (3 : Int32)), (.int (2 : Int32))])) (fun t k => XS.iload X424.here hx rfl (hb hby at_127) rfl k) ?_
      refine own_stepW (st' := T424.setTop (mkF m 131 #[.val (.int x0), .val (.int x1), .val (.int x2), .val (.int x3), .val (.int x4), .val (.ref b1), .val (.ref b20), .val (.int (1 : Int32)), .val (.int (3 : Int32)), .val (.ref b377), .val (.ref r_404)] [(.int (1 : Int32)), (.int (3 : Int32)), (.int (2 : Int32))])) (fun t k => XS.iload X424.here hx rfl (hb hby at_129) rfl k) ?_
      refine own_stepW (st' := T424.setTop (mkF m 132 #[.val (.int x0), .val (.int x1), .val (.int x2), .val (.int x3), .val (.int x4), .val (.ref b1), .val (.ref b20), .val (.int (1 : Int32)), .val (.int (3 : Int32)), .val (.ref b377), .val (.ref r_404)] [(.int (2 : Int32)), (.int (2 : Int32))])) (fun t k => XS.isub X424.here hx rfl (hb hby at_131) rfl k) ?_
      refine own_stepW (st' := T424.setTop (mkF m 137 #[.val (.int x0), .val (.int x1), .val (.int x2), .val (.int x3), .val (.int x4), .val (.ref b1), .val (.ref b20), .val (.int (1 : Int32)), .val (.int (3 : Int32)), .val (.ref b377), .val (.ref r_404)] [])) (fun t k => XS.icmpYes X424.here hx rfl (pc0 := 132) (pc' := 137) rfl (hb hby at_132) rfl (teq (by decide)).1 (by decide) (by decide) k) ?_
      refine own_stepW (st' := T424.setTop (mkF m 139 #[.val (.int x0), .val (.int x1), .val (.int x2), .val (.int x3), .val (.int x4), .val (.ref b1), .val (.ref b20), .val (.int (1 : Int32)), .val (.int (3 : Int32)), .val (.ref b377), .val (.ref r_404)] [(.ref r_404)])) (fun t k => XS.aload X424.here hx rfl (hb hby at_137) rfl rfl k) ?_
      refine own_stepW (st' := T424.setTop (mkF m 141 #[.val (.int x0), .val (.int x1), .val (.int x2), .val (.int x3), .val (.int x4), .val (.ref b1), .val (.ref b20), .val (.int (1 : Int32)), .val (.int (3 : Int32)), .val (.ref b377), .val (.ref r_404)] [(.ref b1), (.ref r_404)])) (fun t k => XS.aload X424.here hx rfl (hb hby at_139) rfl rfl k) ?_
      refine own_stepW (st' := T424.setTop (mkF m 143 #[.val (.int x0), .val (.int x1), .val (.int x2), .val (.int x3), .val (.int x4), .val (.ref b1), .val (.ref b20), .val (.int (1 : Int32)), .val (.int (3 : Int32)), .val (.ref b377), .val (.ref r_404)] [(.int (1 : Int32)), (.ref b1), (.ref r_404)])) (fun t k => XS.iload X424.here hx rfl (hb hby at_141) rfl k) ?_
      refine own_stepW (st' := T424.setTop (mkF m 145 #[.val (.int x0), .val (.int x1), .val (.int x2), .val (.int x3), .val (.int x4), .val (.ref b1), .val (.ref b20), .val (.int (1 : Int32)), .val (.int (3 : Int32)), .val (.ref b377), .val (.ref r_404)] [(.int (3 : Int32)), (.int (1 : Int32)), (.ref b1), (.ref r_404)])) (fun t k => XS.iload X424.here hx rfl (hb hby at_143) rfl k) ?_
      refine own_stepW (st' := T424.setTop (mkF m 146 #[.val (.int x0), .val (.int x1), .val (.int x2), .val (.int x3), .val (.int x4), .val (.ref b1), .val (.ref b20), .val (.int (1 : Int32)), .val (.int (3 : Int32)), .val (.ref b377), .val (.ref r_404)] [(.int (0 : Int32)), (.int (3 : Int32)), (.int (1 : Int32)), (.ref b1), (.ref r_404)])) (fun t k => XS.iconst X424.here hx rfl (hb hby at_145) k) ?_
      obtain ⟨_, _, ⟨T425, L425, k425, n425⟩, -, X425, ⟨Lc425, hQ425, l425, y425, z425⟩, st425⟩ := Jvm.LawKit.callS X424 hx (y := (⟨"com/example/lookahead/lookahead/runtime/TokenTextPinLaw", "charOk", "(Ljava/lang/String;[CIII)Z"⟩ : MethodName)) hown (mvT hZ (own_h hw 94 rfl)) (mvT hZ (own_h hw 95 rfl)) (mvT hZ (own_h hw 96 rfl)) (mvT hZ (own_h hw 97 rfl)) (by decide) (backOf (W := 0) (rmK2 l Z a0 hw [] r_404 b1 (1 : Int32) (3 : Int32) (0 : Int32) b_404 kb_404 (2 : Int32) vd_404 k1 [(.int q0), (.int q1), (.int q2), (.int q3)] ((q1.toInt8.toInt32).toInt8.toInt32) q1 cs fm h404 n0 Z423 O422 pq404_3 pq404_4 pq404_5 pq404_6 f413 (by decide) (by decide) (by decide) ((pq404_7 _).trans rfl) (own_byte b_q1) (own_nc b_q1) ⟨by decide, by decide⟩ rfl p_0 p_1 p_2 p_3) hZ (own_h hw 97 rfl) (own_h hw 96 rfl) (by decide) (by decide)) (g := (mkF m 146 #[.val (.int x0), .val (.int x1), .val (.int x2), .val (.int x3), .val (.int x4), .val (.ref b1), .val (.ref b20), .val (.int (1 : Int32)), .val (.int (3 : Int32)), .val (.ref b377), .val (.ref r_404)] [(.int (0 : Int32)), (.int (3 : Int32)), (.int (1 : Int32)), (.ref b1), (.ref r_404)])) rfl (by rw [hml]; rfl) (argsL := [(.ref r_404), (.ref b1), (.int (1 : Int32)), (.int (3 : Int32)), (.int (0 : Int32))]) (rest := []) (lenOf pd_15 rfl) rfl (by show 2 * 0 + _ ≤ _; exact Nat.le_of_eq rfl) (hb hby at_146) (fun _ _ => ⟨rfl, e424, (by decide : 6 + 0 ≤ _), (by decide : 26 + 0 ≤ _)⟩)
      dsimp only [Pt.U, Pt.locs, Pt.cells, Pt.slots] at X425 l425 y425 z425 st425 hQ425
      subst y425 z425
      obtain ⟨rfl, N425q, e425⟩ := hQ425
      have N425 := Fr.app N424 N425q
      rw [← l425] at N425
      clear l425
      refine own_stepW (st' := T425.setTop (mkF m 149 #[.val (.int x0), .val (.int x1), .val (.int x2), .val (.int x3), .val (.int x4), .val (.ref b1), .val (.ref b20), .val (.int (1 : Int32)), .val (.int (3 : Int32)), .val (.ref b377), .val (.ref r_404)] [(.int (1 : Int32))])) st425 ?_
      refine own_stepW (st' := T425.setTop (mkF m 152 #[.val (.int x0), .val (.int x1), .val (.int x2), .val (.int x3), .val (.int x4), .val (.ref b1), .val (.ref b20), .val (.int (1 : Int32)), .val (.int (3 : Int32)), .val (.ref b377), .val (.ref r_404)] [])) (fun t k => XS.ifNo X425.here hx rfl (hb hby at_149) rfl ((if0 _ _).trans (feq (by decide)).1) k) ?_
      refine own_stepW (st' := T425.setTop (mkF m 154 #[.val (.int x0), .val (.int x1), .val (.int x2), .val (.int x3), .val (.int x4), .val (.ref b1), .val (.ref b20), .val (.int (1 : Int32)), .val (.int (3 : Int32)), .val (.ref b377), .val (.ref r_404)] [(.ref r_404)])) (fun t k => XS.aload X425.here hx rfl (hb hby at_152) rfl rfl k) ?_
      refine own_stepW (st' := T425.setTop (mkF m 156 #[.val (.int x0), .val (.int x1), .val (.int x2), .val (.int x3), .val (.int x4), .val (.ref b1), .val (.ref b20), .val (.int (1 : Int32)), .val (.int (3 : Int32)), .val (.ref b377), .val (.ref r_404)] [(.ref b1), (.ref r_404)])) (fun t k => XS.aload X425.here hx rfl (hb hby at_154) rfl rfl k) ?_
      refine own_stepW (st' := T425.setTop (mkF m 158 #[.val (.int x0), .val (.int x1), .val (.int x2), .val (.int x3), .val (.int x4), .val (.ref b1), .val (.ref b20), .val (.int (1 : Int32)), .val (.int (3 : Int32)), .val (.ref b377), .val (.ref r_404)] [(.int (1 : Int32)), (.ref b1), (.ref r_404)])) (fun t k => XS.iload X425.here hx rfl (hb hby at_156) rfl k) ?_
      refine own_stepW (st' := T425.setTop (mkF m 160 #[.val (.int x0), .val (.int x1), .val (.int x2), .val (.int x3), .val (.int x4), .val (.ref b1), .val (.ref b20), .val (.int (1 : Int32)), .val (.int (3 : Int32)), .val (.ref b377), .val (.ref r_404)] [(.int (3 : Int32)), (.int (1 : Int32)), (.ref b1), (.ref r_404)])) (fun t k => XS.iload X425.here hx rfl (hb hby at_158) rfl k) ?_
      refine own_stepW (st' := T425.setTop (mkF m 161 #[.val (.int x0), .val (.int x1), .val (.int x2), .val (.int x3), .val (.int x4), .val (.ref b1), .val (.ref b20), .val (.int (1 : Int32)), .val (.int (3 : Int32)), .val (.ref b377), .val (.ref r_404)] [(.int (1 : Int32)), (.int (3 : Int32)), (.int (1 : Int32)), (.ref b1), (.ref r_404)])) (fun t k => XS.iconst X425.here hx rfl (hb hby at_160) k) ?_
      obtain ⟨_, _, ⟨T426, L426, k426, n426⟩, -, X426, ⟨Lc426, hQ426, l426, y426, z426⟩, st426⟩ := Jvm.LawKit.callS X425 hx (y := (⟨"com/example/lookahead/lookahead/runtime/TokenTextPinLaw", "charOk", "(Ljava/lang/String;[CIII)Z"⟩ : MethodName)) hown (mvT hZ (own_h hw 94 rfl)) (mvT hZ (own_h hw 95 rfl)) (mvT hZ (own_h hw 96 rfl)) (mvT hZ (own_h hw 97 rfl)) (by decide) (backOf (W := 0) (rmK2 l Z a0 hw [] r_404 b1 (1 : Int32) (3 : Int32) (1 : Int32) b_404 kb_404 (2 : Int32) vd_404 k1 [(.int q0), (.int q1), (.int q2), (.int q3)] ((q2.toInt8.toInt32).toInt8.toInt32) q2 cs fm h404 n0 Z423 O422 pq404_3 pq404_4 pq404_5 pq404_6 f413 (by decide) (by decide) (by decide) ((pq404_7 _).trans rfl) (own_byte b_q2) (own_nc b_q2) ⟨by decide, by decide⟩ rfl p_0 p_1 p_2 p_3) hZ (own_h hw 97 rfl) (own_h hw 96 rfl) (by decide) (by decide)) (g := (mkF m 161 #[.val (.int x0), .val (.int x1), .val (.int x2), .val (.int x3), .val (.int x4), .val (.ref b1), .val (.ref b20), .val (.int (1 : Int32)), .val (.int (3 : Int32)), .val (.ref b377), .val (.ref r_404)] [(.int (1 : Int32)), (.int (3 : Int32)), (.int (1 : Int32)), (.ref b1), (.ref r_404)])) rfl (by rw [hml]; rfl) (argsL := [(.ref r_404), (.ref b1), (.int (1 : Int32)), (.int (3 : Int32)), (.int (1 : Int32))]) (rest := []) (lenOf pd_15 rfl) rfl (by show 2 * 0 + _ ≤ _; exact Nat.le_of_eq rfl) (hb hby at_161) (fun _ _ => ⟨rfl, e425, (by decide : 6 + 0 ≤ _), (by decide : 26 + 0 ≤ _)⟩)
      dsimp only [Pt.U, Pt.locs, Pt.cells, Pt.slots] at X426 l426 y426 z426 st426 hQ426
      subst y426 z426
      obtain ⟨rfl, N426q, e426⟩ := hQ426
      have N426 := Fr.app N425 N426q
      rw [← l426] at N426
      clear l426
      refine own_stepW (st' := T426.setTop (mkF m 164 #[.val (.int x0), .val (.int x1), .val (.int x2), .val (.int x3), .val (.int x4), .val (.ref b1), .val (.ref b20), .val (.int (1 : Int32)), .val (.int (3 : Int32)), .val (.ref b377), .val (.ref r_404)] [(.int (1 : Int32))])) st426 ?_
      refine own_stepW (st' := T426.setTop (mkF m 167 #[.val (.int x0), .val (.int x1), .val (.int x2), .val (.int x3), .val (.int x4), .val (.ref b1), .val (.ref b20), .val (.int (1 : Int32)), .val (.int (3 : Int32)), .val (.ref b377), .val (.ref r_404)] [])) (fun t k => XS.ifNo X426.here hx rfl (hb hby at_164) rfl ((if0 _ _).trans (feq (by decide)).1) k) ?_
      refine own_stepW (st' := T426.setTop (mkF m 169 #[.val (.int x0), .val (.int x1), .val (.int x2), .val (.int x3), .val (.int x4), .val (.ref b1), .val (.ref b20), .val (.int (1 : Int32)), .val (.int (3 : Int32)), .val (.ref b377), .val (.ref r_404)] [(.ref r_404)])) (fun t k => XS.aload X426.here hx rfl (hb hby at_167) rfl rfl k) ?_
      refine own_stepW (st' := T426.setTop (mkF m 171 #[.val (.int x0), .val (.int x1), .val (.int x2), .val (.int x3), .val (.int x4), .val (.ref b1), .val (.ref b20), .val (.int (1 : Int32)), .val (.int (3 : Int32)), .val (.ref b377), .val (.ref r_404)] [(.ref b1), (.ref r_404)])) (fun t k => XS.aload X426.here hx rfl (hb hby at_169) rfl rfl k) ?_
      refine own_stepW (st' := T426.setTop (mkF m 173 #[.val (.int x0), .val (.int x1), .val (.int x2), .val (.int x3), .val (.int x4), .val (.ref b1), .val (.ref b20), .val (.int (1 : Int32)), .val (.int (3 : Int32)), .val (.ref b377), .val (.ref r_404)] [(.int (1 : Int32)), (.ref b1), (.ref r_404)])) (fun t k => XS.iload X426.here hx rfl (hb hby at_171) rfl k) ?_
      refine own_stepW (st' := T426.setTop (mkF m 175 #[.val (.int x0), .val (.int x1), .val (.int x2), .val (.int x3), .val (.int x4), .val (.ref b1), .val (.ref b20), .val (.int (1 : Int32)), .val (.int (3 : Int32)), .val (.ref b377), .val (.ref r_404)] [(.int (3 : Int32)), (.int (1 : Int32)), (.ref b1), (.ref r_404)])) (fun t k => XS.iload X426.here hx rfl (hb hby at_173) rfl k) ?_
      refine own_stepW (st' := T426.setTop (mkF m 176 #[.val (.int x0), .val (.int x1), .val (.int x2), .val (.int x3), .val (.int x4), .val (.ref b1), .val (.ref b20), .val (.int (1 : Int32)), .val (.int (3 : Int32)), .val (.ref b377), .val (.ref r_404)] [(.int (2 : Int32)), (.int (3 : Int32)), (.int (1 : Int32)), (.ref b1), (.ref r_404)])) (fun t k => XS.iconst X426.here hx rfl (hb hby at_175) k) ?_
      obtain ⟨_, _, ⟨T427, L427, k427, n427⟩, -, X427, ⟨Lc427, hQ427, l427, y427, z427⟩, st427⟩ := Jvm.LawKit.callS X426 hx (y := (⟨"com/example/lookahead/lookahead/runtime/TokenTextPinLaw", "charOk", "(Ljava/lang/String;[CIII)Z"⟩ : MethodName)) hown (mvT hZ (own_h hw 94 rfl)) (mvT hZ (own_h hw 95 rfl)) (mvT hZ (own_h hw 96 rfl)) (mvT hZ (own_h hw 97 rfl)) (by decide) (backOf (W := 0) (rmK1 l Z a0 hw [] r_404 b1 (1 : Int32) (3 : Int32) (2 : Int32) h404 n0 Z423 (by decide)) hZ (own_h hw 97 rfl) (own_h hw 96 rfl) (by decide) (by decide)) (g := (mkF m 176 #[.val (.int x0), .val (.int x1), .val (.int x2), .val (.int x3), .val (.int x4), .val (.ref b1), .val (.ref b20), .val (.int (1 : Int32)), .val (.int (3 : Int32)), .val (.ref b377), .val (.ref r_404)] [(.int (2 : Int32)), (.int (3 : Int32)), (.int (1 : Int32)), (.ref b1), (.ref r_404)])) rfl (by rw [hml]; rfl) (argsL := [(.ref r_404), (.ref b1), (.int (1 : Int32)), (.int (3 : Int32)), (.int (2 : Int32))]) (rest := []) (lenOf pd_15 rfl) rfl (by show 2 * 0 + _ ≤ _; exact Nat.le_of_eq rfl) (hb hby at_176) (fun _ _ => ⟨rfl, e426, (by decide : 6 + 0 ≤ _), (by decide : 26 + 0 ≤ _)⟩)
      dsimp only [Pt.U, Pt.locs, Pt.cells, Pt.slots] at X427 l427 y427 z427 st427 hQ427
      subst y427 z427
      obtain ⟨rfl, N427q, e427⟩ := hQ427
      have N427 := Fr.app N426 N427q
      rw [← l427] at N427
      clear l427
      refine own_stepW (st' := T427.setTop (mkF m 179 #[.val (.int x0), .val (.int x1), .val (.int x2), .val (.int x3), .val (.int x4), .val (.ref b1), .val (.ref b20), .val (.int (1 : Int32)), .val (.int (3 : Int32)), .val (.ref b377), .val (.ref r_404)] [(.int (1 : Int32))])) st427 ?_
      refine own_stepW (st' := T427.setTop (mkF m 182 #[.val (.int x0), .val (.int x1), .val (.int x2), .val (.int x3), .val (.int x4), .val (.ref b1), .val (.ref b20), .val (.int (1 : Int32)), .val (.int (3 : Int32)), .val (.ref b377), .val (.ref r_404)] [])) (fun t k => XS.ifNo X427.here hx rfl (hb hby at_179) rfl ((if0 _ _).trans (feq (by decide)).1) k) ?_
      refine own_stepW (st' := T427.setTop (mkF m 184 #[.val (.int x0), .val (.int x1), .val (.int x2), .val (.int x3), .val (.int x4), .val (.ref b1), .val (.ref b20), .val (.int (1 : Int32)), .val (.int (3 : Int32)), .val (.ref b377), .val (.ref r_404)] [(.ref r_404)])) (fun t k => XS.aload X427.here hx rfl (hb hby at_182) rfl rfl k) ?_
      refine own_stepW (st' := T427.setTop (mkF m 186 #[.val (.int x0), .val (.int x1), .val (.int x2), .val (.int x3), .val (.int x4), .val (.ref b1), .val (.ref b20), .val (.int (1 : Int32)), .val (.int (3 : Int32)), .val (.ref b377), .val (.ref r_404)] [(.ref b1), (.ref r_404)])) (fun t k => XS.aload X427.here hx rfl (hb hby at_184) rfl rfl k) ?_
      refine own_stepW (st' := T427.setTop (mkF m 188 #[.val (.int x0), .val (.int x1), .val (.int x2), .val (.int x3), .val (.int x4), .val (.ref b1), .val (.ref b20), .val (.int (1 : Int32)), .val (.int (3 : Int32)), .val (.ref b377), .val (.ref r_404)] [(.int (1 : Int32)), (.ref b1), (.ref r_404)])) (fun t k => XS.iload X427.here hx rfl (hb hby at_186) rfl k) ?_
      refine own_stepW (st' := T427.setTop (mkF m 190 #[.val (.int x0), .val (.int x1), .val (.int x2), .val (.int x3), .val (.int x4), .val (.ref b1), .val (.ref b20), .val (.int (1 : Int32)), .val (.int (3 : Int32)), .val (.ref b377), .val (.ref r_404)] [(.int (3 : Int32)), (.int (1 : Int32)), (.ref b1), (.ref r_404)])) (fun t k => XS.iload X427.here hx rfl (hb hby at_188) rfl k) ?_
      refine own_stepW (st' := T427.setTop (mkF m 191 #[.val (.int x0), .val (.int x1), .val (.int x2), .val (.int x3), .val (.int x4), .val (.ref b1), .val (.ref b20), .val (.int (1 : Int32)), .val (.int (3 : Int32)), .val (.ref b377), .val (.ref r_404)] [(.int (3 : Int32)), (.int (3 : Int32)), (.int (1 : Int32)), (.ref b1), (.ref r_404)])) (fun t k => XS.iconst X427.here hx rfl (hb hby at_190) k) ?_
      obtain ⟨_, _, ⟨T428, L428, k428, n428⟩, -, X428, ⟨Lc428, hQ428, l428, y428, z428⟩, st428⟩ := Jvm.LawKit.callS X427 hx (y := (⟨"com/example/lookahead/lookahead/runtime/TokenTextPinLaw", "charOk", "(Ljava/lang/String;[CIII)Z"⟩ : MethodName)) hown (mvT hZ (own_h hw 94 rfl)) (mvT hZ (own_h hw 95 rfl)) (mvT hZ (own_h hw 96 rfl)) (mvT hZ (own_h hw 97 rfl)) (by decide) (backOf (W := 0) (rmK1 l Z a0 hw [] r_404 b1 (1 : Int32) (3 : Int32) (3 : Int32) h404 n0 Z423 (by decide)) hZ (own_h hw 97 rfl) (own_h hw 96 rfl) (by decide) (by decide)) (g := (mkF m 191 #[.val (.int x0), .val (.int x1), .val (.int x2), .val (.int x3), .val (.int x4), .val (.ref b1), .val (.ref b20), .val (.int (1 : Int32)), .val (.int (3 : Int32)), .val (.ref b377), .val (.ref r_404)] [(.int (3 : Int32)), (.int (3 : Int32)), (.int (1 : Int32)), (.ref b1), (.ref r_404)])) rfl (by rw [hml]; rfl) (argsL := [(.ref r_404), (.ref b1), (.int (1 : Int32)), (.int (3 : Int32)), (.int (3 : Int32))]) (rest := []) (lenOf pd_15 rfl) rfl (by show 2 * 0 + _ ≤ _; exact Nat.le_of_eq rfl) (hb hby at_191) (fun _ _ => ⟨rfl, e427, (by decide : 6 + 0 ≤ _), (by decide : 26 + 0 ≤ _)⟩)
      dsimp only [Pt.U, Pt.locs, Pt.cells, Pt.slots] at X428 l428 y428 z428 st428 hQ428
      subst y428 z428
      obtain ⟨rfl, N428q, e428⟩ := hQ428
      have N428 := Fr.app N427 N428q
      rw [← l428] at N428
      clear l428
      refine own_stepW (st' := T428.setTop (mkF m 194 #[.val (.int x0), .val (.int x1), .val (.int x2), .val (.int x3), .val (.int x4), .val (.ref b1), .val (.ref b20), .val (.int (1 : Int32)), .val (.int (3 : Int32)), .val (.ref b377), .val (.ref r_404)] [(.int (1 : Int32))])) st428 ?_
      refine own_stepW (st' := T428.setTop (mkF m 197 #[.val (.int x0), .val (.int x1), .val (.int x2), .val (.int x3), .val (.int x4), .val (.ref b1), .val (.ref b20), .val (.int (1 : Int32)), .val (.int (3 : Int32)), .val (.ref b377), .val (.ref r_404)] [])) (fun t k => XS.ifNo X428.here hx rfl (hb hby at_194) rfl ((if0 _ _).trans (feq (by decide)).1) k) ?_
      refine own_stepW (st' := T428.setTop (mkF m 198 #[.val (.int x0), .val (.int x1), .val (.int x2), .val (.int x3), .val (.int x4), .val (.ref b1), .val (.ref b20), .val (.int (1 : Int32)), .val (.int (3 : Int32)), .val (.ref b377), .val (.ref r_404)] [(.int (1 : Int32))])) (fun t k => XS.iconst X428.here hx rfl (hb hby at_197) k) ?_
      refine own_stepW (st' := T428.setTop (mkF m 202 #[.val (.int x0), .val (.int x1), .val (.int x2), .val (.int x3), .val (.int x4), .val (.ref b1), .val (.ref b20), .val (.int (1 : Int32)), .val (.int (3 : Int32)), .val (.ref b377), .val (.ref r_404)] [(.int (1 : Int32))])) (fun t k => XS.goto X428.here hx rfl (pc0 := 198) (pc' := 202) rfl (hb hby at_198) (by decide) (by decide) k) ?_
      refine own_toW <| own_ret X428 Bd.notSynchronized (some (.int (1 : Int32))) (fun h => by rw [Bd.returns] at h; cases h) (fun fs hr => retN X428 hx (t := .boolean) Bd.returns (by simp) (hb hby at_202) hr) ?_ (by decide) (by decide)
      rw [e428]
      exact ⟨rfl, N428⟩
    · rw [hn280]
      refine own_stepW (st' := T27.setTop (mkF m 85 #[.val (.int x0), .val (.int x1), .val (.int x2), .val (.int x3), .val (.int x4), .val (.ref b1), .val (.ref b20), .val (.int (1 : Int32)), .unset, .unset, .unset] [(.int (4 : Int32))])) (fun t k => XS.iadd X27.here hx rfl (hb hby at_84) rfl k) ?_
      refine own_stepW (st' := T27.setTop (mkF m 87 #[.val (.int x0), .val (.int x1), .val (.int x2), .val (.int x3), .val (.int x4), .val (.ref b1), .val (.ref b20), .val (.int (1 : Int32)), .val (.int (4 : Int32)), .unset, .unset] [])) (fun t k => XS.istore X27.here hx rfl (hb hby at_85) rfl (l' := #[.val (.int x0), .val (.int x1), .val (.int x2), .val (.int x3), .val (.int x4), .val (.ref b1), .val (.ref b20), .val (.int (1 : Int32)), .val (.int (4 : Int32)), .unset, .unset]) rfl k) ?_
      obtain ⟨T429, h429, X429, e429, E429, A429, D429, -, st429⟩ := newO X27 hx hZ hown (own_h hw 31 rfl) (own_h hw 32 rfl) (own_h hw 33 rfl) e27 (g := (mkF m 87 #[.val (.int x0), .val (.int x1), .val (.int x2), .val (.int x3), .val (.int x4), .val (.ref b1), .val (.ref b20), .val (.int (1 : Int32)), .val (.int (4 : Int32)), .unset, .unset] [])) rfl (hb hby at_87) (by decide) (by decide)
      obtain ⟨b429, g429⟩ : ∃ z, z = h27.size := ⟨_, rfl⟩
      rw [← g429] at A429 D429 st429
      have ne430 : b1 ≠ b429 := Nat.ne_of_lt (Nat.lt_of_lt_of_le f30.lt (Nat.le_of_eq g429.symm))
      have ne431 : b20 ≠ b429 := Nat.ne_of_lt (Nat.lt_of_lt_of_le f31.lt (Nat.le_of_eq g429.symm))
      have ne432 : b_27 ≠ b429 := Nat.ne_of_lt (Nat.lt_of_lt_of_le pq27_3.lt (Nat.le_of_eq g429.symm))
      have g_b429 : n0 ≤ b429 := Nat.le_trans Z33 (Nat.le_of_eq g429.symm)
      have f433 := f30.ext E429
      have f434 := f31.ext E429
      have f435 := pq27_1.ext E429
      have f436 := pq27_2.ext E429
      have f437 := pq27_3.ext E429
      have O438 := O32.ext E429
      have Z439 : n0 ≤ h429.size := Nat.le_trans Z33 E429.1
      have f440 : Fld Z h429 b429 "com/example/lookahead/lookahead/runtime/Token" "terminal" "Lcom/example/lookahead/lookahead/core/Terminal;" .null := D429 (Or.inr (own_h hw 42 rfl)) (ty := (.object "com/example/lookahead/lookahead/core/Terminal")) (by decide)
      have f441 : Fld Z h429 b429 "com/example/lookahead/lookahead/runtime/Token" "input" "Ljava/lang/String;" .null := D429 (Or.inr (own_h hw 44 rfl)) (ty := (.object "java/lang/String")) (by decide)
      have f442 : Fld Z h429 b429 "com/example/lookahead/lookahead/runtime/Token" "start" "I" (.int (0 : Int32)) := D429 (Or.inr (own_h hw 46 rfl)) (ty := .int) (by decide)
      have f443 : Fld Z h429 b429 "com/example/lookahead/lookahead/runtime/Token" "end" "I" (.int (0 : Int32)) := D429 (Or.inr (own_h hw 48 rfl)) (ty := .int) (by decide)
      have f444 : Fld Z h429 b429 "com/example/lookahead/lookahead/runtime/Token" "line" "I" (.int (0 : Int32)) := D429 (Or.inr (own_h hw 50 rfl)) (ty := .int) (by decide)
      have f445 : Fld Z h429 b429 "com/example/lookahead/lookahead/runtime/Token" "column" "I" (.int (0 : Int32)) := D429 (Or.inr (own_h hw 52 rfl)) (ty := .int) (by decide)
      refine own_stepW (st' := T429.setTop (mkF m 90 #[.val (.int x0), .val (.int x1), .val (.int x2), .val (.int x3), .val (.int x4), .val (.ref b1), .val (.ref b20), .val (.int (1 : Int32)), .val (.int (4 : Int32)), .unset, .unset] [(.ref b429)])) st429 ?_
      refine own_stepW (st' := T429.setTop (mkF m 91 #[.val (.int x0), .val (.int x1), .val (.int x2), .val (.int x3), .val (.int x4), .val (.ref b1), .val (.ref b20), .val (.int (1 : Int32)), .val (.int (4 : Int32)), .unset, .unset] [(.ref b429), (.ref b429)])) (fun t k => XS.dup X429.here hx rfl (hb hby at_90) rfl rfl k) ?_
      obtain ⟨T446, X446, e446, st446⟩ := getS2 X429 hx hZ hown (host := "") (Or.inl (own_h hw 34 rfl)) Via.refl e429 (p_4.ext O438.2) (g := (mkF m 91 #[.val (.int x0), .val (.int x1), .val (.int x2), .val (.int x3), .val (.int x4), .val (.ref b1), .val (.ref b20), .val (.int (1 : Int32)), .val (.int (4 : Int32)), .unset, .unset] [(.ref b429), (.ref b429)])) rfl (hb hby at_91)
      refine own_stepW (st' := T446.setTop (mkF m 94 #[.val (.int x0), .val (.int x1), .val (.int x2), .val (.int x3), .val (.int x4), .val (.ref b1), .val (.ref b20), .val (.int (1 : Int32)), .val (.int (4 : Int32)), .unset, .unset] [(.ref tm), (.ref b429), (.ref b429)])) st446 ?_
      refine own_stepW (st' := T446.setTop (mkF m 96 #[.val (.int x0), .val (.int x1), .val (.int x2), .val (.int x3), .val (.int x4), .val (.ref b1), .val (.ref b20), .val (.int (1 : Int32)), .val (.int (4 : Int32)), .unset, .unset] [(.ref b20), (.ref tm), (.ref b429), (.ref b429)])) (fun t k => XS.aload X446.here hx rfl (hb hby at_94) rfl rfl k) ?_
      refine own_stepW (st' := T446.setTop (mkF m 98 #[.val (.int x0), .val (.int x1), .val (.int x2), .val (.int x3), .val (.int x4), .val (.ref b1), .val (.ref b20), .val (.int (1 : Int32)), .val (.int (4 : Int32)), .unset, .unset] [(.int (1 : Int32)), (.ref b20), (.ref tm), (.ref b429), (.ref b429)])) (fun t k => XS.iload X446.here hx rfl (hb hby at_96) rfl k) ?_
      refine own_stepW (st' := T446.setTop (mkF m 100 #[.val (.int x0), .val (.int x1), .val (.int x2), .val (.int x3), .val (.int x4), .val (.ref b1), .val (.ref b20), .val (.int (1 : Int32)), .val (.int (4 : Int32)), .unset, .unset] [(.int (4 : Int32)), (.int (1 : Int32)), (.ref b20), (.ref tm), (.ref b429), (.ref b429)])) (fun t k => XS.iload X446.here hx rfl (hb hby at_98) rfl k) ?_
      refine own_stepW (st' := T446.setTop (mkF m 101 #[.val (.int x0), .val (.int x1), .val (.int x2), .val (.int x3), .val (.int x4), .val (.ref b1), .val (.ref b20), .val (.int (1 : Int32)), .val (.int (4 : Int32)), .unset, .unset] [(.int x3), (.int (4 : Int32)), (.int (1 : Int32)), (.ref b20), (.ref tm), (.ref b429), (.ref b429)])) (fun t k => XS.iloadN X446.here hx rfl (hb hby at_100) rfl k) ?_
      refine own_stepW (st' := T446.setTop (mkF m 103 #[.val (.int x0), .val (.int x1), .val (.int x2), .val (.int x3), .val (.int x4), .val (.ref b1), .val (.ref b20), .val (.int (1 : Int32)), .val (.int (4 : Int32)), .unset, .unset] [(.int x4), (.int x3), (.int (4 : Int32)), (.int (1 : Int32)), (.ref b20), (.ref tm), (.ref b429), (.ref b429)])) (fun t k => XS.iload X446.here hx rfl (hb hby at_101) rfl k) ?_
      obtain ⟨_, _, ⟨T447, L447, k447, n447⟩, -, X447, ⟨Lc447, hQ447, l447, y447, z447⟩, st447⟩ := X446.specialBack hx (y := (⟨"com/example/lookahead/lookahead/runtime/Token", "<init>", "(Lcom/example/lookahead/lookahead/core/Terminal;Ljava/lang/String;IIII)V"⟩ : MethodName)) rfl hown (mvT hZ (own_h hw 37 rfl)) (mvT hZ (own_h hw 38 rfl)) (mvT hZ (own_h hw 39 rfl)) (by decide) (backOf (W := 1) (rm7 l Z a0 hw [] b429 tm b20 (1 : Int32) (4 : Int32) x3 x4 h429 n0 Z439 f440 f441 f442 f443 f444 f445 A429 g_b429) hZ (own_h hw 39 rfl) (own_h hw 33 rfl) (by decide) (by decide)) (g := (mkF m 103 #[.val (.int x0), .val (.int x1), .val (.int x2), .val (.int x3), .val (.int x4), .val (.ref b1), .val (.ref b20), .val (.int (1 : Int32)), .val (.int (4 : Int32)), .unset, .unset] [(.int x4), (.int x3), (.int (4 : Int32)), (.int (1 : Int32)), (.ref b20), (.ref tm), (.ref b429), (.ref b429)])) rfl (by rw [hml]; rfl) (Steps.refl _) (a := b429) (argsL := [(.ref tm), (.ref b20), (.int (1 : Int32)), (.int (4 : Int32)), (.int x3), (.int x4)]) (rest := [(.ref b429)]) (lenOf pd_6 rfl) rfl (by show 2 * 0 + _ ≤ _; exact Nat.le_of_eq rfl) (hb hby at_103) (fun _ _ => ⟨rfl, e446, (by decide : 4 + 0 ≤ _), (by decide : 18 + 0 ≤ _)⟩)
      dsimp only [Pt.U, Pt.locs, Pt.cells, Pt.slots] at X447 l447 y447 z447 st447 hQ447
      subst y447 z447
      obtain ⟨rfl, N447q, K447, pq447_0, pq447_1, pq447_2⟩ := hQ447
      have N447 := Fr.app N27 N447q
      rw [← l447] at N447
      clear l447
      obtain ⟨h447, e447⟩ : ∃ z, T447.heap = z := ⟨_, rfl⟩
      rw [e447] at K447 pq447_0 pq447_1 pq447_2
      have f448 := f433.keep K447 (ninS ne430 nin0)
      have f449 := f434.keep K447
      have f450 := f435.keep K447 (ninS ne431 nin0)
      have f451 := f436.keep K447 (ninS ne431 nin0)
      have f452 := f437.keep K447 (ninS ne432 nin0)
      have f453 := A429.keep K447
      have O454 := O438.keep K447 (allS g_b429 all0)
      have Z455 : n0 ≤ h447.size := Nat.le_trans Z439 K447.1
      refine own_stepW (st' := T447.setTop (mkF m 106 #[.val (.int x0), .val (.int x1), .val (.int x2), .val (.int x3), .val (.int x4), .val (.ref b1), .val (.ref b20), .val (.int (1 : Int32)), .val (.int (4 : Int32)), .unset, .unset] [(.ref b429)])) (fun t k => st447.trans k) ?_
      refine own_stepW (st' := T447.setTop (mkF m 108 #[.val (.int x0), .val (.int x1), .val (.int x2), .val (.int x3), .val (.int x4), .val (.ref b1), .val (.ref b20), .val (.int (1 : Int32)), .val (.int (4 : Int32)), .val (.ref b429), .unset] [])) (fun t k => XS.astore X447.here hx rfl (hb hby at_106) rfl rfl (l' := #[.val (.int x0), .val (.int x1), .val (.int x2), .val (.int x3), .val (.int x4), .val (.ref b1), .val (.ref b20), .val (.int (1 : Int32)), .val (.int (4 : Int32)), .val (.ref b429), .unset]) rfl k) ?_
      refine own_stepW (st' := T447.setTop (mkF m 110 #[.val (.int x0), .val (.int x1), .val (.int x2), .val (.int x3), .val (.int x4), .val (.ref b1), .val (.ref b20), .val (.int (1 : Int32)), .val (.int (4 : Int32)), .val (.ref b429), .unset] [(.ref b429)])) (fun t k => XS.aload X447.here hx rfl (hb hby at_108) rfl rfl k) ?_
      obtain ⟨cq456, kq456, q456a, q456b, q456c⟩ := isOf hZ e447 f453
      obtain ⟨_, _, ⟨T456, L456, k456, n456⟩, -, X456, ⟨Lc456, hQ456, l456, y456, z456⟩, st456⟩ := X447.virtualBack hx (y := (⟨"com/example/lookahead/lookahead/runtime/Token", "text", "()Ljava/lang/String;"⟩ : MethodName)) (z := (⟨"com/example/lookahead/lookahead/runtime/Token", "text", "()Ljava/lang/String;"⟩ : MethodName)) hown (mvT hZ (own_h hw 53 rfl)) (mvT hZ (own_h hw 54 rfl)) (notFace_of_selects (args := #[]) (mvT hZ (own_h hw 56 rfl))) (mvT hZ (own_h hw 56 rfl)) (mvT hZ (own_h hw 55 rfl)) (by decide) (backOf (W := 0) (rmTS l Z a0 hw [] b429 b20 (1 : Int32) (4 : Int32) b_27 kb_27 [(.int ((q0.toInt8.toInt32).toInt8.toInt32)), (.int ((q1.toInt8.toInt32).toInt8.toInt32)), (.int ((q2.toInt8.toInt32).toInt8.toInt32)), (.int ((q3.toInt8.toInt32).toInt8.toInt32))] cs fm h447 n0 Z455 O454 pq447_0 pq447_1 pq447_2 f449 f450 f451 f452 p_0 p_1 p_2 p_3 ⟨by decide, by decide, by decide⟩ (by decide)) hZ (own_h hw 57 rfl) (own_h hw 33 rfl) (by decide) (by decide)) q456a q456c (g := (mkF m 110 #[.val (.int x0), .val (.int x1), .val (.int x2), .val (.int x3), .val (.int x4), .val (.ref b1), .val (.ref b20), .val (.int (1 : Int32)), .val (.int (4 : Int32)), .val (.ref b429), .unset] [(.ref b429)])) rfl (by rw [hml]; rfl) (Steps.refl _) (argsL := []) (rest := []) (lenOf pd_7 rfl) rfl (by show 2 * 0 + _ ≤ _; exact Nat.le_of_eq rfl) (hb hby at_110) (fun _ _ => ⟨rfl, e447, (by decide : 4 + 2 ≤ _), (by decide : 18 + 8 ≤ _)⟩)
      dsimp only [Pt.U, Pt.locs, Pt.cells, Pt.slots] at X456 l456 y456 z456 st456 hQ456
      subst y456 z456
      obtain ⟨r_456, b_456, kb_456, vd_456, rfl, N456q, K456, pq456_0, pq456_1, pq456_2, pq456_3, pq456_4, pq456_5, pq456_6, pq456_7⟩ := hQ456
      have N456 := Fr.app N447 N456q
      rw [← l456] at N456
      clear l456
      obtain ⟨h456, e456⟩ : ∃ z, T456.heap = z := ⟨_, rfl⟩
      rw [e456] at K456 pq456_3 pq456_4 pq456_5 pq456_6
      have ne457 : b1 ≠ r_456 := Nat.ne_of_lt (Nat.lt_of_lt_of_le f448.lt pq456_0)
      have ne458 : b20 ≠ r_456 := Nat.ne_of_lt (Nat.lt_of_lt_of_le f449.lt pq456_0)
      have ne459 : b_27 ≠ r_456 := Nat.ne_of_lt (Nat.lt_of_lt_of_le f452.lt pq456_0)
      have ne460 : b429 ≠ r_456 := Nat.ne_of_lt (Nat.lt_of_lt_of_le f453.lt pq456_0)
      have g_r_456 : n0 ≤ r_456 := Nat.le_trans Z455 pq456_0
      have ne461 : b1 ≠ b_456 := Nat.ne_of_lt (Nat.lt_of_lt_of_le f448.lt pq456_1)
      have ne462 : b20 ≠ b_456 := Nat.ne_of_lt (Nat.lt_of_lt_of_le f449.lt pq456_1)
      have ne463 : b_27 ≠ b_456 := Nat.ne_of_lt (Nat.lt_of_lt_of_le f452.lt pq456_1)
      have ne464 : b429 ≠ b_456 := Nat.ne_of_lt (Nat.lt_of_lt_of_le f453.lt pq456_1)
      have g_b_456 : n0 ≤ b_456 := Nat.le_trans Z455 pq456_1
      have f465 := f448.keep K456 nin0
      have f466 := f449.keep K456
      have f467 := f450.keep K456 nin0
      have f468 := f451.keep K456 nin0
      have f469 := f452.keep K456 nin0
      have f470 := f453.keep K456
      have f471 := pq447_0.keep K456 nin0
      have f472 := pq447_1.keep K456 nin0
      have f473 := pq447_2.keep K456 nin0
      have O474 := O454.keep K456 all0
      have Z475 : n0 ≤ h456.size := Nat.le_trans Z455 K456.1
      refine own_stepW (st' := T456.setTop (mkF m 113 #[.val (.int x0), .val (.int x1), .val (.int x2), .val (.int x3), .val (.int x4), .val (.ref b1), .val (.ref b20), .val (.int (1 : Int32)), .val (.int (4 : Int32)), .val (.ref b429), .unset] [(.ref r_456)])) (fun t k => st456.trans k) ?_
      have hlen456 : (((1 : Int32) + ((4 : Int32) - (1 : Int32))) - (1 : Int32)) = (3 : Int32) := by decide
      rw [hlen456] at pq456_6
      refine own_stepW (st' := T456.setTop (mkF m 115 #[.val (.int x0), .val (.int x1), .val (.int x2), .val (.int x3), .val (.int x4), .val (.ref b1), .val (.ref b20), .val (.int (1 : Int32)), .val (.int (4 : Int32)), .val (.ref b429), .val (.ref r_456)] [])) (fun t k => XS.astore X456.here hx rfl (hb hby at_113) rfl rfl (l' := #[.val (.int x0), .val (.int x1), .val (.int x2), .val (.int x3), .val (.int x4), .val (.ref b1), .val (.ref b20), .val (.int (1 : Int32)), .val (.int (4 : Int32)), .val (.ref b429), .val (.ref r_456)]) rfl k) ?_
      refine own_stepW (st' := T456.setTop (mkF m 117 #[.val (.int x0), .val (.int x1), .val (.int x2), .val (.int x3), .val (.int x4), .val (.ref b1), .val (.ref b20), .val (.int (1 : Int32)), .val (.int (4 : Int32)), .val (.ref b429), .val (.ref r_456)] [(.ref r_456)])) (fun t k => XS.aload X456.here hx rfl (hb hby at_115) rfl rfl k) ?_
      refine own_stepW (st' := T456.setTop (mkF m 122 #[.val (.int x0), .val (.int x1), .val (.int x2), .val (.int x3), .val (.int x4), .val (.ref b1), .val (.ref b20), .val (.int (1 : Int32)), .val (.int (4 : Int32)), .val (.ref b429), .val (.ref r_456)] [])) (fun t k => XS.ifnonnullYes X456.here hx rfl (pc0 := 117) (pc' := 122) rfl (hb hby at_117) rfl (by decide) (by decide) k) ?_
      refine own_stepW (st' := T456.setTop (mkF m 124 #[.val (.int x0), .val (.int x1), .val (.int x2), .val (.int x3), .val (.int x4), .val (.ref b1), .val (.ref b20), .val (.int (1 : Int32)), .val (.int (4 : Int32)), .val (.ref b429), .val (.ref r_456)] [(.ref r_456)])) (fun t k => XS.aload X456.here hx rfl (hb hby at_122) rfl rfl k) ?_
      obtain ⟨cq476, kq476, q476a, q476b, q476c⟩ := isOf hZ e456 pq456_3
      obtain ⟨_, _, ⟨T476, L476, k476, n476⟩, -, X476, ⟨Lc476, hQ476, l476, y476, z476⟩, st476⟩ := X456.virtualBack hx (y := (⟨"java/lang/String", "length", "()I"⟩ : MethodName)) (z := (⟨"java/lang/String", "length", "()I"⟩ : MethodName)) hown (mvT hZ (own_h hw 93 rfl)) (mvT hZ (own_h hw 64 rfl)) (notFace_of_selects (args := #[]) (mvT hZ (own_h hw 66 rfl))) (mvT hZ (own_h hw 66 rfl)) (mvT hZ (own_h hw 65 rfl)) (by decide) (backOf (W := 0) (rm10 l Z a0 hw [] r_456 b_456 kb_456 (3 : Int32) vd_456 cs h456 n0 Z475 O474 pq456_3 pq456_4 pq456_5 pq456_6 p_0 p_1) hZ (own_h hw 67 rfl) (own_h hw 3 rfl) (by decide) (by decide)) q476a q476c (g := (mkF m 124 #[.val (.int x0), .val (.int x1), .val (.int x2), .val (.int x3), .val (.int x4), .val (.ref b1), .val (.ref b20), .val (.int (1 : Int32)), .val (.int (4 : Int32)), .val (.ref b429), .val (.ref r_456)] [(.ref r_456)])) rfl (by rw [hml]; rfl) (Steps.refl _) (argsL := []) (rest := []) (lenOf pd_9 rfl) rfl (by show 2 * 0 + _ ≤ _; exact Nat.le_of_eq rfl) (hb hby at_124) (fun _ _ => ⟨rfl, e456, (by decide : 6 + 0 ≤ _), (by decide : 26 + 0 ≤ _)⟩)
      dsimp only [Pt.U, Pt.locs, Pt.cells, Pt.slots] at X476 l476 y476 z476 st476 hQ476
      subst y476 z476
      obtain ⟨rfl, N476q, e476⟩ := hQ476
      have N476 := Fr.app N456 N476q
      rw [← l476] at N476
      clear l476
      refine own_stepW (st' := T476.setTop (mkF m 127 #[.val (.int x0), .val (.int x1), .val (.int x2), .val (.int x3), .val (.int x4), .val (.ref b1), .val (.ref b20), .val (.int (1 : Int32)), .val (.int (4 : Int32)), .val (.ref b429), .val (.ref r_456)] [(.int (3 : Int32))])) (fun t k => st476.trans k) ?_
      refine own_stepW (st' := T476.setTop (mkF m 129 #[.val (.int x0), .val (.int x1), .val (.int x2), .val (.int x3), .val (.int x4), .val (.ref b1), .val (.ref b20), .val (.int (1 : Int32)), .val (.int (4 : Int32)), .val (.ref b429), .val (.ref r_456)] [(.int (4 : Int32)), (.int (3 : Int32))])) (fun t k => XS.iload X476.here hx rfl (hb hby at_127) rfl k) ?_
      refine own_stepW (st' := T476.setTop (mkF m 131 #[.val (.int x0), .val (.int x1), .val (.int x2), .val (.int x3), .val (.int x4), .val (.ref b1), .val (.ref b20), .val (.int (1 : Int32)), .val (.int (4 : Int32)), .val (.ref b429), .val (.ref r_456)] [(.int (1 : Int32)), (.int (4 : Int32)), (.int (3 : Int32))])) (fun t k => XS.iload X476.here hx rfl (hb hby at_129) rfl k) ?_
      refine own_stepW (st' := T476.setTop (mkF m 132 #[.val (.int x0), .val (.int x1), .val (.int x2), .val (.int x3), .val (.int x4), .val (.ref b1), .val (.ref b20), .val (.int (1 : Int32)), .val (.int (4 : Int32)), .val (.ref b429), .val (.ref r_456)] [(.int (3 : Int32)), (.int (3 : Int32))])) (fun t k => XS.isub X476.here hx rfl (hb hby at_131) rfl k) ?_
      refine own_stepW (st' := T476.setTop (mkF m 137 #[.val (.int x0), .val (.int x1), .val (.int x2), .val (.int x3), .val (.int x4), .val (.ref b1), .val (.ref b20), .val (.int (1 : Int32)), .val (.int (4 : Int32)), .val (.ref b429), .val (.ref r_456)] [])) (fun t k => XS.icmpYes X476.here hx rfl (pc0 := 132) (pc' := 137) rfl (hb hby at_132) rfl (teq (by decide)).1 (by decide) (by decide) k) ?_
      refine own_stepW (st' := T476.setTop (mkF m 139 #[.val (.int x0), .val (.int x1), .val (.int x2), .val (.int x3), .val (.int x4), .val (.ref b1), .val (.ref b20), .val (.int (1 : Int32)), .val (.int (4 : Int32)), .val (.ref b429), .val (.ref r_456)] [(.ref r_456)])) (fun t k => XS.aload X476.here hx rfl (hb hby at_137) rfl rfl k) ?_
      refine own_stepW (st' := T476.setTop (mkF m 141 #[.val (.int x0), .val (.int x1), .val (.int x2), .val (.int x3), .val (.int x4), .val (.ref b1), .val (.ref b20), .val (.int (1 : Int32)), .val (.int (4 : Int32)), .val (.ref b429), .val (.ref r_456)] [(.ref b1), (.ref r_456)])) (fun t k => XS.aload X476.here hx rfl (hb hby at_139) rfl rfl k) ?_
      refine own_stepW (st' := T476.setTop (mkF m 143 #[.val (.int x0), .val (.int x1), .val (.int x2), .val (.int x3), .val (.int x4), .val (.ref b1), .val (.ref b20), .val (.int (1 : Int32)), .val (.int (4 : Int32)), .val (.ref b429), .val (.ref r_456)] [(.int (1 : Int32)), (.ref b1), (.ref r_456)])) (fun t k => XS.iload X476.here hx rfl (hb hby at_141) rfl k) ?_
      refine own_stepW (st' := T476.setTop (mkF m 145 #[.val (.int x0), .val (.int x1), .val (.int x2), .val (.int x3), .val (.int x4), .val (.ref b1), .val (.ref b20), .val (.int (1 : Int32)), .val (.int (4 : Int32)), .val (.ref b429), .val (.ref r_456)] [(.int (4 : Int32)), (.int (1 : Int32)), (.ref b1), (.ref r_456)])) (fun t k => XS.iload X476.here hx rfl (hb hby at_143) rfl k) ?_
      refine own_stepW (st' := T476.setTop (mkF m 146 #[.val (.int x0), .val (.int x1), .val (.int x2), .val (.int x3), .val (.int x4), .val (.ref b1), .val (.ref b20), .val (.int (1 : Int32)), .val (.int (4 : Int32)), .val (.ref b429), .val (.ref r_456)] [(.int (0 : Int32)), (.int (4 : Int32)), (.int (1 : Int32)), (.ref b1), (.ref r_456)])) (fun t k => XS.iconst X476.here hx rfl (hb hby at_145) k) ?_
      obtain ⟨_, _, ⟨T477, L477, k477, n477⟩, -, X477, ⟨Lc477, hQ477, l477, y477, z477⟩, st477⟩ := Jvm.LawKit.callS X476 hx (y := (⟨"com/example/lookahead/lookahead/runtime/TokenTextPinLaw", "charOk", "(Ljava/lang/String;[CIII)Z"⟩ : MethodName)) hown (mvT hZ (own_h hw 94 rfl)) (mvT hZ (own_h hw 95 rfl)) (mvT hZ (own_h hw 96 rfl)) (mvT hZ (own_h hw 97 rfl)) (by decide) (backOf (W := 0) (rmK2 l Z a0 hw [] r_456 b1 (1 : Int32) (4 : Int32) (0 : Int32) b_456 kb_456 (3 : Int32) vd_456 k1 [(.int q0), (.int q1), (.int q2), (.int q3)] ((q1.toInt8.toInt32).toInt8.toInt32) q1 cs fm h456 n0 Z475 O474 pq456_3 pq456_4 pq456_5 pq456_6 f465 (by decide) (by decide) (by decide) ((pq456_7 _).trans rfl) (own_byte b_q1) (own_nc b_q1) ⟨by decide, by decide⟩ rfl p_0 p_1 p_2 p_3) hZ (own_h hw 97 rfl) (own_h hw 96 rfl) (by decide) (by decide)) (g := (mkF m 146 #[.val (.int x0), .val (.int x1), .val (.int x2), .val (.int x3), .val (.int x4), .val (.ref b1), .val (.ref b20), .val (.int (1 : Int32)), .val (.int (4 : Int32)), .val (.ref b429), .val (.ref r_456)] [(.int (0 : Int32)), (.int (4 : Int32)), (.int (1 : Int32)), (.ref b1), (.ref r_456)])) rfl (by rw [hml]; rfl) (argsL := [(.ref r_456), (.ref b1), (.int (1 : Int32)), (.int (4 : Int32)), (.int (0 : Int32))]) (rest := []) (lenOf pd_15 rfl) rfl (by show 2 * 0 + _ ≤ _; exact Nat.le_of_eq rfl) (hb hby at_146) (fun _ _ => ⟨rfl, e476, (by decide : 6 + 0 ≤ _), (by decide : 26 + 0 ≤ _)⟩)
      dsimp only [Pt.U, Pt.locs, Pt.cells, Pt.slots] at X477 l477 y477 z477 st477 hQ477
      subst y477 z477
      obtain ⟨rfl, N477q, e477⟩ := hQ477
      have N477 := Fr.app N476 N477q
      rw [← l477] at N477
      clear l477
      refine own_stepW (st' := T477.setTop (mkF m 149 #[.val (.int x0), .val (.int x1), .val (.int x2), .val (.int x3), .val (.int x4), .val (.ref b1), .val (.ref b20), .val (.int (1 : Int32)), .val (.int (4 : Int32)), .val (.ref b429), .val (.ref r_456)] [(.int (1 : Int32))])) st477 ?_
      refine own_stepW (st' := T477.setTop (mkF m 152 #[.val (.int x0), .val (.int x1), .val (.int x2), .val (.int x3), .val (.int x4), .val (.ref b1), .val (.ref b20), .val (.int (1 : Int32)), .val (.int (4 : Int32)), .val (.ref b429), .val (.ref r_456)] [])) (fun t k => XS.ifNo X477.here hx rfl (hb hby at_149) rfl ((if0 _ _).trans (feq (by decide)).1) k) ?_
      refine own_stepW (st' := T477.setTop (mkF m 154 #[.val (.int x0), .val (.int x1), .val (.int x2), .val (.int x3), .val (.int x4), .val (.ref b1), .val (.ref b20), .val (.int (1 : Int32)), .val (.int (4 : Int32)), .val (.ref b429), .val (.ref r_456)] [(.ref r_456)])) (fun t k => XS.aload X477.here hx rfl (hb hby at_152) rfl rfl k) ?_
      refine own_stepW (st' := T477.setTop (mkF m 156 #[.val (.int x0), .val (.int x1), .val (.int x2), .val (.int x3), .val (.int x4), .val (.ref b1), .val (.ref b20), .val (.int (1 : Int32)), .val (.int (4 : Int32)), .val (.ref b429), .val (.ref r_456)] [(.ref b1), (.ref r_456)])) (fun t k => XS.aload X477.here hx rfl (hb hby at_154) rfl rfl k) ?_
      refine own_stepW (st' := T477.setTop (mkF m 158 #[.val (.int x0), .val (.int x1), .val (.int x2), .val (.int x3), .val (.int x4), .val (.ref b1), .val (.ref b20), .val (.int (1 : Int32)), .val (.int (4 : Int32)), .val (.ref b429), .val (.ref r_456)] [(.int (1 : Int32)), (.ref b1), (.ref r_456)])) (fun t k => XS.iload X477.here hx rfl (hb hby at_156) rfl k) ?_
      refine own_stepW (st' := T477.setTop (mkF m 160 #[.val (.int x0), .val (.int x1), .val (.int x2), .val (.int x3), .val (.int x4), .val (.ref b1), .val (.ref b20), .val (.int (1 : Int32)), .val (.int (4 : Int32)), .val (.ref b429), .val (.ref r_456)] [(.int (4 : Int32)), (.int (1 : Int32)), (.ref b1), (.ref r_456)])) (fun t k => XS.iload X477.here hx rfl (hb hby at_158) rfl k) ?_
      refine own_stepW (st' := T477.setTop (mkF m 161 #[.val (.int x0), .val (.int x1), .val (.int x2), .val (.int x3), .val (.int x4), .val (.ref b1), .val (.ref b20), .val (.int (1 : Int32)), .val (.int (4 : Int32)), .val (.ref b429), .val (.ref r_456)] [(.int (1 : Int32)), (.int (4 : Int32)), (.int (1 : Int32)), (.ref b1), (.ref r_456)])) (fun t k => XS.iconst X477.here hx rfl (hb hby at_160) k) ?_
      obtain ⟨_, _, ⟨T478, L478, k478, n478⟩, -, X478, ⟨Lc478, hQ478, l478, y478, z478⟩, st478⟩ := Jvm.LawKit.callS X477 hx (y := (⟨"com/example/lookahead/lookahead/runtime/TokenTextPinLaw", "charOk", "(Ljava/lang/String;[CIII)Z"⟩ : MethodName)) hown (mvT hZ (own_h hw 94 rfl)) (mvT hZ (own_h hw 95 rfl)) (mvT hZ (own_h hw 96 rfl)) (mvT hZ (own_h hw 97 rfl)) (by decide) (backOf (W := 0) (rmK2 l Z a0 hw [] r_456 b1 (1 : Int32) (4 : Int32) (1 : Int32) b_456 kb_456 (3 : Int32) vd_456 k1 [(.int q0), (.int q1), (.int q2), (.int q3)] ((q2.toInt8.toInt32).toInt8.toInt32) q2 cs fm h456 n0 Z475 O474 pq456_3 pq456_4 pq456_5 pq456_6 f465 (by decide) (by decide) (by decide) ((pq456_7 _).trans rfl) (own_byte b_q2) (own_nc b_q2) ⟨by decide, by decide⟩ rfl p_0 p_1 p_2 p_3) hZ (own_h hw 97 rfl) (own_h hw 96 rfl) (by decide) (by decide)) (g := (mkF m 161 #[.val (.int x0), .val (.int x1), .val (.int x2), .val (.int x3), .val (.int x4), .val (.ref b1), .val (.ref b20), .val (.int (1 : Int32)), .val (.int (4 : Int32)), .val (.ref b429), .val (.ref r_456)] [(.int (1 : Int32)), (.int (4 : Int32)), (.int (1 : Int32)), (.ref b1), (.ref r_456)])) rfl (by rw [hml]; rfl) (argsL := [(.ref r_456), (.ref b1), (.int (1 : Int32)), (.int (4 : Int32)), (.int (1 : Int32))]) (rest := []) (lenOf pd_15 rfl) rfl (by show 2 * 0 + _ ≤ _; exact Nat.le_of_eq rfl) (hb hby at_161) (fun _ _ => ⟨rfl, e477, (by decide : 6 + 0 ≤ _), (by decide : 26 + 0 ≤ _)⟩)
      dsimp only [Pt.U, Pt.locs, Pt.cells, Pt.slots] at X478 l478 y478 z478 st478 hQ478
      subst y478 z478
      obtain ⟨rfl, N478q, e478⟩ := hQ478
      have N478 := Fr.app N477 N478q
      rw [← l478] at N478
      clear l478
      refine own_stepW (st' := T478.setTop (mkF m 164 #[.val (.int x0), .val (.int x1), .val (.int x2), .val (.int x3), .val (.int x4), .val (.ref b1), .val (.ref b20), .val (.int (1 : Int32)), .val (.int (4 : Int32)), .val (.ref b429), .val (.ref r_456)] [(.int (1 : Int32))])) st478 ?_
      refine own_stepW (st' := T478.setTop (mkF m 167 #[.val (.int x0), .val (.int x1), .val (.int x2), .val (.int x3), .val (.int x4), .val (.ref b1), .val (.ref b20), .val (.int (1 : Int32)), .val (.int (4 : Int32)), .val (.ref b429), .val (.ref r_456)] [])) (fun t k => XS.ifNo X478.here hx rfl (hb hby at_164) rfl ((if0 _ _).trans (feq (by decide)).1) k) ?_
      refine own_stepW (st' := T478.setTop (mkF m 169 #[.val (.int x0), .val (.int x1), .val (.int x2), .val (.int x3), .val (.int x4), .val (.ref b1), .val (.ref b20), .val (.int (1 : Int32)), .val (.int (4 : Int32)), .val (.ref b429), .val (.ref r_456)] [(.ref r_456)])) (fun t k => XS.aload X478.here hx rfl (hb hby at_167) rfl rfl k) ?_
      refine own_stepW (st' := T478.setTop (mkF m 171 #[.val (.int x0), .val (.int x1), .val (.int x2), .val (.int x3), .val (.int x4), .val (.ref b1), .val (.ref b20), .val (.int (1 : Int32)), .val (.int (4 : Int32)), .val (.ref b429), .val (.ref r_456)] [(.ref b1), (.ref r_456)])) (fun t k => XS.aload X478.here hx rfl (hb hby at_169) rfl rfl k) ?_
      refine own_stepW (st' := T478.setTop (mkF m 173 #[.val (.int x0), .val (.int x1), .val (.int x2), .val (.int x3), .val (.int x4), .val (.ref b1), .val (.ref b20), .val (.int (1 : Int32)), .val (.int (4 : Int32)), .val (.ref b429), .val (.ref r_456)] [(.int (1 : Int32)), (.ref b1), (.ref r_456)])) (fun t k => XS.iload X478.here hx rfl (hb hby at_171) rfl k) ?_
      refine own_stepW (st' := T478.setTop (mkF m 175 #[.val (.int x0), .val (.int x1), .val (.int x2), .val (.int x3), .val (.int x4), .val (.ref b1), .val (.ref b20), .val (.int (1 : Int32)), .val (.int (4 : Int32)), .val (.ref b429), .val (.ref r_456)] [(.int (4 : Int32)), (.int (1 : Int32)), (.ref b1), (.ref r_456)])) (fun t k => XS.iload X478.here hx rfl (hb hby at_173) rfl k) ?_
      refine own_stepW (st' := T478.setTop (mkF m 176 #[.val (.int x0), .val (.int x1), .val (.int x2), .val (.int x3), .val (.int x4), .val (.ref b1), .val (.ref b20), .val (.int (1 : Int32)), .val (.int (4 : Int32)), .val (.ref b429), .val (.ref r_456)] [(.int (2 : Int32)), (.int (4 : Int32)), (.int (1 : Int32)), (.ref b1), (.ref r_456)])) (fun t k => XS.iconst X478.here hx rfl (hb hby at_175) k) ?_
      obtain ⟨_, _, ⟨T479, L479, k479, n479⟩, -, X479, ⟨Lc479, hQ479, l479, y479, z479⟩, st479⟩ := Jvm.LawKit.callS X478 hx (y := (⟨"com/example/lookahead/lookahead/runtime/TokenTextPinLaw", "charOk", "(Ljava/lang/String;[CIII)Z"⟩ : MethodName)) hown (mvT hZ (own_h hw 94 rfl)) (mvT hZ (own_h hw 95 rfl)) (mvT hZ (own_h hw 96 rfl)) (mvT hZ (own_h hw 97 rfl)) (by decide) (backOf (W := 0) (rmK2 l Z a0 hw [] r_456 b1 (1 : Int32) (4 : Int32) (2 : Int32) b_456 kb_456 (3 : Int32) vd_456 k1 [(.int q0), (.int q1), (.int q2), (.int q3)] ((q3.toInt8.toInt32).toInt8.toInt32) q3 cs fm h456 n0 Z475 O474 pq456_3 pq456_4 pq456_5 pq456_6 f465 (by decide) (by decide) (by decide) ((pq456_7 _).trans rfl) (own_byte b_q3) (own_nc b_q3) ⟨by decide, by decide⟩ rfl p_0 p_1 p_2 p_3) hZ (own_h hw 97 rfl) (own_h hw 96 rfl) (by decide) (by decide)) (g := (mkF m 176 #[.val (.int x0), .val (.int x1), .val (.int x2), .val (.int x3), .val (.int x4), .val (.ref b1), .val (.ref b20), .val (.int (1 : Int32)), .val (.int (4 : Int32)), .val (.ref b429), .val (.ref r_456)] [(.int (2 : Int32)), (.int (4 : Int32)), (.int (1 : Int32)), (.ref b1), (.ref r_456)])) rfl (by rw [hml]; rfl) (argsL := [(.ref r_456), (.ref b1), (.int (1 : Int32)), (.int (4 : Int32)), (.int (2 : Int32))]) (rest := []) (lenOf pd_15 rfl) rfl (by show 2 * 0 + _ ≤ _; exact Nat.le_of_eq rfl) (hb hby at_176) (fun _ _ => ⟨rfl, e478, (by decide : 6 + 0 ≤ _), (by decide : 26 + 0 ≤ _)⟩)
      dsimp only [Pt.U, Pt.locs, Pt.cells, Pt.slots] at X479 l479 y479 z479 st479 hQ479
      subst y479 z479
      obtain ⟨rfl, N479q, e479⟩ := hQ479
      have N479 := Fr.app N478 N479q
      rw [← l479] at N479
      clear l479
      refine own_stepW (st' := T479.setTop (mkF m 179 #[.val (.int x0), .val (.int x1), .val (.int x2), .val (.int x3), .val (.int x4), .val (.ref b1), .val (.ref b20), .val (.int (1 : Int32)), .val (.int (4 : Int32)), .val (.ref b429), .val (.ref r_456)] [(.int (1 : Int32))])) st479 ?_
      refine own_stepW (st' := T479.setTop (mkF m 182 #[.val (.int x0), .val (.int x1), .val (.int x2), .val (.int x3), .val (.int x4), .val (.ref b1), .val (.ref b20), .val (.int (1 : Int32)), .val (.int (4 : Int32)), .val (.ref b429), .val (.ref r_456)] [])) (fun t k => XS.ifNo X479.here hx rfl (hb hby at_179) rfl ((if0 _ _).trans (feq (by decide)).1) k) ?_
      refine own_stepW (st' := T479.setTop (mkF m 184 #[.val (.int x0), .val (.int x1), .val (.int x2), .val (.int x3), .val (.int x4), .val (.ref b1), .val (.ref b20), .val (.int (1 : Int32)), .val (.int (4 : Int32)), .val (.ref b429), .val (.ref r_456)] [(.ref r_456)])) (fun t k => XS.aload X479.here hx rfl (hb hby at_182) rfl rfl k) ?_
      refine own_stepW (st' := T479.setTop (mkF m 186 #[.val (.int x0), .val (.int x1), .val (.int x2), .val (.int x3), .val (.int x4), .val (.ref b1), .val (.ref b20), .val (.int (1 : Int32)), .val (.int (4 : Int32)), .val (.ref b429), .val (.ref r_456)] [(.ref b1), (.ref r_456)])) (fun t k => XS.aload X479.here hx rfl (hb hby at_184) rfl rfl k) ?_
      refine own_stepW (st' := T479.setTop (mkF m 188 #[.val (.int x0), .val (.int x1), .val (.int x2), .val (.int x3), .val (.int x4), .val (.ref b1), .val (.ref b20), .val (.int (1 : Int32)), .val (.int (4 : Int32)), .val (.ref b429), .val (.ref r_456)] [(.int (1 : Int32)), (.ref b1), (.ref r_456)])) (fun t k => XS.iload X479.here hx rfl (hb hby at_186) rfl k) ?_
      refine own_stepW (st' := T479.setTop (mkF m 190 #[.val (.int x0), .val (.int x1), .val (.int x2), .val (.int x3), .val (.int x4), .val (.ref b1), .val (.ref b20), .val (.int (1 : Int32)), .val (.int (4 : Int32)), .val (.ref b429), .val (.ref r_456)] [(.int (4 : Int32)), (.int (1 : Int32)), (.ref b1), (.ref r_456)])) (fun t k => XS.iload X479.here hx rfl (hb hby at_188) rfl k) ?_
      refine own_stepW (st' := T479.setTop (mkF m 191 #[.val (.int x0), .val (.int x1), .val (.int x2), .val (.int x3), .val (.int x4), .val (.ref b1), .val (.ref b20), .val (.int (1 : Int32)), .val (.int (4 : Int32)), .val (.ref b429), .val (.ref r_456)] [(.int (3 : Int32)), (.int (4 : Int32)), (.int (1 : Int32)), (.ref b1), (.ref r_456)])) (fun t k => XS.iconst X479.here hx rfl (hb hby at_190) k) ?_
      obtain ⟨_, _, ⟨T480, L480, k480, n480⟩, -, X480, ⟨Lc480, hQ480, l480, y480, z480⟩, st480⟩ := Jvm.LawKit.callS X479 hx (y := (⟨"com/example/lookahead/lookahead/runtime/TokenTextPinLaw", "charOk", "(Ljava/lang/String;[CIII)Z"⟩ : MethodName)) hown (mvT hZ (own_h hw 94 rfl)) (mvT hZ (own_h hw 95 rfl)) (mvT hZ (own_h hw 96 rfl)) (mvT hZ (own_h hw 97 rfl)) (by decide) (backOf (W := 0) (rmK1 l Z a0 hw [] r_456 b1 (1 : Int32) (4 : Int32) (3 : Int32) h456 n0 Z475 (by decide)) hZ (own_h hw 97 rfl) (own_h hw 96 rfl) (by decide) (by decide)) (g := (mkF m 191 #[.val (.int x0), .val (.int x1), .val (.int x2), .val (.int x3), .val (.int x4), .val (.ref b1), .val (.ref b20), .val (.int (1 : Int32)), .val (.int (4 : Int32)), .val (.ref b429), .val (.ref r_456)] [(.int (3 : Int32)), (.int (4 : Int32)), (.int (1 : Int32)), (.ref b1), (.ref r_456)])) rfl (by rw [hml]; rfl) (argsL := [(.ref r_456), (.ref b1), (.int (1 : Int32)), (.int (4 : Int32)), (.int (3 : Int32))]) (rest := []) (lenOf pd_15 rfl) rfl (by show 2 * 0 + _ ≤ _; exact Nat.le_of_eq rfl) (hb hby at_191) (fun _ _ => ⟨rfl, e479, (by decide : 6 + 0 ≤ _), (by decide : 26 + 0 ≤ _)⟩)
      dsimp only [Pt.U, Pt.locs, Pt.cells, Pt.slots] at X480 l480 y480 z480 st480 hQ480
      subst y480 z480
      obtain ⟨rfl, N480q, e480⟩ := hQ480
      have N480 := Fr.app N479 N480q
      rw [← l480] at N480
      clear l480
      refine own_stepW (st' := T480.setTop (mkF m 194 #[.val (.int x0), .val (.int x1), .val (.int x2), .val (.int x3), .val (.int x4), .val (.ref b1), .val (.ref b20), .val (.int (1 : Int32)), .val (.int (4 : Int32)), .val (.ref b429), .val (.ref r_456)] [(.int (1 : Int32))])) st480 ?_
      refine own_stepW (st' := T480.setTop (mkF m 197 #[.val (.int x0), .val (.int x1), .val (.int x2), .val (.int x3), .val (.int x4), .val (.ref b1), .val (.ref b20), .val (.int (1 : Int32)), .val (.int (4 : Int32)), .val (.ref b429), .val (.ref r_456)] [])) (fun t k => XS.ifNo X480.here hx rfl (hb hby at_194) rfl ((if0 _ _).trans (feq (by decide)).1) k) ?_
      refine own_stepW (st' := T480.setTop (mkF m 198 #[.val (.int x0), .val (.int x1), .val (.int x2), .val (.int x3), .val (.int x4), .val (.ref b1), .val (.ref b20), .val (.int (1 : Int32)), .val (.int (4 : Int32)), .val (.ref b429), .val (.ref r_456)] [(.int (1 : Int32))])) (fun t k => XS.iconst X480.here hx rfl (hb hby at_197) k) ?_
      refine own_stepW (st' := T480.setTop (mkF m 202 #[.val (.int x0), .val (.int x1), .val (.int x2), .val (.int x3), .val (.int x4), .val (.ref b1), .val (.ref b20), .val (.int (1 : Int32)), .val (.int (4 : Int32)), .val (.ref b429), .val (.ref r_456)] [(.int (1 : Int32))])) (fun t k => XS.goto X480.here hx rfl (pc0 := 198) (pc' := 202) rfl (hb hby at_198) (by decide) (by decide) k) ?_
      refine own_toW <| own_ret X480 Bd.notSynchronized (some (.int (1 : Int32))) (fun h => by rw [Bd.returns] at h; cases h) (fun fs hr => retN X480 hx (t := .boolean) Bd.returns (by simp) (hb hby at_202) hr) ?_ (by decide) (by decide)
      rw [e480]
      exact ⟨rfl, N480⟩
  · rw [hn36]
    refine own_stepW (st' := T27.setTop (mkF m 73 #[.val (.int x0), .val (.int x1), .val (.int x2), .val (.int x3), .val (.int x4), .val (.ref b1), .val (.ref b20), .val (.int (2 : Int32)), .unset, .unset, .unset] [])) (fun t k => XS.istore X27.here hx rfl (hb hby at_71) rfl (l' := #[.val (.int x0), .val (.int x1), .val (.int x2), .val (.int x3), .val (.int x4), .val (.ref b1), .val (.ref b20), .val (.int (2 : Int32)), .unset, .unset, .unset]) rfl k) ?_
    refine own_stepW (st' := T27.setTop (mkF m 75 #[.val (.int x0), .val (.int x1), .val (.int x2), .val (.int x3), .val (.int x4), .val (.ref b1), .val (.ref b20), .val (.int (2 : Int32)), .unset, .unset, .unset] [(.int (2 : Int32))])) (fun t k => XS.iload X27.here hx rfl (hb hby at_73) rfl k) ?_
    refine own_stepW (st' := T27.setTop (mkF m 76 #[.val (.int x0), .val (.int x1), .val (.int x2), .val (.int x3), .val (.int x4), .val (.ref b1), .val (.ref b20), .val (.int (2 : Int32)), .unset, .unset, .unset] [(.int x2), (.int (2 : Int32))])) (fun t k => XS.iloadN X27.here hx rfl (hb hby at_75) rfl k) ?_
    refine own_stepW (st' := T27.setTop (mkF m 78 #[.val (.int x0), .val (.int x1), .val (.int x2), .val (.int x3), .val (.int x4), .val (.ref b1), .val (.ref b20), .val (.int (2 : Int32)), .unset, .unset, .unset] [(.int (2147483647 : Int32)), (.int x2), (.int (2 : Int32))])) (fun t k => X27.ldcInt hx hown (mvT hZ (own_h hw 30 rfl)) (g := (mkF m 76 #[.val (.int x0), .val (.int x1), .val (.int x2), .val (.int x3), .val (.int x4), .val (.ref b1), .val (.ref b20), .val (.int (2 : Int32)), .unset, .unset, .unset] [(.int x2), (.int (2 : Int32))])) rfl (hb hby at_76) t k) ?_
    refine own_stepW (st' := T27.setTop (mkF m 79 #[.val (.int x0), .val (.int x1), .val (.int x2), .val (.int x3), .val (.int x4), .val (.ref b1), .val (.ref b20), .val (.int (2 : Int32)), .unset, .unset, .unset] [(.int (x2 &&& (2147483647 : Int32))), (.int (2 : Int32))])) (fun t k => XS.iand X27.here hx rfl (hb hby at_78) rfl k) ?_
    refine own_stepW (st' := T27.setTop (mkF m 80 #[.val (.int x0), .val (.int x1), .val (.int x2), .val (.int x3), .val (.int x4), .val (.ref b1), .val (.ref b20), .val (.int (2 : Int32)), .unset, .unset, .unset] [(.int (5 : Int32)), (.int (x2 &&& (2147483647 : Int32))), (.int (2 : Int32))])) (fun t k => XS.iconst X27.here hx rfl (hb hby at_79) k) ?_
    refine own_stepW (st' := T27.setTop (mkF m 82 #[.val (.int x0), .val (.int x1), .val (.int x2), .val (.int x3), .val (.int x4), .val (.ref b1), .val (.ref b20), .val (.int (2 : Int32)), .unset, .unset, .unset] [(.int (2 : Int32)), (.int (5 : Int32)), (.int (x2 &&& (2147483647 : Int32))), (.int (2 : Int32))])) (fun t k => XS.iload X27.here hx rfl (hb hby at_80) rfl k) ?_
    refine own_stepW (st' := T27.setTop (mkF m 83 #[.val (.int x0), .val (.int x1), .val (.int x2), .val (.int x3), .val (.int x4), .val (.ref b1), .val (.ref b20), .val (.int (2 : Int32)), .unset, .unset, .unset] [(.int (3 : Int32)), (.int (x2 &&& (2147483647 : Int32))), (.int (2 : Int32))])) (fun t k => XS.isub X27.here hx rfl (hb hby at_82) rfl k) ?_
    refine own_stepW (st' := T27.setTop (mkF m 84 #[.val (.int x0), .val (.int x1), .val (.int x2), .val (.int x3), .val (.int x4), .val (.ref b1), .val (.ref b20), .val (.int (2 : Int32)), .unset, .unset, .unset] [(.int ((x2 &&& (2147483647 : Int32)) % (3 : Int32))), (.int (2 : Int32))])) (fun t k => iremM (g := (mkF m 83 #[.val (.int x0), .val (.int x1), .val (.int x2), .val (.int x3), .val (.int x4), .val (.ref b1), .val (.ref b20), .val (.int (2 : Int32)), .unset, .unset, .unset] [(.int (3 : Int32)), (.int (x2 &&& (2147483647 : Int32))), (.int (2 : Int32))])) X27 hx rfl (hb hby at_83) rfl (by decide) k) ?_
    rcases own_s3 x2 with hn481 | hn482 | hn483
    · rw [hn481]
      refine own_stepW (st' := T27.setTop (mkF m 85 #[.val (.int x0), .val (.int x1), .val (.int x2), .val (.int x3), .val (.int x4), .val (.ref b1), .val (.ref b20), .val (.int (2 : Int32)), .unset, .unset, .unset] [(.int (2 : Int32))])) (fun t k => XS.iadd X27.here hx rfl (hb hby at_84) rfl k) ?_
      refine own_stepW (st' := T27.setTop (mkF m 87 #[.val (.int x0), .val (.int x1), .val (.int x2), .val (.int x3), .val (.int x4), .val (.ref b1), .val (.ref b20), .val (.int (2 : Int32)), .val (.int (2 : Int32)), .unset, .unset] [])) (fun t k => XS.istore X27.here hx rfl (hb hby at_85) rfl (l' := #[.val (.int x0), .val (.int x1), .val (.int x2), .val (.int x3), .val (.int x4), .val (.ref b1), .val (.ref b20), .val (.int (2 : Int32)), .val (.int (2 : Int32)), .unset, .unset]) rfl k) ?_
      obtain ⟨T484, h484, X484, e484, E484, A484, D484, -, st484⟩ := newO X27 hx hZ hown (own_h hw 31 rfl) (own_h hw 32 rfl) (own_h hw 33 rfl) e27 (g := (mkF m 87 #[.val (.int x0), .val (.int x1), .val (.int x2), .val (.int x3), .val (.int x4), .val (.ref b1), .val (.ref b20), .val (.int (2 : Int32)), .val (.int (2 : Int32)), .unset, .unset] [])) rfl (hb hby at_87) (by decide) (by decide)
      obtain ⟨b484, g484⟩ : ∃ z, z = h27.size := ⟨_, rfl⟩
      rw [← g484] at A484 D484 st484
      have ne485 : b1 ≠ b484 := Nat.ne_of_lt (Nat.lt_of_lt_of_le f30.lt (Nat.le_of_eq g484.symm))
      have ne486 : b20 ≠ b484 := Nat.ne_of_lt (Nat.lt_of_lt_of_le f31.lt (Nat.le_of_eq g484.symm))
      have ne487 : b_27 ≠ b484 := Nat.ne_of_lt (Nat.lt_of_lt_of_le pq27_3.lt (Nat.le_of_eq g484.symm))
      have g_b484 : n0 ≤ b484 := Nat.le_trans Z33 (Nat.le_of_eq g484.symm)
      have f488 := f30.ext E484
      have f489 := f31.ext E484
      have f490 := pq27_1.ext E484
      have f491 := pq27_2.ext E484
      have f492 := pq27_3.ext E484
      have O493 := O32.ext E484
      have Z494 : n0 ≤ h484.size := Nat.le_trans Z33 E484.1
      have f495 : Fld Z h484 b484 "com/example/lookahead/lookahead/runtime/Token" "terminal" "Lcom/example/lookahead/lookahead/core/Terminal;" .null := D484 (Or.inr (own_h hw 42 rfl)) (ty := (.object "com/example/lookahead/lookahead/core/Terminal")) (by decide)
      have f496 : Fld Z h484 b484 "com/example/lookahead/lookahead/runtime/Token" "input" "Ljava/lang/String;" .null := D484 (Or.inr (own_h hw 44 rfl)) (ty := (.object "java/lang/String")) (by decide)
      have f497 : Fld Z h484 b484 "com/example/lookahead/lookahead/runtime/Token" "start" "I" (.int (0 : Int32)) := D484 (Or.inr (own_h hw 46 rfl)) (ty := .int) (by decide)
      have f498 : Fld Z h484 b484 "com/example/lookahead/lookahead/runtime/Token" "end" "I" (.int (0 : Int32)) := D484 (Or.inr (own_h hw 48 rfl)) (ty := .int) (by decide)
      have f499 : Fld Z h484 b484 "com/example/lookahead/lookahead/runtime/Token" "line" "I" (.int (0 : Int32)) := D484 (Or.inr (own_h hw 50 rfl)) (ty := .int) (by decide)
      have f500 : Fld Z h484 b484 "com/example/lookahead/lookahead/runtime/Token" "column" "I" (.int (0 : Int32)) := D484 (Or.inr (own_h hw 52 rfl)) (ty := .int) (by decide)
      refine own_stepW (st' := T484.setTop (mkF m 90 #[.val (.int x0), .val (.int x1), .val (.int x2), .val (.int x3), .val (.int x4), .val (.ref b1), .val (.ref b20), .val (.int (2 : Int32)), .val (.int (2 : Int32)), .unset, .unset] [(.ref b484)])) st484 ?_
      refine own_stepW (st' := T484.setTop (mkF m 91 #[.val (.int x0), .val (.int x1), .val (.int x2), .val (.int x3), .val (.int x4), .val (.ref b1), .val (.ref b20), .val (.int (2 : Int32)), .val (.int (2 : Int32)), .unset, .unset] [(.ref b484), (.ref b484)])) (fun t k => XS.dup X484.here hx rfl (hb hby at_90) rfl rfl k) ?_
      obtain ⟨T501, X501, e501, st501⟩ := getS2 X484 hx hZ hown (host := "") (Or.inl (own_h hw 34 rfl)) Via.refl e484 (p_4.ext O493.2) (g := (mkF m 91 #[.val (.int x0), .val (.int x1), .val (.int x2), .val (.int x3), .val (.int x4), .val (.ref b1), .val (.ref b20), .val (.int (2 : Int32)), .val (.int (2 : Int32)), .unset, .unset] [(.ref b484), (.ref b484)])) rfl (hb hby at_91)
      refine own_stepW (st' := T501.setTop (mkF m 94 #[.val (.int x0), .val (.int x1), .val (.int x2), .val (.int x3), .val (.int x4), .val (.ref b1), .val (.ref b20), .val (.int (2 : Int32)), .val (.int (2 : Int32)), .unset, .unset] [(.ref tm), (.ref b484), (.ref b484)])) st501 ?_
      refine own_stepW (st' := T501.setTop (mkF m 96 #[.val (.int x0), .val (.int x1), .val (.int x2), .val (.int x3), .val (.int x4), .val (.ref b1), .val (.ref b20), .val (.int (2 : Int32)), .val (.int (2 : Int32)), .unset, .unset] [(.ref b20), (.ref tm), (.ref b484), (.ref b484)])) (fun t k => XS.aload X501.here hx rfl (hb hby at_94) rfl rfl k) ?_
      refine own_stepW (st' := T501.setTop (mkF m 98 #[.val (.int x0), .val (.int x1), .val (.int x2), .val (.int x3), .val (.int x4), .val (.ref b1), .val (.ref b20), .val (.int (2 : Int32)), .val (.int (2 : Int32)), .unset, .unset] [(.int (2 : Int32)), (.ref b20), (.ref tm), (.ref b484), (.ref b484)])) (fun t k => XS.iload X501.here hx rfl (hb hby at_96) rfl k) ?_
      refine own_stepW (st' := T501.setTop (mkF m 100 #[.val (.int x0), .val (.int x1), .val (.int x2), .val (.int x3), .val (.int x4), .val (.ref b1), .val (.ref b20), .val (.int (2 : Int32)), .val (.int (2 : Int32)), .unset, .unset] [(.int (2 : Int32)), (.int (2 : Int32)), (.ref b20), (.ref tm), (.ref b484), (.ref b484)])) (fun t k => XS.iload X501.here hx rfl (hb hby at_98) rfl k) ?_
      refine own_stepW (st' := T501.setTop (mkF m 101 #[.val (.int x0), .val (.int x1), .val (.int x2), .val (.int x3), .val (.int x4), .val (.ref b1), .val (.ref b20), .val (.int (2 : Int32)), .val (.int (2 : Int32)), .unset, .unset] [(.int x3), (.int (2 : Int32)), (.int (2 : Int32)), (.ref b20), (.ref tm), (.ref b484), (.ref b484)])) (fun t k => XS.iloadN X501.here hx rfl (hb hby at_100) rfl k) ?_
      refine own_stepW (st' := T501.setTop (mkF m 103 #[.val (.int x0), .val (.int x1), .val (.int x2), .val (.int x3), .val (.int x4), .val (.ref b1), .val (.ref b20), .val (.int (2 : Int32)), .val (.int (2 : Int32)), .unset, .unset] [(.int x4), (.int x3), (.int (2 : Int32)), (.int (2 : Int32)), (.ref b20), (.ref tm), (.ref b484), (.ref b484)])) (fun t k => XS.iload X501.here hx rfl (hb hby at_101) rfl k) ?_
      obtain ⟨_, _, ⟨T502, L502, k502, n502⟩, -, X502, ⟨Lc502, hQ502, l502, y502, z502⟩, st502⟩ := X501.specialBack hx (y := (⟨"com/example/lookahead/lookahead/runtime/Token", "<init>", "(Lcom/example/lookahead/lookahead/core/Terminal;Ljava/lang/String;IIII)V"⟩ : MethodName)) rfl hown (mvT hZ (own_h hw 37 rfl)) (mvT hZ (own_h hw 38 rfl)) (mvT hZ (own_h hw 39 rfl)) (by decide) (backOf (W := 1) (rm7 l Z a0 hw [] b484 tm b20 (2 : Int32) (2 : Int32) x3 x4 h484 n0 Z494 f495 f496 f497 f498 f499 f500 A484 g_b484) hZ (own_h hw 39 rfl) (own_h hw 33 rfl) (by decide) (by decide)) (g := (mkF m 103 #[.val (.int x0), .val (.int x1), .val (.int x2), .val (.int x3), .val (.int x4), .val (.ref b1), .val (.ref b20), .val (.int (2 : Int32)), .val (.int (2 : Int32)), .unset, .unset] [(.int x4), (.int x3), (.int (2 : Int32)), (.int (2 : Int32)), (.ref b20), (.ref tm), (.ref b484), (.ref b484)])) rfl (by rw [hml]; rfl) (Steps.refl _) (a := b484) (argsL := [(.ref tm), (.ref b20), (.int (2 : Int32)), (.int (2 : Int32)), (.int x3), (.int x4)]) (rest := [(.ref b484)]) (lenOf pd_6 rfl) rfl (by show 2 * 0 + _ ≤ _; exact Nat.le_of_eq rfl) (hb hby at_103) (fun _ _ => ⟨rfl, e501, (by decide : 4 + 0 ≤ _), (by decide : 18 + 0 ≤ _)⟩)
      dsimp only [Pt.U, Pt.locs, Pt.cells, Pt.slots] at X502 l502 y502 z502 st502 hQ502
      subst y502 z502
      obtain ⟨rfl, N502q, K502, pq502_0, pq502_1, pq502_2⟩ := hQ502
      have N502 := Fr.app N27 N502q
      rw [← l502] at N502
      clear l502
      obtain ⟨h502, e502⟩ : ∃ z, T502.heap = z := ⟨_, rfl⟩
      rw [e502] at K502 pq502_0 pq502_1 pq502_2
      have f503 := f488.keep K502 (ninS ne485 nin0)
      have f504 := f489.keep K502
      have f505 := f490.keep K502 (ninS ne486 nin0)
      have f506 := f491.keep K502 (ninS ne486 nin0)
      have f507 := f492.keep K502 (ninS ne487 nin0)
      have f508 := A484.keep K502
      have O509 := O493.keep K502 (allS g_b484 all0)
      have Z510 : n0 ≤ h502.size := Nat.le_trans Z494 K502.1
      refine own_stepW (st' := T502.setTop (mkF m 106 #[.val (.int x0), .val (.int x1), .val (.int x2), .val (.int x3), .val (.int x4), .val (.ref b1), .val (.ref b20), .val (.int (2 : Int32)), .val (.int (2 : Int32)), .unset, .unset] [(.ref b484)])) (fun t k => st502.trans k) ?_
      refine own_stepW (st' := T502.setTop (mkF m 108 #[.val (.int x0), .val (.int x1), .val (.int x2), .val (.int x3), .val (.int x4), .val (.ref b1), .val (.ref b20), .val (.int (2 : Int32)), .val (.int (2 : Int32)), .val (.ref b484), .unset] [])) (fun t k => XS.astore X502.here hx rfl (hb hby at_106) rfl rfl (l' := #[.val (.int x0), .val (.int x1), .val (.int x2), .val (.int x3), .val (.int x4), .val (.ref b1), .val (.ref b20), .val (.int (2 : Int32)), .val (.int (2 : Int32)), .val (.ref b484), .unset]) rfl k) ?_
      refine own_stepW (st' := T502.setTop (mkF m 110 #[.val (.int x0), .val (.int x1), .val (.int x2), .val (.int x3), .val (.int x4), .val (.ref b1), .val (.ref b20), .val (.int (2 : Int32)), .val (.int (2 : Int32)), .val (.ref b484), .unset] [(.ref b484)])) (fun t k => XS.aload X502.here hx rfl (hb hby at_108) rfl rfl k) ?_
      obtain ⟨cq511, kq511, q511a, q511b, q511c⟩ := isOf hZ e502 f508
      obtain ⟨_, _, ⟨T511, L511, k511, n511⟩, -, X511, hS511, hgr511, ⟨Lc511, hQ511, l511, y511, z511⟩, st511⟩ := X502.virtualBackS hx (y := (⟨"com/example/lookahead/lookahead/runtime/Token", "text", "()Ljava/lang/String;"⟩ : MethodName)) (z := (⟨"com/example/lookahead/lookahead/runtime/Token", "text", "()Ljava/lang/String;"⟩ : MethodName)) hown (mvT hZ (own_h hw 53 rfl)) (mvT hZ (own_h hw 54 rfl)) (notFace_of_selects (args := #[]) (mvT hZ (own_h hw 56 rfl))) (mvT hZ (own_h hw 56 rfl)) (mvT hZ (own_h hw 55 rfl)) (by decide) (own_backS (W := 0) (rmT0 l Z a0 hw [] b484 b20 (2 : Int32) (2 : Int32) b_27 kb_27 [(.int ((q0.toInt8.toInt32).toInt8.toInt32)), (.int ((q1.toInt8.toInt32).toInt8.toInt32)), (.int ((q2.toInt8.toInt32).toInt8.toInt32)), (.int ((q3.toInt8.toInt32).toInt8.toInt32))] cs fm h502 n0 Z510 O509 pq502_0 pq502_1 pq502_2 f504 f505 f506 f507 p_0 p_1 p_2 p_3 ⟨by decide, by decide⟩ rfl p_5) hZH (own_h hw 57 rfl) (own_h hw 33 rfl) (by decide) (by decide)) q511a q511c (g := (mkF m 110 #[.val (.int x0), .val (.int x1), .val (.int x2), .val (.int x3), .val (.int x4), .val (.ref b1), .val (.ref b20), .val (.int (2 : Int32)), .val (.int (2 : Int32)), .val (.ref b484), .unset] [(.ref b484)])) rfl (by rw [hml]; rfl) (Steps.refl _) (argsL := []) (rest := []) (lenOf pd_7 rfl) rfl (by show 2 * 0 + _ ≤ _; exact Nat.le_of_eq rfl) (hb hby at_110) (fun _ _ => ⟨rfl, e502, (by decide : 4 + 2 ≤ _), (by decide : 18 + 4 ≤ _)⟩)
      dsimp only [Pt.U, Pt.locs, Pt.cells, Pt.slots] at X511 l511 y511 z511 st511 hQ511 hS511
      subst y511 z511
      obtain ⟨r_511, b_511, kb_511, rfl, N511q, K511, pq511_0, pq511_1, pq511_2, pq511_3⟩ := hQ511
      have N511 := Fr.app N502 N511q
      rw [← l511] at N511
      clear l511
      obtain ⟨h511, e511⟩ : ∃ z, T511.heap = z := ⟨_, rfl⟩
      rw [e511] at K511 pq511_0 pq511_1 pq511_2 pq511_3
      have f512 := f503.keep K511 nin0
      have f513 := f504.keep K511
      have f514 := f505.keep K511 nin0
      have f515 := f506.keep K511 nin0
      have f516 := f507.keep K511 nin0
      have f517 := f508.keep K511
      have f518 := pq502_0.keep K511 nin0
      have f519 := pq502_1.keep K511 nin0
      have f520 := pq502_2.keep K511 nin0
      have O521 := O509.keep K511 all0
      have Z522 : n0 ≤ h511.size := Nat.le_trans Z510 K511.1
      have hZ : Z.Warmed39 (s.setVm T511.vm).vm := State.Warmed39.trans (t := s) hZ hS511.1
      have hown : (s.setVm T511.vm).vm.findClass "com/example/lookahead/lookahead/runtime/TokenTextPinLaw" = some m.cls := by rw [show (s.setVm T511.vm).vm = T511.vm from rfl, hS511.1.alike.findClass]; exact hown
      refine own_stepW (st' := T511.setTop (mkF m 113 #[.val (.int x0), .val (.int x1), .val (.int x2), .val (.int x3), .val (.int x4), .val (.ref b1), .val (.ref b20), .val (.int (2 : Int32)), .val (.int (2 : Int32)), .val (.ref b484), .unset] [(.ref r_511)])) (fun t k => st511.trans k) ?_
      refine own_stepW (st' := T511.setTop (mkF m 115 #[.val (.int x0), .val (.int x1), .val (.int x2), .val (.int x3), .val (.int x4), .val (.ref b1), .val (.ref b20), .val (.int (2 : Int32)), .val (.int (2 : Int32)), .val (.ref b484), .val (.ref r_511)] [])) (fun t k => XS.astore X511.here hx rfl (hb hby at_113) rfl rfl (l' := #[.val (.int x0), .val (.int x1), .val (.int x2), .val (.int x3), .val (.int x4), .val (.ref b1), .val (.ref b20), .val (.int (2 : Int32)), .val (.int (2 : Int32)), .val (.ref b484), .val (.ref r_511)]) rfl k) ?_
      refine own_stepW (st' := T511.setTop (mkF m 117 #[.val (.int x0), .val (.int x1), .val (.int x2), .val (.int x3), .val (.int x4), .val (.ref b1), .val (.ref b20), .val (.int (2 : Int32)), .val (.int (2 : Int32)), .val (.ref b484), .val (.ref r_511)] [(.ref r_511)])) (fun t k => XS.aload X511.here hx rfl (hb hby at_115) rfl rfl k) ?_
      refine own_stepW (st' := T511.setTop (mkF m 122 #[.val (.int x0), .val (.int x1), .val (.int x2), .val (.int x3), .val (.int x4), .val (.ref b1), .val (.ref b20), .val (.int (2 : Int32)), .val (.int (2 : Int32)), .val (.ref b484), .val (.ref r_511)] [])) (fun t k => XS.ifnonnullYes X511.here hx rfl (pc0 := 117) (pc' := 122) rfl (hb hby at_117) rfl (by decide) (by decide) k) ?_
      refine own_stepW (st' := T511.setTop (mkF m 124 #[.val (.int x0), .val (.int x1), .val (.int x2), .val (.int x3), .val (.int x4), .val (.ref b1), .val (.ref b20), .val (.int (2 : Int32)), .val (.int (2 : Int32)), .val (.ref b484), .val (.ref r_511)] [(.ref r_511)])) (fun t k => XS.aload X511.here hx rfl (hb hby at_122) rfl rfl k) ?_
      obtain ⟨cq523, kq523, q523a, q523b, q523c⟩ := isOf hZ e511 pq511_0
      obtain ⟨_, _, ⟨T523, L523, k523, n523⟩, -, X523, ⟨Lc523, hQ523, l523, y523, z523⟩, st523⟩ := X511.virtualBack hx (y := (⟨"java/lang/String", "length", "()I"⟩ : MethodName)) (z := (⟨"java/lang/String", "length", "()I"⟩ : MethodName)) hown (mvT hZ (own_h hw 93 rfl)) (mvT hZ (own_h hw 64 rfl)) (notFace_of_selects (args := #[]) (mvT hZ (own_h hw 66 rfl))) (mvT hZ (own_h hw 66 rfl)) (mvT hZ (own_h hw 65 rfl)) (by decide) (backOf (W := 0) (rm10 l Z a0 hw [] r_511 b_511 kb_511 (0 : Int32) [] cs h511 n0 Z522 O521 pq511_0 pq511_1 pq511_2 pq511_3 p_0 p_1) hZ (own_h hw 67 rfl) (own_h hw 3 rfl) (by decide) (by decide)) q523a q523c (g := (mkF m 124 #[.val (.int x0), .val (.int x1), .val (.int x2), .val (.int x3), .val (.int x4), .val (.ref b1), .val (.ref b20), .val (.int (2 : Int32)), .val (.int (2 : Int32)), .val (.ref b484), .val (.ref r_511)] [(.ref r_511)])) rfl (by rw [hml]; rfl) (Steps.refl _) (argsL := []) (rest := []) (lenOf pd_9 rfl) rfl (by show 2 * 0 + _ ≤ _; exact Nat.le_of_eq rfl) (hb hby at_124) (fun _ _ => ⟨rfl, e511, (by decide : 6 + 0 ≤ _), (by decide : 22 + 0 ≤ _)⟩)
      dsimp only [Pt.U, Pt.locs, Pt.cells, Pt.slots] at X523 l523 y523 z523 st523 hQ523
      subst y523 z523
      obtain ⟨rfl, N523q, e523⟩ := hQ523
      have N523 := Fr.app N511 N523q
      rw [← l523] at N523
      clear l523
      refine own_stepW (st' := T523.setTop (mkF m 127 #[.val (.int x0), .val (.int x1), .val (.int x2), .val (.int x3), .val (.int x4), .val (.ref b1), .val (.ref b20), .val (.int (2 : Int32)), .val (.int (2 : Int32)), .val (.ref b484), .val (.ref r_511)] [(.int (0 : Int32))])) (fun t k => st523.trans k) ?_
      refine own_stepW (st' := T523.setTop (mkF m 129 #[.val (.int x0), .val (.int x1), .val (.int x2), .val (.int x3), .val (.int x4), .val (.ref b1), .val (.ref b20), .val (.int (2 : Int32)), .val (.int (2 : Int32)), .val (.ref b484), .val (.ref r_511)] [(.int (2 : Int32)), (.int (0 : Int32))])) (fun t k => XS.iload X523.here hx rfl (hb hby at_127) rfl k) ?_
      refine own_stepW (st' := T523.setTop (mkF m 131 #[.val (.int x0), .val (.int x1), .val (.int x2), .val (.int x3), .val (.int x4), .val (.ref b1), .val (.ref b20), .val (.int (2 : Int32)), .val (.int (2 : Int32)), .val (.ref b484), .val (.ref r_511)] [(.int (2 : Int32)), (.int (2 : Int32)), (.int (0 : Int32))])) (fun t k => XS.iload X523.here hx rfl (hb hby at_129) rfl k) ?_
      refine own_stepW (st' := T523.setTop (mkF m 132 #[.val (.int x0), .val (.int x1), .val (.int x2), .val (.int x3), .val (.int x4), .val (.ref b1), .val (.ref b20), .val (.int (2 : Int32)), .val (.int (2 : Int32)), .val (.ref b484), .val (.ref r_511)] [(.int (0 : Int32)), (.int (0 : Int32))])) (fun t k => XS.isub X523.here hx rfl (hb hby at_131) rfl k) ?_
      refine own_stepW (st' := T523.setTop (mkF m 137 #[.val (.int x0), .val (.int x1), .val (.int x2), .val (.int x3), .val (.int x4), .val (.ref b1), .val (.ref b20), .val (.int (2 : Int32)), .val (.int (2 : Int32)), .val (.ref b484), .val (.ref r_511)] [])) (fun t k => XS.icmpYes X523.here hx rfl (pc0 := 132) (pc' := 137) rfl (hb hby at_132) rfl (teq (by decide)).1 (by decide) (by decide) k) ?_
      refine own_stepW (st' := T523.setTop (mkF m 139 #[.val (.int x0), .val (.int x1), .val (.int x2), .val (.int x3), .val (.int x4), .val (.ref b1), .val (.ref b20), .val (.int (2 : Int32)), .val (.int (2 : Int32)), .val (.ref b484), .val (.ref r_511)] [(.ref r_511)])) (fun t k => XS.aload X523.here hx rfl (hb hby at_137) rfl rfl k) ?_
      refine own_stepW (st' := T523.setTop (mkF m 141 #[.val (.int x0), .val (.int x1), .val (.int x2), .val (.int x3), .val (.int x4), .val (.ref b1), .val (.ref b20), .val (.int (2 : Int32)), .val (.int (2 : Int32)), .val (.ref b484), .val (.ref r_511)] [(.ref b1), (.ref r_511)])) (fun t k => XS.aload X523.here hx rfl (hb hby at_139) rfl rfl k) ?_
      refine own_stepW (st' := T523.setTop (mkF m 143 #[.val (.int x0), .val (.int x1), .val (.int x2), .val (.int x3), .val (.int x4), .val (.ref b1), .val (.ref b20), .val (.int (2 : Int32)), .val (.int (2 : Int32)), .val (.ref b484), .val (.ref r_511)] [(.int (2 : Int32)), (.ref b1), (.ref r_511)])) (fun t k => XS.iload X523.here hx rfl (hb hby at_141) rfl k) ?_
      refine own_stepW (st' := T523.setTop (mkF m 145 #[.val (.int x0), .val (.int x1), .val (.int x2), .val (.int x3), .val (.int x4), .val (.ref b1), .val (.ref b20), .val (.int (2 : Int32)), .val (.int (2 : Int32)), .val (.ref b484), .val (.ref r_511)] [(.int (2 : Int32)), (.int (2 : Int32)), (.ref b1), (.ref r_511)])) (fun t k => XS.iload X523.here hx rfl (hb hby at_143) rfl k) ?_
      refine own_stepW (st' := T523.setTop (mkF m 146 #[.val (.int x0), .val (.int x1), .val (.int x2), .val (.int x3), .val (.int x4), .val (.ref b1), .val (.ref b20), .val (.int (2 : Int32)), .val (.int (2 : Int32)), .val (.ref b484), .val (.ref r_511)] [(.int (0 : Int32)), (.int (2 : Int32)), (.int (2 : Int32)), (.ref b1), (.ref r_511)])) (fun t k => XS.iconst X523.here hx rfl (hb hby at_145) k) ?_
      obtain ⟨_, _, ⟨T524, L524, k524, n524⟩, -, X524, ⟨Lc524, hQ524, l524, y524, z524⟩, st524⟩ := Jvm.LawKit.callS X523 hx (y := (⟨"com/example/lookahead/lookahead/runtime/TokenTextPinLaw", "charOk", "(Ljava/lang/String;[CIII)Z"⟩ : MethodName)) hown (mvT hZ (own_h hw 94 rfl)) (mvT hZ (own_h hw 95 rfl)) (mvT hZ (own_h hw 96 rfl)) (mvT hZ (own_h hw 97 rfl)) (by decide) (backOf (W := 0) (rmK1 l Z a0 hw [] r_511 b1 (2 : Int32) (2 : Int32) (0 : Int32) h511 n0 Z522 (by decide)) hZ (own_h hw 97 rfl) (own_h hw 96 rfl) (by decide) (by decide)) (g := (mkF m 146 #[.val (.int x0), .val (.int x1), .val (.int x2), .val (.int x3), .val (.int x4), .val (.ref b1), .val (.ref b20), .val (.int (2 : Int32)), .val (.int (2 : Int32)), .val (.ref b484), .val (.ref r_511)] [(.int (0 : Int32)), (.int (2 : Int32)), (.int (2 : Int32)), (.ref b1), (.ref r_511)])) rfl (by rw [hml]; rfl) (argsL := [(.ref r_511), (.ref b1), (.int (2 : Int32)), (.int (2 : Int32)), (.int (0 : Int32))]) (rest := []) (lenOf pd_15 rfl) rfl (by show 2 * 0 + _ ≤ _; exact Nat.le_of_eq rfl) (hb hby at_146) (fun _ _ => ⟨rfl, e523, (by decide : 6 + 0 ≤ _), (by decide : 22 + 0 ≤ _)⟩)
      dsimp only [Pt.U, Pt.locs, Pt.cells, Pt.slots] at X524 l524 y524 z524 st524 hQ524
      subst y524 z524
      obtain ⟨rfl, N524q, e524⟩ := hQ524
      have N524 := Fr.app N523 N524q
      rw [← l524] at N524
      clear l524
      refine own_stepW (st' := T524.setTop (mkF m 149 #[.val (.int x0), .val (.int x1), .val (.int x2), .val (.int x3), .val (.int x4), .val (.ref b1), .val (.ref b20), .val (.int (2 : Int32)), .val (.int (2 : Int32)), .val (.ref b484), .val (.ref r_511)] [(.int (1 : Int32))])) st524 ?_
      refine own_stepW (st' := T524.setTop (mkF m 152 #[.val (.int x0), .val (.int x1), .val (.int x2), .val (.int x3), .val (.int x4), .val (.ref b1), .val (.ref b20), .val (.int (2 : Int32)), .val (.int (2 : Int32)), .val (.ref b484), .val (.ref r_511)] [])) (fun t k => XS.ifNo X524.here hx rfl (hb hby at_149) rfl ((if0 _ _).trans (feq (by decide)).1) k) ?_
      refine own_stepW (st' := T524.setTop (mkF m 154 #[.val (.int x0), .val (.int x1), .val (.int x2), .val (.int x3), .val (.int x4), .val (.ref b1), .val (.ref b20), .val (.int (2 : Int32)), .val (.int (2 : Int32)), .val (.ref b484), .val (.ref r_511)] [(.ref r_511)])) (fun t k => XS.aload X524.here hx rfl (hb hby at_152) rfl rfl k) ?_
      refine own_stepW (st' := T524.setTop (mkF m 156 #[.val (.int x0), .val (.int x1), .val (.int x2), .val (.int x3), .val (.int x4), .val (.ref b1), .val (.ref b20), .val (.int (2 : Int32)), .val (.int (2 : Int32)), .val (.ref b484), .val (.ref r_511)] [(.ref b1), (.ref r_511)])) (fun t k => XS.aload X524.here hx rfl (hb hby at_154) rfl rfl k) ?_
      refine own_stepW (st' := T524.setTop (mkF m 158 #[.val (.int x0), .val (.int x1), .val (.int x2), .val (.int x3), .val (.int x4), .val (.ref b1), .val (.ref b20), .val (.int (2 : Int32)), .val (.int (2 : Int32)), .val (.ref b484), .val (.ref r_511)] [(.int (2 : Int32)), (.ref b1), (.ref r_511)])) (fun t k => XS.iload X524.here hx rfl (hb hby at_156) rfl k) ?_
      refine own_stepW (st' := T524.setTop (mkF m 160 #[.val (.int x0), .val (.int x1), .val (.int x2), .val (.int x3), .val (.int x4), .val (.ref b1), .val (.ref b20), .val (.int (2 : Int32)), .val (.int (2 : Int32)), .val (.ref b484), .val (.ref r_511)] [(.int (2 : Int32)), (.int (2 : Int32)), (.ref b1), (.ref r_511)])) (fun t k => XS.iload X524.here hx rfl (hb hby at_158) rfl k) ?_
      refine own_stepW (st' := T524.setTop (mkF m 161 #[.val (.int x0), .val (.int x1), .val (.int x2), .val (.int x3), .val (.int x4), .val (.ref b1), .val (.ref b20), .val (.int (2 : Int32)), .val (.int (2 : Int32)), .val (.ref b484), .val (.ref r_511)] [(.int (1 : Int32)), (.int (2 : Int32)), (.int (2 : Int32)), (.ref b1), (.ref r_511)])) (fun t k => XS.iconst X524.here hx rfl (hb hby at_160) k) ?_
      obtain ⟨_, _, ⟨T525, L525, k525, n525⟩, -, X525, ⟨Lc525, hQ525, l525, y525, z525⟩, st525⟩ := Jvm.LawKit.callS X524 hx (y := (⟨"com/example/lookahead/lookahead/runtime/TokenTextPinLaw", "charOk", "(Ljava/lang/String;[CIII)Z"⟩ : MethodName)) hown (mvT hZ (own_h hw 94 rfl)) (mvT hZ (own_h hw 95 rfl)) (mvT hZ (own_h hw 96 rfl)) (mvT hZ (own_h hw 97 rfl)) (by decide) (backOf (W := 0) (rmK1 l Z a0 hw [] r_511 b1 (2 : Int32) (2 : Int32) (1 : Int32) h511 n0 Z522 (by decide)) hZ (own_h hw 97 rfl) (own_h hw 96 rfl) (by decide) (by decide)) (g := (mkF m 161 #[.val (.int x0), .val (.int x1), .val (.int x2), .val (.int x3), .val (.int x4), .val (.ref b1), .val (.ref b20), .val (.int (2 : Int32)), .val (.int (2 : Int32)), .val (.ref b484), .val (.ref r_511)] [(.int (1 : Int32)), (.int (2 : Int32)), (.int (2 : Int32)), (.ref b1), (.ref r_511)])) rfl (by rw [hml]; rfl) (argsL := [(.ref r_511), (.ref b1), (.int (2 : Int32)), (.int (2 : Int32)), (.int (1 : Int32))]) (rest := []) (lenOf pd_15 rfl) rfl (by show 2 * 0 + _ ≤ _; exact Nat.le_of_eq rfl) (hb hby at_161) (fun _ _ => ⟨rfl, e524, (by decide : 6 + 0 ≤ _), (by decide : 22 + 0 ≤ _)⟩)
      dsimp only [Pt.U, Pt.locs, Pt.cells, Pt.slots] at X525 l525 y525 z525 st525 hQ525
      subst y525 z525
      obtain ⟨rfl, N525q, e525⟩ := hQ525
      have N525 := Fr.app N524 N525q
      rw [← l525] at N525
      clear l525
      refine own_stepW (st' := T525.setTop (mkF m 164 #[.val (.int x0), .val (.int x1), .val (.int x2), .val (.int x3), .val (.int x4), .val (.ref b1), .val (.ref b20), .val (.int (2 : Int32)), .val (.int (2 : Int32)), .val (.ref b484), .val (.ref r_511)] [(.int (1 : Int32))])) st525 ?_
      refine own_stepW (st' := T525.setTop (mkF m 167 #[.val (.int x0), .val (.int x1), .val (.int x2), .val (.int x3), .val (.int x4), .val (.ref b1), .val (.ref b20), .val (.int (2 : Int32)), .val (.int (2 : Int32)), .val (.ref b484), .val (.ref r_511)] [])) (fun t k => XS.ifNo X525.here hx rfl (hb hby at_164) rfl ((if0 _ _).trans (feq (by decide)).1) k) ?_
      refine own_stepW (st' := T525.setTop (mkF m 169 #[.val (.int x0), .val (.int x1), .val (.int x2), .val (.int x3), .val (.int x4), .val (.ref b1), .val (.ref b20), .val (.int (2 : Int32)), .val (.int (2 : Int32)), .val (.ref b484), .val (.ref r_511)] [(.ref r_511)])) (fun t k => XS.aload X525.here hx rfl (hb hby at_167) rfl rfl k) ?_
      refine own_stepW (st' := T525.setTop (mkF m 171 #[.val (.int x0), .val (.int x1), .val (.int x2), .val (.int x3), .val (.int x4), .val (.ref b1), .val (.ref b20), .val (.int (2 : Int32)), .val (.int (2 : Int32)), .val (.ref b484), .val (.ref r_511)] [(.ref b1), (.ref r_511)])) (fun t k => XS.aload X525.here hx rfl (hb hby at_169) rfl rfl k) ?_
      refine own_stepW (st' := T525.setTop (mkF m 173 #[.val (.int x0), .val (.int x1), .val (.int x2), .val (.int x3), .val (.int x4), .val (.ref b1), .val (.ref b20), .val (.int (2 : Int32)), .val (.int (2 : Int32)), .val (.ref b484), .val (.ref r_511)] [(.int (2 : Int32)), (.ref b1), (.ref r_511)])) (fun t k => XS.iload X525.here hx rfl (hb hby at_171) rfl k) ?_
      refine own_stepW (st' := T525.setTop (mkF m 175 #[.val (.int x0), .val (.int x1), .val (.int x2), .val (.int x3), .val (.int x4), .val (.ref b1), .val (.ref b20), .val (.int (2 : Int32)), .val (.int (2 : Int32)), .val (.ref b484), .val (.ref r_511)] [(.int (2 : Int32)), (.int (2 : Int32)), (.ref b1), (.ref r_511)])) (fun t k => XS.iload X525.here hx rfl (hb hby at_173) rfl k) ?_
      refine own_stepW (st' := T525.setTop (mkF m 176 #[.val (.int x0), .val (.int x1), .val (.int x2), .val (.int x3), .val (.int x4), .val (.ref b1), .val (.ref b20), .val (.int (2 : Int32)), .val (.int (2 : Int32)), .val (.ref b484), .val (.ref r_511)] [(.int (2 : Int32)), (.int (2 : Int32)), (.int (2 : Int32)), (.ref b1), (.ref r_511)])) (fun t k => XS.iconst X525.here hx rfl (hb hby at_175) k) ?_
      obtain ⟨_, _, ⟨T526, L526, k526, n526⟩, -, X526, ⟨Lc526, hQ526, l526, y526, z526⟩, st526⟩ := Jvm.LawKit.callS X525 hx (y := (⟨"com/example/lookahead/lookahead/runtime/TokenTextPinLaw", "charOk", "(Ljava/lang/String;[CIII)Z"⟩ : MethodName)) hown (mvT hZ (own_h hw 94 rfl)) (mvT hZ (own_h hw 95 rfl)) (mvT hZ (own_h hw 96 rfl)) (mvT hZ (own_h hw 97 rfl)) (by decide) (backOf (W := 0) (rmK1 l Z a0 hw [] r_511 b1 (2 : Int32) (2 : Int32) (2 : Int32) h511 n0 Z522 (by decide)) hZ (own_h hw 97 rfl) (own_h hw 96 rfl) (by decide) (by decide)) (g := (mkF m 176 #[.val (.int x0), .val (.int x1), .val (.int x2), .val (.int x3), .val (.int x4), .val (.ref b1), .val (.ref b20), .val (.int (2 : Int32)), .val (.int (2 : Int32)), .val (.ref b484), .val (.ref r_511)] [(.int (2 : Int32)), (.int (2 : Int32)), (.int (2 : Int32)), (.ref b1), (.ref r_511)])) rfl (by rw [hml]; rfl) (argsL := [(.ref r_511), (.ref b1), (.int (2 : Int32)), (.int (2 : Int32)), (.int (2 : Int32))]) (rest := []) (lenOf pd_15 rfl) rfl (by show 2 * 0 + _ ≤ _; exact Nat.le_of_eq rfl) (hb hby at_176) (fun _ _ => ⟨rfl, e525, (by decide : 6 + 0 ≤ _), (by decide : 22 + 0 ≤ _)⟩)
      dsimp only [Pt.U, Pt.locs, Pt.cells, Pt.slots] at X526 l526 y526 z526 st526 hQ526
      subst y526 z526
      obtain ⟨rfl, N526q, e526⟩ := hQ526
      have N526 := Fr.app N525 N526q
      rw [← l526] at N526
      clear l526
      refine own_stepW (st' := T526.setTop (mkF m 179 #[.val (.int x0), .val (.int x1), .val (.int x2), .val (.int x3), .val (.int x4), .val (.ref b1), .val (.ref b20), .val (.int (2 : Int32)), .val (.int (2 : Int32)), .val (.ref b484), .val (.ref r_511)] [(.int (1 : Int32))])) st526 ?_
      refine own_stepW (st' := T526.setTop (mkF m 182 #[.val (.int x0), .val (.int x1), .val (.int x2), .val (.int x3), .val (.int x4), .val (.ref b1), .val (.ref b20), .val (.int (2 : Int32)), .val (.int (2 : Int32)), .val (.ref b484), .val (.ref r_511)] [])) (fun t k => XS.ifNo X526.here hx rfl (hb hby at_179) rfl ((if0 _ _).trans (feq (by decide)).1) k) ?_
      refine own_stepW (st' := T526.setTop (mkF m 184 #[.val (.int x0), .val (.int x1), .val (.int x2), .val (.int x3), .val (.int x4), .val (.ref b1), .val (.ref b20), .val (.int (2 : Int32)), .val (.int (2 : Int32)), .val (.ref b484), .val (.ref r_511)] [(.ref r_511)])) (fun t k => XS.aload X526.here hx rfl (hb hby at_182) rfl rfl k) ?_
      refine own_stepW (st' := T526.setTop (mkF m 186 #[.val (.int x0), .val (.int x1), .val (.int x2), .val (.int x3), .val (.int x4), .val (.ref b1), .val (.ref b20), .val (.int (2 : Int32)), .val (.int (2 : Int32)), .val (.ref b484), .val (.ref r_511)] [(.ref b1), (.ref r_511)])) (fun t k => XS.aload X526.here hx rfl (hb hby at_184) rfl rfl k) ?_
      refine own_stepW (st' := T526.setTop (mkF m 188 #[.val (.int x0), .val (.int x1), .val (.int x2), .val (.int x3), .val (.int x4), .val (.ref b1), .val (.ref b20), .val (.int (2 : Int32)), .val (.int (2 : Int32)), .val (.ref b484), .val (.ref r_511)] [(.int (2 : Int32)), (.ref b1), (.ref r_511)])) (fun t k => XS.iload X526.here hx rfl (hb hby at_186) rfl k) ?_
      refine own_stepW (st' := T526.setTop (mkF m 190 #[.val (.int x0), .val (.int x1), .val (.int x2), .val (.int x3), .val (.int x4), .val (.ref b1), .val (.ref b20), .val (.int (2 : Int32)), .val (.int (2 : Int32)), .val (.ref b484), .val (.ref r_511)] [(.int (2 : Int32)), (.int (2 : Int32)), (.ref b1), (.ref r_511)])) (fun t k => XS.iload X526.here hx rfl (hb hby at_188) rfl k) ?_
      refine own_stepW (st' := T526.setTop (mkF m 191 #[.val (.int x0), .val (.int x1), .val (.int x2), .val (.int x3), .val (.int x4), .val (.ref b1), .val (.ref b20), .val (.int (2 : Int32)), .val (.int (2 : Int32)), .val (.ref b484), .val (.ref r_511)] [(.int (3 : Int32)), (.int (2 : Int32)), (.int (2 : Int32)), (.ref b1), (.ref r_511)])) (fun t k => XS.iconst X526.here hx rfl (hb hby at_190) k) ?_
      obtain ⟨_, _, ⟨T527, L527, k527, n527⟩, -, X527, ⟨Lc527, hQ527, l527, y527, z527⟩, st527⟩ := Jvm.LawKit.callS X526 hx (y := (⟨"com/example/lookahead/lookahead/runtime/TokenTextPinLaw", "charOk", "(Ljava/lang/String;[CIII)Z"⟩ : MethodName)) hown (mvT hZ (own_h hw 94 rfl)) (mvT hZ (own_h hw 95 rfl)) (mvT hZ (own_h hw 96 rfl)) (mvT hZ (own_h hw 97 rfl)) (by decide) (backOf (W := 0) (rmK1 l Z a0 hw [] r_511 b1 (2 : Int32) (2 : Int32) (3 : Int32) h511 n0 Z522 (by decide)) hZ (own_h hw 97 rfl) (own_h hw 96 rfl) (by decide) (by decide)) (g := (mkF m 191 #[.val (.int x0), .val (.int x1), .val (.int x2), .val (.int x3), .val (.int x4), .val (.ref b1), .val (.ref b20), .val (.int (2 : Int32)), .val (.int (2 : Int32)), .val (.ref b484), .val (.ref r_511)] [(.int (3 : Int32)), (.int (2 : Int32)), (.int (2 : Int32)), (.ref b1), (.ref r_511)])) rfl (by rw [hml]; rfl) (argsL := [(.ref r_511), (.ref b1), (.int (2 : Int32)), (.int (2 : Int32)), (.int (3 : Int32))]) (rest := []) (lenOf pd_15 rfl) rfl (by show 2 * 0 + _ ≤ _; exact Nat.le_of_eq rfl) (hb hby at_191) (fun _ _ => ⟨rfl, e526, (by decide : 6 + 0 ≤ _), (by decide : 22 + 0 ≤ _)⟩)
      dsimp only [Pt.U, Pt.locs, Pt.cells, Pt.slots] at X527 l527 y527 z527 st527 hQ527
      subst y527 z527
      obtain ⟨rfl, N527q, e527⟩ := hQ527
      have N527 := Fr.app N526 N527q
      rw [← l527] at N527
      clear l527
      refine own_stepW (st' := T527.setTop (mkF m 194 #[.val (.int x0), .val (.int x1), .val (.int x2), .val (.int x3), .val (.int x4), .val (.ref b1), .val (.ref b20), .val (.int (2 : Int32)), .val (.int (2 : Int32)), .val (.ref b484), .val (.ref r_511)] [(.int (1 : Int32))])) st527 ?_
      refine own_stepW (st' := T527.setTop (mkF m 197 #[.val (.int x0), .val (.int x1), .val (.int x2), .val (.int x3), .val (.int x4), .val (.ref b1), .val (.ref b20), .val (.int (2 : Int32)), .val (.int (2 : Int32)), .val (.ref b484), .val (.ref r_511)] [])) (fun t k => XS.ifNo X527.here hx rfl (hb hby at_194) rfl ((if0 _ _).trans (feq (by decide)).1) k) ?_
      refine own_stepW (st' := T527.setTop (mkF m 198 #[.val (.int x0), .val (.int x1), .val (.int x2), .val (.int x3), .val (.int x4), .val (.ref b1), .val (.ref b20), .val (.int (2 : Int32)), .val (.int (2 : Int32)), .val (.ref b484), .val (.ref r_511)] [(.int (1 : Int32))])) (fun t k => XS.iconst X527.here hx rfl (hb hby at_197) k) ?_
      refine own_stepW (st' := T527.setTop (mkF m 202 #[.val (.int x0), .val (.int x1), .val (.int x2), .val (.int x3), .val (.int x4), .val (.ref b1), .val (.ref b20), .val (.int (2 : Int32)), .val (.int (2 : Int32)), .val (.ref b484), .val (.ref r_511)] [(.int (1 : Int32))])) (fun t k => XS.goto X527.here hx rfl (pc0 := 198) (pc' := 202) rfl (hb hby at_198) (by decide) (by decide) k) ?_
      refine own_retW X527 hS511 (Nat.le_of_eq (congrArg Array.size (e511.trans e527.symm))) Bd.notSynchronized (some (.int (1 : Int32))) (fun h => by rw [Bd.returns] at h; cases h) (fun fs hr => retN X527 hx (t := .boolean) Bd.returns (by simp) (hb hby at_202) hr) ?_ (by decide) (by decide)
      rw [e527]
      exact ⟨rfl, N527⟩
    · rw [hn482]
      refine own_stepW (st' := T27.setTop (mkF m 85 #[.val (.int x0), .val (.int x1), .val (.int x2), .val (.int x3), .val (.int x4), .val (.ref b1), .val (.ref b20), .val (.int (2 : Int32)), .unset, .unset, .unset] [(.int (3 : Int32))])) (fun t k => XS.iadd X27.here hx rfl (hb hby at_84) rfl k) ?_
      refine own_stepW (st' := T27.setTop (mkF m 87 #[.val (.int x0), .val (.int x1), .val (.int x2), .val (.int x3), .val (.int x4), .val (.ref b1), .val (.ref b20), .val (.int (2 : Int32)), .val (.int (3 : Int32)), .unset, .unset] [])) (fun t k => XS.istore X27.here hx rfl (hb hby at_85) rfl (l' := #[.val (.int x0), .val (.int x1), .val (.int x2), .val (.int x3), .val (.int x4), .val (.ref b1), .val (.ref b20), .val (.int (2 : Int32)), .val (.int (3 : Int32)), .unset, .unset]) rfl k) ?_
      obtain ⟨T528, h528, X528, e528, E528, A528, D528, -, st528⟩ := newO X27 hx hZ hown (own_h hw 31 rfl) (own_h hw 32 rfl) (own_h hw 33 rfl) e27 (g := (mkF m 87 #[.val (.int x0), .val (.int x1), .val (.int x2), .val (.int x3), .val (.int x4), .val (.ref b1), .val (.ref b20), .val (.int (2 : Int32)), .val (.int (3 : Int32)), .unset, .unset] [])) rfl (hb hby at_87) (by decide) (by decide)
      obtain ⟨b528, g528⟩ : ∃ z, z = h27.size := ⟨_, rfl⟩
      rw [← g528] at A528 D528 st528
      have ne529 : b1 ≠ b528 := Nat.ne_of_lt (Nat.lt_of_lt_of_le f30.lt (Nat.le_of_eq g528.symm))
      have ne530 : b20 ≠ b528 := Nat.ne_of_lt (Nat.lt_of_lt_of_le f31.lt (Nat.le_of_eq g528.symm))
      have ne531 : b_27 ≠ b528 := Nat.ne_of_lt (Nat.lt_of_lt_of_le pq27_3.lt (Nat.le_of_eq g528.symm))
      have g_b528 : n0 ≤ b528 := Nat.le_trans Z33 (Nat.le_of_eq g528.symm)
      have f532 := f30.ext E528
      have f533 := f31.ext E528
      have f534 := pq27_1.ext E528
      have f535 := pq27_2.ext E528
      have f536 := pq27_3.ext E528
      have O537 := O32.ext E528
      have Z538 : n0 ≤ h528.size := Nat.le_trans Z33 E528.1
      have f539 : Fld Z h528 b528 "com/example/lookahead/lookahead/runtime/Token" "terminal" "Lcom/example/lookahead/lookahead/core/Terminal;" .null := D528 (Or.inr (own_h hw 42 rfl)) (ty := (.object "com/example/lookahead/lookahead/core/Terminal")) (by decide)
      have f540 : Fld Z h528 b528 "com/example/lookahead/lookahead/runtime/Token" "input" "Ljava/lang/String;" .null := D528 (Or.inr (own_h hw 44 rfl)) (ty := (.object "java/lang/String")) (by decide)
      have f541 : Fld Z h528 b528 "com/example/lookahead/lookahead/runtime/Token" "start" "I" (.int (0 : Int32)) := D528 (Or.inr (own_h hw 46 rfl)) (ty := .int) (by decide)
      have f542 : Fld Z h528 b528 "com/example/lookahead/lookahead/runtime/Token" "end" "I" (.int (0 : Int32)) := D528 (Or.inr (own_h hw 48 rfl)) (ty := .int) (by decide)
      have f543 : Fld Z h528 b528 "com/example/lookahead/lookahead/runtime/Token" "line" "I" (.int (0 : Int32)) := D528 (Or.inr (own_h hw 50 rfl)) (ty := .int) (by decide)
      have f544 : Fld Z h528 b528 "com/example/lookahead/lookahead/runtime/Token" "column" "I" (.int (0 : Int32)) := D528 (Or.inr (own_h hw 52 rfl)) (ty := .int) (by decide)
      refine own_stepW (st' := T528.setTop (mkF m 90 #[.val (.int x0), .val (.int x1), .val (.int x2), .val (.int x3), .val (.int x4), .val (.ref b1), .val (.ref b20), .val (.int (2 : Int32)), .val (.int (3 : Int32)), .unset, .unset] [(.ref b528)])) st528 ?_
      refine own_stepW (st' := T528.setTop (mkF m 91 #[.val (.int x0), .val (.int x1), .val (.int x2), .val (.int x3), .val (.int x4), .val (.ref b1), .val (.ref b20), .val (.int (2 : Int32)), .val (.int (3 : Int32)), .unset, .unset] [(.ref b528), (.ref b528)])) (fun t k => XS.dup X528.here hx rfl (hb hby at_90) rfl rfl k) ?_
      obtain ⟨T545, X545, e545, st545⟩ := getS2 X528 hx hZ hown (host := "") (Or.inl (own_h hw 34 rfl)) Via.refl e528 (p_4.ext O537.2) (g := (mkF m 91 #[.val (.int x0), .val (.int x1), .val (.int x2), .val (.int x3), .val (.int x4), .val (.ref b1), .val (.ref b20), .val (.int (2 : Int32)), .val (.int (3 : Int32)), .unset, .unset] [(.ref b528), (.ref b528)])) rfl (hb hby at_91)
      refine own_stepW (st' := T545.setTop (mkF m 94 #[.val (.int x0), .val (.int x1), .val (.int x2), .val (.int x3), .val (.int x4), .val (.ref b1), .val (.ref b20), .val (.int (2 : Int32)), .val (.int (3 : Int32)), .unset, .unset] [(.ref tm), (.ref b528), (.ref b528)])) st545 ?_
      refine own_stepW (st' := T545.setTop (mkF m 96 #[.val (.int x0), .val (.int x1), .val (.int x2), .val (.int x3), .val (.int x4), .val (.ref b1), .val (.ref b20), .val (.int (2 : Int32)), .val (.int (3 : Int32)), .unset, .unset] [(.ref b20), (.ref tm), (.ref b528), (.ref b528)])) (fun t k => XS.aload X545.here hx rfl (hb hby at_94) rfl rfl k) ?_
      refine own_stepW (st' := T545.setTop (mkF m 98 #[.val (.int x0), .val (.int x1), .val (.int x2), .val (.int x3), .val (.int x4), .val (.ref b1), .val (.ref b20), .val (.int (2 : Int32)), .val (.int (3 : Int32)), .unset, .unset] [(.int (2 : Int32)), (.ref b20), (.ref tm), (.ref b528), (.ref b528)])) (fun t k => XS.iload X545.here hx rfl (hb hby at_96) rfl k) ?_
      refine own_stepW (st' := T545.setTop (mkF m 100 #[.val (.int x0), .val (.int x1), .val (.int x2), .val (.int x3), .val (.int x4), .val (.ref b1), .val (.ref b20), .val (.int (2 : Int32)), .val (.int (3 : Int32)), .unset, .unset] [(.int (3 : Int32)), (.int (2 : Int32)), (.ref b20), (.ref tm), (.ref b528), (.ref b528)])) (fun t k => XS.iload X545.here hx rfl (hb hby at_98) rfl k) ?_
      refine own_stepW (st' := T545.setTop (mkF m 101 #[.val (.int x0), .val (.int x1), .val (.int x2), .val (.int x3), .val (.int x4), .val (.ref b1), .val (.ref b20), .val (.int (2 : Int32)), .val (.int (3 : Int32)), .unset, .unset] [(.int x3), (.int (3 : Int32)), (.int (2 : Int32)), (.ref b20), (.ref tm), (.ref b528), (.ref b528)])) (fun t k => XS.iloadN X545.here hx rfl (hb hby at_100) rfl k) ?_
      refine own_stepW (st' := T545.setTop (mkF m 103 #[.val (.int x0), .val (.int x1), .val (.int x2), .val (.int x3), .val (.int x4), .val (.ref b1), .val (.ref b20), .val (.int (2 : Int32)), .val (.int (3 : Int32)), .unset, .unset] [(.int x4), (.int x3), (.int (3 : Int32)), (.int (2 : Int32)), (.ref b20), (.ref tm), (.ref b528), (.ref b528)])) (fun t k => XS.iload X545.here hx rfl (hb hby at_101) rfl k) ?_
      obtain ⟨_, _, ⟨T546, L546, k546, n546⟩, -, X546, ⟨Lc546, hQ546, l546, y546, z546⟩, st546⟩ := X545.specialBack hx (y := (⟨"com/example/lookahead/lookahead/runtime/Token", "<init>", "(Lcom/example/lookahead/lookahead/core/Terminal;Ljava/lang/String;IIII)V"⟩ : MethodName)) rfl hown (mvT hZ (own_h hw 37 rfl)) (mvT hZ (own_h hw 38 rfl)) (mvT hZ (own_h hw 39 rfl)) (by decide) (backOf (W := 1) (rm7 l Z a0 hw [] b528 tm b20 (2 : Int32) (3 : Int32) x3 x4 h528 n0 Z538 f539 f540 f541 f542 f543 f544 A528 g_b528) hZ (own_h hw 39 rfl) (own_h hw 33 rfl) (by decide) (by decide)) (g := (mkF m 103 #[.val (.int x0), .val (.int x1), .val (.int x2), .val (.int x3), .val (.int x4), .val (.ref b1), .val (.ref b20), .val (.int (2 : Int32)), .val (.int (3 : Int32)), .unset, .unset] [(.int x4), (.int x3), (.int (3 : Int32)), (.int (2 : Int32)), (.ref b20), (.ref tm), (.ref b528), (.ref b528)])) rfl (by rw [hml]; rfl) (Steps.refl _) (a := b528) (argsL := [(.ref tm), (.ref b20), (.int (2 : Int32)), (.int (3 : Int32)), (.int x3), (.int x4)]) (rest := [(.ref b528)]) (lenOf pd_6 rfl) rfl (by show 2 * 0 + _ ≤ _; exact Nat.le_of_eq rfl) (hb hby at_103) (fun _ _ => ⟨rfl, e545, (by decide : 4 + 0 ≤ _), (by decide : 18 + 0 ≤ _)⟩)
      dsimp only [Pt.U, Pt.locs, Pt.cells, Pt.slots] at X546 l546 y546 z546 st546 hQ546
      subst y546 z546
      obtain ⟨rfl, N546q, K546, pq546_0, pq546_1, pq546_2⟩ := hQ546
      have N546 := Fr.app N27 N546q
      rw [← l546] at N546
      clear l546
      obtain ⟨h546, e546⟩ : ∃ z, T546.heap = z := ⟨_, rfl⟩
      rw [e546] at K546 pq546_0 pq546_1 pq546_2
      have f547 := f532.keep K546 (ninS ne529 nin0)
      have f548 := f533.keep K546
      have f549 := f534.keep K546 (ninS ne530 nin0)
      have f550 := f535.keep K546 (ninS ne530 nin0)
      have f551 := f536.keep K546 (ninS ne531 nin0)
      have f552 := A528.keep K546
      have O553 := O537.keep K546 (allS g_b528 all0)
      have Z554 : n0 ≤ h546.size := Nat.le_trans Z538 K546.1
      refine own_stepW (st' := T546.setTop (mkF m 106 #[.val (.int x0), .val (.int x1), .val (.int x2), .val (.int x3), .val (.int x4), .val (.ref b1), .val (.ref b20), .val (.int (2 : Int32)), .val (.int (3 : Int32)), .unset, .unset] [(.ref b528)])) (fun t k => st546.trans k) ?_
      refine own_stepW (st' := T546.setTop (mkF m 108 #[.val (.int x0), .val (.int x1), .val (.int x2), .val (.int x3), .val (.int x4), .val (.ref b1), .val (.ref b20), .val (.int (2 : Int32)), .val (.int (3 : Int32)), .val (.ref b528), .unset] [])) (fun t k => XS.astore X546.here hx rfl (hb hby at_106) rfl rfl (l' := #[.val (.int x0), .val (.int x1), .val (.int x2), .val (.int x3), .val (.int x4), .val (.ref b1), .val (.ref b20), .val (.int (2 : Int32)), .val (.int (3 : Int32)), .val (.ref b528), .unset]) rfl k) ?_
      refine own_stepW (st' := T546.setTop (mkF m 110 #[.val (.int x0), .val (.int x1), .val (.int x2), .val (.int x3), .val (.int x4), .val (.ref b1), .val (.ref b20), .val (.int (2 : Int32)), .val (.int (3 : Int32)), .val (.ref b528), .unset] [(.ref b528)])) (fun t k => XS.aload X546.here hx rfl (hb hby at_108) rfl rfl k) ?_
      obtain ⟨cq555, kq555, q555a, q555b, q555c⟩ := isOf hZ e546 f552
      obtain ⟨_, _, ⟨T555, L555, k555, n555⟩, -, X555, ⟨Lc555, hQ555, l555, y555, z555⟩, st555⟩ := X546.virtualBack hx (y := (⟨"com/example/lookahead/lookahead/runtime/Token", "text", "()Ljava/lang/String;"⟩ : MethodName)) (z := (⟨"com/example/lookahead/lookahead/runtime/Token", "text", "()Ljava/lang/String;"⟩ : MethodName)) hown (mvT hZ (own_h hw 53 rfl)) (mvT hZ (own_h hw 54 rfl)) (notFace_of_selects (args := #[]) (mvT hZ (own_h hw 56 rfl))) (mvT hZ (own_h hw 56 rfl)) (mvT hZ (own_h hw 55 rfl)) (by decide) (backOf (W := 0) (rmTS l Z a0 hw [] b528 b20 (2 : Int32) (3 : Int32) b_27 kb_27 [(.int ((q0.toInt8.toInt32).toInt8.toInt32)), (.int ((q1.toInt8.toInt32).toInt8.toInt32)), (.int ((q2.toInt8.toInt32).toInt8.toInt32)), (.int ((q3.toInt8.toInt32).toInt8.toInt32))] cs fm h546 n0 Z554 O553 pq546_0 pq546_1 pq546_2 f548 f549 f550 f551 p_0 p_1 p_2 p_3 ⟨by decide, by decide, by decide⟩ (by decide)) hZ (own_h hw 57 rfl) (own_h hw 33 rfl) (by decide) (by decide)) q555a q555c (g := (mkF m 110 #[.val (.int x0), .val (.int x1), .val (.int x2), .val (.int x3), .val (.int x4), .val (.ref b1), .val (.ref b20), .val (.int (2 : Int32)), .val (.int (3 : Int32)), .val (.ref b528), .unset] [(.ref b528)])) rfl (by rw [hml]; rfl) (Steps.refl _) (argsL := []) (rest := []) (lenOf pd_7 rfl) rfl (by show 2 * 0 + _ ≤ _; exact Nat.le_of_eq rfl) (hb hby at_110) (fun _ _ => ⟨rfl, e546, (by decide : 4 + 2 ≤ _), (by decide : 18 + 8 ≤ _)⟩)
      dsimp only [Pt.U, Pt.locs, Pt.cells, Pt.slots] at X555 l555 y555 z555 st555 hQ555
      subst y555 z555
      obtain ⟨r_555, b_555, kb_555, vd_555, rfl, N555q, K555, pq555_0, pq555_1, pq555_2, pq555_3, pq555_4, pq555_5, pq555_6, pq555_7⟩ := hQ555
      have N555 := Fr.app N546 N555q
      rw [← l555] at N555
      clear l555
      obtain ⟨h555, e555⟩ : ∃ z, T555.heap = z := ⟨_, rfl⟩
      rw [e555] at K555 pq555_3 pq555_4 pq555_5 pq555_6
      have ne556 : b1 ≠ r_555 := Nat.ne_of_lt (Nat.lt_of_lt_of_le f547.lt pq555_0)
      have ne557 : b20 ≠ r_555 := Nat.ne_of_lt (Nat.lt_of_lt_of_le f548.lt pq555_0)
      have ne558 : b_27 ≠ r_555 := Nat.ne_of_lt (Nat.lt_of_lt_of_le f551.lt pq555_0)
      have ne559 : b528 ≠ r_555 := Nat.ne_of_lt (Nat.lt_of_lt_of_le f552.lt pq555_0)
      have g_r_555 : n0 ≤ r_555 := Nat.le_trans Z554 pq555_0
      have ne560 : b1 ≠ b_555 := Nat.ne_of_lt (Nat.lt_of_lt_of_le f547.lt pq555_1)
      have ne561 : b20 ≠ b_555 := Nat.ne_of_lt (Nat.lt_of_lt_of_le f548.lt pq555_1)
      have ne562 : b_27 ≠ b_555 := Nat.ne_of_lt (Nat.lt_of_lt_of_le f551.lt pq555_1)
      have ne563 : b528 ≠ b_555 := Nat.ne_of_lt (Nat.lt_of_lt_of_le f552.lt pq555_1)
      have g_b_555 : n0 ≤ b_555 := Nat.le_trans Z554 pq555_1
      have f564 := f547.keep K555 nin0
      have f565 := f548.keep K555
      have f566 := f549.keep K555 nin0
      have f567 := f550.keep K555 nin0
      have f568 := f551.keep K555 nin0
      have f569 := f552.keep K555
      have f570 := pq546_0.keep K555 nin0
      have f571 := pq546_1.keep K555 nin0
      have f572 := pq546_2.keep K555 nin0
      have O573 := O553.keep K555 all0
      have Z574 : n0 ≤ h555.size := Nat.le_trans Z554 K555.1
      refine own_stepW (st' := T555.setTop (mkF m 113 #[.val (.int x0), .val (.int x1), .val (.int x2), .val (.int x3), .val (.int x4), .val (.ref b1), .val (.ref b20), .val (.int (2 : Int32)), .val (.int (3 : Int32)), .val (.ref b528), .unset] [(.ref r_555)])) (fun t k => st555.trans k) ?_
      have hlen555 : (((2 : Int32) + ((3 : Int32) - (2 : Int32))) - (2 : Int32)) = (1 : Int32) := by decide
      rw [hlen555] at pq555_6
      refine own_stepW (st' := T555.setTop (mkF m 115 #[.val (.int x0), .val (.int x1), .val (.int x2), .val (.int x3), .val (.int x4), .val (.ref b1), .val (.ref b20), .val (.int (2 : Int32)), .val (.int (3 : Int32)), .val (.ref b528), .val (.ref r_555)] [])) (fun t k => XS.astore X555.here hx rfl (hb hby at_113) rfl rfl (l' := #[.val (.int x0), .val (.int x1), .val (.int x2), .val (.int x3), .val (.int x4), .val (.ref b1), .val (.ref b20), .val (.int (2 : Int32)), .val (.int (3 : Int32)), .val (.ref b528), .val (.ref r_555)]) rfl k) ?_
      refine own_stepW (st' := T555.setTop (mkF m 117 #[.val (.int x0), .val (.int x1), .val (.int x2), .val (.int x3), .val (.int x4), .val (.ref b1), .val (.ref b20), .val (.int (2 : Int32)), .val (.int (3 : Int32)), .val (.ref b528), .val (.ref r_555)] [(.ref r_555)])) (fun t k => XS.aload X555.here hx rfl (hb hby at_115) rfl rfl k) ?_
      refine own_stepW (st' := T555.setTop (mkF m 122 #[.val (.int x0), .val (.int x1), .val (.int x2), .val (.int x3), .val (.int x4), .val (.ref b1), .val (.ref b20), .val (.int (2 : Int32)), .val (.int (3 : Int32)), .val (.ref b528), .val (.ref r_555)] [])) (fun t k => XS.ifnonnullYes X555.here hx rfl (pc0 := 117) (pc' := 122) rfl (hb hby at_117) rfl (by decide) (by decide) k) ?_
      refine own_stepW (st' := T555.setTop (mkF m 124 #[.val (.int x0), .val (.int x1), .val (.int x2), .val (.int x3), .val (.int x4), .val (.ref b1), .val (.ref b20), .val (.int (2 : Int32)), .val (.int (3 : Int32)), .val (.ref b528), .val (.ref r_555)] [(.ref r_555)])) (fun t k => XS.aload X555.here hx rfl (hb hby at_122) rfl rfl k) ?_
      obtain ⟨cq575, kq575, q575a, q575b, q575c⟩ := isOf hZ e555 pq555_3
      obtain ⟨_, _, ⟨T575, L575, k575, n575⟩, -, X575, ⟨Lc575, hQ575, l575, y575, z575⟩, st575⟩ := X555.virtualBack hx (y := (⟨"java/lang/String", "length", "()I"⟩ : MethodName)) (z := (⟨"java/lang/String", "length", "()I"⟩ : MethodName)) hown (mvT hZ (own_h hw 93 rfl)) (mvT hZ (own_h hw 64 rfl)) (notFace_of_selects (args := #[]) (mvT hZ (own_h hw 66 rfl))) (mvT hZ (own_h hw 66 rfl)) (mvT hZ (own_h hw 65 rfl)) (by decide) (backOf (W := 0) (rm10 l Z a0 hw [] r_555 b_555 kb_555 (1 : Int32) vd_555 cs h555 n0 Z574 O573 pq555_3 pq555_4 pq555_5 pq555_6 p_0 p_1) hZ (own_h hw 67 rfl) (own_h hw 3 rfl) (by decide) (by decide)) q575a q575c (g := (mkF m 124 #[.val (.int x0), .val (.int x1), .val (.int x2), .val (.int x3), .val (.int x4), .val (.ref b1), .val (.ref b20), .val (.int (2 : Int32)), .val (.int (3 : Int32)), .val (.ref b528), .val (.ref r_555)] [(.ref r_555)])) rfl (by rw [hml]; rfl) (Steps.refl _) (argsL := []) (rest := []) (lenOf pd_9 rfl) rfl (by show 2 * 0 + _ ≤ _; exact Nat.le_of_eq rfl) (hb hby at_124) (fun _ _ => ⟨rfl, e555, (by decide : 6 + 0 ≤ _), (by decide : 26 + 0 ≤ _)⟩)
      dsimp only [Pt.U, Pt.locs, Pt.cells, Pt.slots] at X575 l575 y575 z575 st575 hQ575
      subst y575 z575
      obtain ⟨rfl, N575q, e575⟩ := hQ575
      have N575 := Fr.app N555 N575q
      rw [← l575] at N575
      clear l575
      refine own_stepW (st' := T575.setTop (mkF m 127 #[.val (.int x0), .val (.int x1), .val (.int x2), .val (.int x3), .val (.int x4), .val (.ref b1), .val (.ref b20), .val (.int (2 : Int32)), .val (.int (3 : Int32)), .val (.ref b528), .val (.ref r_555)] [(.int (1 : Int32))])) (fun t k => st575.trans k) ?_
      refine own_stepW (st' := T575.setTop (mkF m 129 #[.val (.int x0), .val (.int x1), .val (.int x2), .val (.int x3), .val (.int x4), .val (.ref b1), .val (.ref b20), .val (.int (2 : Int32)), .val (.int (3 : Int32)), .val (.ref b528), .val (.ref r_555)] [(.int (3 : Int32)), (.int (1 : Int32))])) (fun t k => XS.iload X575.here hx rfl (hb hby at_127) rfl k) ?_
      refine own_stepW (st' := T575.setTop (mkF m 131 #[.val (.int x0), .val (.int x1), .val (.int x2), .val (.int x3), .val (.int x4), .val (.ref b1), .val (.ref b20), .val (.int (2 : Int32)), .val (.int (3 : Int32)), .val (.ref b528), .val (.ref r_555)] [(.int (2 : Int32)), (.int (3 : Int32)), (.int (1 : Int32))])) (fun t k => XS.iload X575.here hx rfl (hb hby at_129) rfl k) ?_
      refine own_stepW (st' := T575.setTop (mkF m 132 #[.val (.int x0), .val (.int x1), .val (.int x2), .val (.int x3), .val (.int x4), .val (.ref b1), .val (.ref b20), .val (.int (2 : Int32)), .val (.int (3 : Int32)), .val (.ref b528), .val (.ref r_555)] [(.int (1 : Int32)), (.int (1 : Int32))])) (fun t k => XS.isub X575.here hx rfl (hb hby at_131) rfl k) ?_
      refine own_stepW (st' := T575.setTop (mkF m 137 #[.val (.int x0), .val (.int x1), .val (.int x2), .val (.int x3), .val (.int x4), .val (.ref b1), .val (.ref b20), .val (.int (2 : Int32)), .val (.int (3 : Int32)), .val (.ref b528), .val (.ref r_555)] [])) (fun t k => XS.icmpYes X575.here hx rfl (pc0 := 132) (pc' := 137) rfl (hb hby at_132) rfl (teq (by decide)).1 (by decide) (by decide) k) ?_
      refine own_stepW (st' := T575.setTop (mkF m 139 #[.val (.int x0), .val (.int x1), .val (.int x2), .val (.int x3), .val (.int x4), .val (.ref b1), .val (.ref b20), .val (.int (2 : Int32)), .val (.int (3 : Int32)), .val (.ref b528), .val (.ref r_555)] [(.ref r_555)])) (fun t k => XS.aload X575.here hx rfl (hb hby at_137) rfl rfl k) ?_
      refine own_stepW (st' := T575.setTop (mkF m 141 #[.val (.int x0), .val (.int x1), .val (.int x2), .val (.int x3), .val (.int x4), .val (.ref b1), .val (.ref b20), .val (.int (2 : Int32)), .val (.int (3 : Int32)), .val (.ref b528), .val (.ref r_555)] [(.ref b1), (.ref r_555)])) (fun t k => XS.aload X575.here hx rfl (hb hby at_139) rfl rfl k) ?_
      refine own_stepW (st' := T575.setTop (mkF m 143 #[.val (.int x0), .val (.int x1), .val (.int x2), .val (.int x3), .val (.int x4), .val (.ref b1), .val (.ref b20), .val (.int (2 : Int32)), .val (.int (3 : Int32)), .val (.ref b528), .val (.ref r_555)] [(.int (2 : Int32)), (.ref b1), (.ref r_555)])) (fun t k => XS.iload X575.here hx rfl (hb hby at_141) rfl k) ?_
      refine own_stepW (st' := T575.setTop (mkF m 145 #[.val (.int x0), .val (.int x1), .val (.int x2), .val (.int x3), .val (.int x4), .val (.ref b1), .val (.ref b20), .val (.int (2 : Int32)), .val (.int (3 : Int32)), .val (.ref b528), .val (.ref r_555)] [(.int (3 : Int32)), (.int (2 : Int32)), (.ref b1), (.ref r_555)])) (fun t k => XS.iload X575.here hx rfl (hb hby at_143) rfl k) ?_
      refine own_stepW (st' := T575.setTop (mkF m 146 #[.val (.int x0), .val (.int x1), .val (.int x2), .val (.int x3), .val (.int x4), .val (.ref b1), .val (.ref b20), .val (.int (2 : Int32)), .val (.int (3 : Int32)), .val (.ref b528), .val (.ref r_555)] [(.int (0 : Int32)), (.int (3 : Int32)), (.int (2 : Int32)), (.ref b1), (.ref r_555)])) (fun t k => XS.iconst X575.here hx rfl (hb hby at_145) k) ?_
      obtain ⟨_, _, ⟨T576, L576, k576, n576⟩, -, X576, ⟨Lc576, hQ576, l576, y576, z576⟩, st576⟩ := Jvm.LawKit.callS X575 hx (y := (⟨"com/example/lookahead/lookahead/runtime/TokenTextPinLaw", "charOk", "(Ljava/lang/String;[CIII)Z"⟩ : MethodName)) hown (mvT hZ (own_h hw 94 rfl)) (mvT hZ (own_h hw 95 rfl)) (mvT hZ (own_h hw 96 rfl)) (mvT hZ (own_h hw 97 rfl)) (by decide) (backOf (W := 0) (rmK2 l Z a0 hw [] r_555 b1 (2 : Int32) (3 : Int32) (0 : Int32) b_555 kb_555 (1 : Int32) vd_555 k1 [(.int q0), (.int q1), (.int q2), (.int q3)] ((q2.toInt8.toInt32).toInt8.toInt32) q2 cs fm h555 n0 Z574 O573 pq555_3 pq555_4 pq555_5 pq555_6 f564 (by decide) (by decide) (by decide) ((pq555_7 _).trans rfl) (own_byte b_q2) (own_nc b_q2) ⟨by decide, by decide⟩ rfl p_0 p_1 p_2 p_3) hZ (own_h hw 97 rfl) (own_h hw 96 rfl) (by decide) (by decide)) (g := (mkF m 146 #[.val (.int x0), .val (.int x1), .val (.int x2), .val (.int x3), .val (.int x4), .val (.ref b1), .val (.ref b20), .val (.int (2 : Int32)), .val (.int (3 : Int32)), .val (.ref b528), .val (.ref r_555)] [(.int (0 : Int32)), (.int (3 : Int32)), (.int (2 : Int32)), (.ref b1), (.ref r_555)])) rfl (by rw [hml]; rfl) (argsL := [(.ref r_555), (.ref b1), (.int (2 : Int32)), (.int (3 : Int32)), (.int (0 : Int32))]) (rest := []) (lenOf pd_15 rfl) rfl (by show 2 * 0 + _ ≤ _; exact Nat.le_of_eq rfl) (hb hby at_146) (fun _ _ => ⟨rfl, e575, (by decide : 6 + 0 ≤ _), (by decide : 26 + 0 ≤ _)⟩)
      dsimp only [Pt.U, Pt.locs, Pt.cells, Pt.slots] at X576 l576 y576 z576 st576 hQ576
      subst y576 z576
      obtain ⟨rfl, N576q, e576⟩ := hQ576
      have N576 := Fr.app N575 N576q
      rw [← l576] at N576
      clear l576
      refine own_stepW (st' := T576.setTop (mkF m 149 #[.val (.int x0), .val (.int x1), .val (.int x2), .val (.int x3), .val (.int x4), .val (.ref b1), .val (.ref b20), .val (.int (2 : Int32)), .val (.int (3 : Int32)), .val (.ref b528), .val (.ref r_555)] [(.int (1 : Int32))])) st576 ?_
      refine own_stepW (st' := T576.setTop (mkF m 152 #[.val (.int x0), .val (.int x1), .val (.int x2), .val (.int x3), .val (.int x4), .val (.ref b1), .val (.ref b20), .val (.int (2 : Int32)), .val (.int (3 : Int32)), .val (.ref b528), .val (.ref r_555)] [])) (fun t k => XS.ifNo X576.here hx rfl (hb hby at_149) rfl ((if0 _ _).trans (feq (by decide)).1) k) ?_
      refine own_stepW (st' := T576.setTop (mkF m 154 #[.val (.int x0), .val (.int x1), .val (.int x2), .val (.int x3), .val (.int x4), .val (.ref b1), .val (.ref b20), .val (.int (2 : Int32)), .val (.int (3 : Int32)), .val (.ref b528), .val (.ref r_555)] [(.ref r_555)])) (fun t k => XS.aload X576.here hx rfl (hb hby at_152) rfl rfl k) ?_
      refine own_stepW (st' := T576.setTop (mkF m 156 #[.val (.int x0), .val (.int x1), .val (.int x2), .val (.int x3), .val (.int x4), .val (.ref b1), .val (.ref b20), .val (.int (2 : Int32)), .val (.int (3 : Int32)), .val (.ref b528), .val (.ref r_555)] [(.ref b1), (.ref r_555)])) (fun t k => XS.aload X576.here hx rfl (hb hby at_154) rfl rfl k) ?_
      refine own_stepW (st' := T576.setTop (mkF m 158 #[.val (.int x0), .val (.int x1), .val (.int x2), .val (.int x3), .val (.int x4), .val (.ref b1), .val (.ref b20), .val (.int (2 : Int32)), .val (.int (3 : Int32)), .val (.ref b528), .val (.ref r_555)] [(.int (2 : Int32)), (.ref b1), (.ref r_555)])) (fun t k => XS.iload X576.here hx rfl (hb hby at_156) rfl k) ?_
      refine own_stepW (st' := T576.setTop (mkF m 160 #[.val (.int x0), .val (.int x1), .val (.int x2), .val (.int x3), .val (.int x4), .val (.ref b1), .val (.ref b20), .val (.int (2 : Int32)), .val (.int (3 : Int32)), .val (.ref b528), .val (.ref r_555)] [(.int (3 : Int32)), (.int (2 : Int32)), (.ref b1), (.ref r_555)])) (fun t k => XS.iload X576.here hx rfl (hb hby at_158) rfl k) ?_
      refine own_stepW (st' := T576.setTop (mkF m 161 #[.val (.int x0), .val (.int x1), .val (.int x2), .val (.int x3), .val (.int x4), .val (.ref b1), .val (.ref b20), .val (.int (2 : Int32)), .val (.int (3 : Int32)), .val (.ref b528), .val (.ref r_555)] [(.int (1 : Int32)), (.int (3 : Int32)), (.int (2 : Int32)), (.ref b1), (.ref r_555)])) (fun t k => XS.iconst X576.here hx rfl (hb hby at_160) k) ?_
      obtain ⟨_, _, ⟨T577, L577, k577, n577⟩, -, X577, ⟨Lc577, hQ577, l577, y577, z577⟩, st577⟩ := Jvm.LawKit.callS X576 hx (y := (⟨"com/example/lookahead/lookahead/runtime/TokenTextPinLaw", "charOk", "(Ljava/lang/String;[CIII)Z"⟩ : MethodName)) hown (mvT hZ (own_h hw 94 rfl)) (mvT hZ (own_h hw 95 rfl)) (mvT hZ (own_h hw 96 rfl)) (mvT hZ (own_h hw 97 rfl)) (by decide) (backOf (W := 0) (rmK1 l Z a0 hw [] r_555 b1 (2 : Int32) (3 : Int32) (1 : Int32) h555 n0 Z574 (by decide)) hZ (own_h hw 97 rfl) (own_h hw 96 rfl) (by decide) (by decide)) (g := (mkF m 161 #[.val (.int x0), .val (.int x1), .val (.int x2), .val (.int x3), .val (.int x4), .val (.ref b1), .val (.ref b20), .val (.int (2 : Int32)), .val (.int (3 : Int32)), .val (.ref b528), .val (.ref r_555)] [(.int (1 : Int32)), (.int (3 : Int32)), (.int (2 : Int32)), (.ref b1), (.ref r_555)])) rfl (by rw [hml]; rfl) (argsL := [(.ref r_555), (.ref b1), (.int (2 : Int32)), (.int (3 : Int32)), (.int (1 : Int32))]) (rest := []) (lenOf pd_15 rfl) rfl (by show 2 * 0 + _ ≤ _; exact Nat.le_of_eq rfl) (hb hby at_161) (fun _ _ => ⟨rfl, e576, (by decide : 6 + 0 ≤ _), (by decide : 26 + 0 ≤ _)⟩)
      dsimp only [Pt.U, Pt.locs, Pt.cells, Pt.slots] at X577 l577 y577 z577 st577 hQ577
      subst y577 z577
      obtain ⟨rfl, N577q, e577⟩ := hQ577
      have N577 := Fr.app N576 N577q
      rw [← l577] at N577
      clear l577
      refine own_stepW (st' := T577.setTop (mkF m 164 #[.val (.int x0), .val (.int x1), .val (.int x2), .val (.int x3), .val (.int x4), .val (.ref b1), .val (.ref b20), .val (.int (2 : Int32)), .val (.int (3 : Int32)), .val (.ref b528), .val (.ref r_555)] [(.int (1 : Int32))])) st577 ?_
      refine own_stepW (st' := T577.setTop (mkF m 167 #[.val (.int x0), .val (.int x1), .val (.int x2), .val (.int x3), .val (.int x4), .val (.ref b1), .val (.ref b20), .val (.int (2 : Int32)), .val (.int (3 : Int32)), .val (.ref b528), .val (.ref r_555)] [])) (fun t k => XS.ifNo X577.here hx rfl (hb hby at_164) rfl ((if0 _ _).trans (feq (by decide)).1) k) ?_
      refine own_stepW (st' := T577.setTop (mkF m 169 #[.val (.int x0), .val (.int x1), .val (.int x2), .val (.int x3), .val (.int x4), .val (.ref b1), .val (.ref b20), .val (.int (2 : Int32)), .val (.int (3 : Int32)), .val (.ref b528), .val (.ref r_555)] [(.ref r_555)])) (fun t k => XS.aload X577.here hx rfl (hb hby at_167) rfl rfl k) ?_
      refine own_stepW (st' := T577.setTop (mkF m 171 #[.val (.int x0), .val (.int x1), .val (.int x2), .val (.int x3), .val (.int x4), .val (.ref b1), .val (.ref b20), .val (.int (2 : Int32)), .val (.int (3 : Int32)), .val (.ref b528), .val (.ref r_555)] [(.ref b1), (.ref r_555)])) (fun t k => XS.aload X577.here hx rfl (hb hby at_169) rfl rfl k) ?_
      refine own_stepW (st' := T577.setTop (mkF m 173 #[.val (.int x0), .val (.int x1), .val (.int x2), .val (.int x3), .val (.int x4), .val (.ref b1), .val (.ref b20), .val (.int (2 : Int32)), .val (.int (3 : Int32)), .val (.ref b528), .val (.ref r_555)] [(.int (2 : Int32)), (.ref b1), (.ref r_555)])) (fun t k => XS.iload X577.here hx rfl (hb hby at_171) rfl k) ?_
      refine own_stepW (st' := T577.setTop (mkF m 175 #[.val (.int x0), .val (.int x1), .val (.int x2), .val (.int x3), .val (.int x4), .val (.ref b1), .val (.ref b20), .val (.int (2 : Int32)), .val (.int (3 : Int32)), .val (.ref b528), .val (.ref r_555)] [(.int (3 : Int32)), (.int (2 : Int32)), (.ref b1), (.ref r_555)])) (fun t k => XS.iload X577.here hx rfl (hb hby at_173) rfl k) ?_
      refine own_stepW (st' := T577.setTop (mkF m 176 #[.val (.int x0), .val (.int x1), .val (.int x2), .val (.int x3), .val (.int x4), .val (.ref b1), .val (.ref b20), .val (.int (2 : Int32)), .val (.int (3 : Int32)), .val (.ref b528), .val (.ref r_555)] [(.int (2 : Int32)), (.int (3 : Int32)), (.int (2 : Int32)), (.ref b1), (.ref r_555)])) (fun t k => XS.iconst X577.here hx rfl (hb hby at_175) k) ?_
      obtain ⟨_, _, ⟨T578, L578, k578, n578⟩, -, X578, ⟨Lc578, hQ578, l578, y578, z578⟩, st578⟩ := Jvm.LawKit.callS X577 hx (y := (⟨"com/example/lookahead/lookahead/runtime/TokenTextPinLaw", "charOk", "(Ljava/lang/String;[CIII)Z"⟩ : MethodName)) hown (mvT hZ (own_h hw 94 rfl)) (mvT hZ (own_h hw 95 rfl)) (mvT hZ (own_h hw 96 rfl)) (mvT hZ (own_h hw 97 rfl)) (by decide) (backOf (W := 0) (rmK1 l Z a0 hw [] r_555 b1 (2 : Int32) (3 : Int32) (2 : Int32) h555 n0 Z574 (by decide)) hZ (own_h hw 97 rfl) (own_h hw 96 rfl) (by decide) (by decide)) (g := (mkF m 176 #[.val (.int x0), .val (.int x1), .val (.int x2), .val (.int x3), .val (.int x4), .val (.ref b1), .val (.ref b20), .val (.int (2 : Int32)), .val (.int (3 : Int32)), .val (.ref b528), .val (.ref r_555)] [(.int (2 : Int32)), (.int (3 : Int32)), (.int (2 : Int32)), (.ref b1), (.ref r_555)])) rfl (by rw [hml]; rfl) (argsL := [(.ref r_555), (.ref b1), (.int (2 : Int32)), (.int (3 : Int32)), (.int (2 : Int32))]) (rest := []) (lenOf pd_15 rfl) rfl (by show 2 * 0 + _ ≤ _; exact Nat.le_of_eq rfl) (hb hby at_176) (fun _ _ => ⟨rfl, e577, (by decide : 6 + 0 ≤ _), (by decide : 26 + 0 ≤ _)⟩)
      dsimp only [Pt.U, Pt.locs, Pt.cells, Pt.slots] at X578 l578 y578 z578 st578 hQ578
      subst y578 z578
      obtain ⟨rfl, N578q, e578⟩ := hQ578
      have N578 := Fr.app N577 N578q
      rw [← l578] at N578
      clear l578
      refine own_stepW (st' := T578.setTop (mkF m 179 #[.val (.int x0), .val (.int x1), .val (.int x2), .val (.int x3), .val (.int x4), .val (.ref b1), .val (.ref b20), .val (.int (2 : Int32)), .val (.int (3 : Int32)), .val (.ref b528), .val (.ref r_555)] [(.int (1 : Int32))])) st578 ?_
      refine own_stepW (st' := T578.setTop (mkF m 182 #[.val (.int x0), .val (.int x1), .val (.int x2), .val (.int x3), .val (.int x4), .val (.ref b1), .val (.ref b20), .val (.int (2 : Int32)), .val (.int (3 : Int32)), .val (.ref b528), .val (.ref r_555)] [])) (fun t k => XS.ifNo X578.here hx rfl (hb hby at_179) rfl ((if0 _ _).trans (feq (by decide)).1) k) ?_
      refine own_stepW (st' := T578.setTop (mkF m 184 #[.val (.int x0), .val (.int x1), .val (.int x2), .val (.int x3), .val (.int x4), .val (.ref b1), .val (.ref b20), .val (.int (2 : Int32)), .val (.int (3 : Int32)), .val (.ref b528), .val (.ref r_555)] [(.ref r_555)])) (fun t k => XS.aload X578.here hx rfl (hb hby at_182) rfl rfl k) ?_
      refine own_stepW (st' := T578.setTop (mkF m 186 #[.val (.int x0), .val (.int x1), .val (.int x2), .val (.int x3), .val (.int x4), .val (.ref b1), .val (.ref b20), .val (.int (2 : Int32)), .val (.int (3 : Int32)), .val (.ref b528), .val (.ref r_555)] [(.ref b1), (.ref r_555)])) (fun t k => XS.aload X578.here hx rfl (hb hby at_184) rfl rfl k) ?_
      refine own_stepW (st' := T578.setTop (mkF m 188 #[.val (.int x0), .val (.int x1), .val (.int x2), .val (.int x3), .val (.int x4), .val (.ref b1), .val (.ref b20), .val (.int (2 : Int32)), .val (.int (3 : Int32)), .val (.ref b528), .val (.ref r_555)] [(.int (2 : Int32)), (.ref b1), (.ref r_555)])) (fun t k => XS.iload X578.here hx rfl (hb hby at_186) rfl k) ?_
      refine own_stepW (st' := T578.setTop (mkF m 190 #[.val (.int x0), .val (.int x1), .val (.int x2), .val (.int x3), .val (.int x4), .val (.ref b1), .val (.ref b20), .val (.int (2 : Int32)), .val (.int (3 : Int32)), .val (.ref b528), .val (.ref r_555)] [(.int (3 : Int32)), (.int (2 : Int32)), (.ref b1), (.ref r_555)])) (fun t k => XS.iload X578.here hx rfl (hb hby at_188) rfl k) ?_
      refine own_stepW (st' := T578.setTop (mkF m 191 #[.val (.int x0), .val (.int x1), .val (.int x2), .val (.int x3), .val (.int x4), .val (.ref b1), .val (.ref b20), .val (.int (2 : Int32)), .val (.int (3 : Int32)), .val (.ref b528), .val (.ref r_555)] [(.int (3 : Int32)), (.int (3 : Int32)), (.int (2 : Int32)), (.ref b1), (.ref r_555)])) (fun t k => XS.iconst X578.here hx rfl (hb hby at_190) k) ?_
      obtain ⟨_, _, ⟨T579, L579, k579, n579⟩, -, X579, ⟨Lc579, hQ579, l579, y579, z579⟩, st579⟩ := Jvm.LawKit.callS X578 hx (y := (⟨"com/example/lookahead/lookahead/runtime/TokenTextPinLaw", "charOk", "(Ljava/lang/String;[CIII)Z"⟩ : MethodName)) hown (mvT hZ (own_h hw 94 rfl)) (mvT hZ (own_h hw 95 rfl)) (mvT hZ (own_h hw 96 rfl)) (mvT hZ (own_h hw 97 rfl)) (by decide) (backOf (W := 0) (rmK1 l Z a0 hw [] r_555 b1 (2 : Int32) (3 : Int32) (3 : Int32) h555 n0 Z574 (by decide)) hZ (own_h hw 97 rfl) (own_h hw 96 rfl) (by decide) (by decide)) (g := (mkF m 191 #[.val (.int x0), .val (.int x1), .val (.int x2), .val (.int x3), .val (.int x4), .val (.ref b1), .val (.ref b20), .val (.int (2 : Int32)), .val (.int (3 : Int32)), .val (.ref b528), .val (.ref r_555)] [(.int (3 : Int32)), (.int (3 : Int32)), (.int (2 : Int32)), (.ref b1), (.ref r_555)])) rfl (by rw [hml]; rfl) (argsL := [(.ref r_555), (.ref b1), (.int (2 : Int32)), (.int (3 : Int32)), (.int (3 : Int32))]) (rest := []) (lenOf pd_15 rfl) rfl (by show 2 * 0 + _ ≤ _; exact Nat.le_of_eq rfl) (hb hby at_191) (fun _ _ => ⟨rfl, e578, (by decide : 6 + 0 ≤ _), (by decide : 26 + 0 ≤ _)⟩)
      dsimp only [Pt.U, Pt.locs, Pt.cells, Pt.slots] at X579 l579 y579 z579 st579 hQ579
      subst y579 z579
      obtain ⟨rfl, N579q, e579⟩ := hQ579
      have N579 := Fr.app N578 N579q
      rw [← l579] at N579
      clear l579
      refine own_stepW (st' := T579.setTop (mkF m 194 #[.val (.int x0), .val (.int x1), .val (.int x2), .val (.int x3), .val (.int x4), .val (.ref b1), .val (.ref b20), .val (.int (2 : Int32)), .val (.int (3 : Int32)), .val (.ref b528), .val (.ref r_555)] [(.int (1 : Int32))])) st579 ?_
      refine own_stepW (st' := T579.setTop (mkF m 197 #[.val (.int x0), .val (.int x1), .val (.int x2), .val (.int x3), .val (.int x4), .val (.ref b1), .val (.ref b20), .val (.int (2 : Int32)), .val (.int (3 : Int32)), .val (.ref b528), .val (.ref r_555)] [])) (fun t k => XS.ifNo X579.here hx rfl (hb hby at_194) rfl ((if0 _ _).trans (feq (by decide)).1) k) ?_
      refine own_stepW (st' := T579.setTop (mkF m 198 #[.val (.int x0), .val (.int x1), .val (.int x2), .val (.int x3), .val (.int x4), .val (.ref b1), .val (.ref b20), .val (.int (2 : Int32)), .val (.int (3 : Int32)), .val (.ref b528), .val (.ref r_555)] [(.int (1 : Int32))])) (fun t k => XS.iconst X579.here hx rfl (hb hby at_197) k) ?_
      refine own_stepW (st' := T579.setTop (mkF m 202 #[.val (.int x0), .val (.int x1), .val (.int x2), .val (.int x3), .val (.int x4), .val (.ref b1), .val (.ref b20), .val (.int (2 : Int32)), .val (.int (3 : Int32)), .val (.ref b528), .val (.ref r_555)] [(.int (1 : Int32))])) (fun t k => XS.goto X579.here hx rfl (pc0 := 198) (pc' := 202) rfl (hb hby at_198) (by decide) (by decide) k) ?_
      refine own_toW <| own_ret X579 Bd.notSynchronized (some (.int (1 : Int32))) (fun h => by rw [Bd.returns] at h; cases h) (fun fs hr => retN X579 hx (t := .boolean) Bd.returns (by simp) (hb hby at_202) hr) ?_ (by decide) (by decide)
      rw [e579]
      exact ⟨rfl, N579⟩
    · rw [hn483]
      refine own_stepW (st' := T27.setTop (mkF m 85 #[.val (.int x0), .val (.int x1), .val (.int x2), .val (.int x3), .val (.int x4), .val (.ref b1), .val (.ref b20), .val (.int (2 : Int32)), .unset, .unset, .unset] [(.int (4 : Int32))])) (fun t k => XS.iadd X27.here hx rfl (hb hby at_84) rfl k) ?_
      refine own_stepW (st' := T27.setTop (mkF m 87 #[.val (.int x0), .val (.int x1), .val (.int x2), .val (.int x3), .val (.int x4), .val (.ref b1), .val (.ref b20), .val (.int (2 : Int32)), .val (.int (4 : Int32)), .unset, .unset] [])) (fun t k => XS.istore X27.here hx rfl (hb hby at_85) rfl (l' := #[.val (.int x0), .val (.int x1), .val (.int x2), .val (.int x3), .val (.int x4), .val (.ref b1), .val (.ref b20), .val (.int (2 : Int32)), .val (.int (4 : Int32)), .unset, .unset]) rfl k) ?_
      obtain ⟨T580, h580, X580, e580, E580, A580, D580, -, st580⟩ := newO X27 hx hZ hown (own_h hw 31 rfl) (own_h hw 32 rfl) (own_h hw 33 rfl) e27 (g := (mkF m 87 #[.val (.int x0), .val (.int x1), .val (.int x2), .val (.int x3), .val (.int x4), .val (.ref b1), .val (.ref b20), .val (.int (2 : Int32)), .val (.int (4 : Int32)), .unset, .unset] [])) rfl (hb hby at_87) (by decide) (by decide)
      obtain ⟨b580, g580⟩ : ∃ z, z = h27.size := ⟨_, rfl⟩
      rw [← g580] at A580 D580 st580
      have ne581 : b1 ≠ b580 := Nat.ne_of_lt (Nat.lt_of_lt_of_le f30.lt (Nat.le_of_eq g580.symm))
      have ne582 : b20 ≠ b580 := Nat.ne_of_lt (Nat.lt_of_lt_of_le f31.lt (Nat.le_of_eq g580.symm))
      have ne583 : b_27 ≠ b580 := Nat.ne_of_lt (Nat.lt_of_lt_of_le pq27_3.lt (Nat.le_of_eq g580.symm))
      have g_b580 : n0 ≤ b580 := Nat.le_trans Z33 (Nat.le_of_eq g580.symm)
      have f584 := f30.ext E580
      have f585 := f31.ext E580
      have f586 := pq27_1.ext E580
      have f587 := pq27_2.ext E580
      have f588 := pq27_3.ext E580
      have O589 := O32.ext E580
      have Z590 : n0 ≤ h580.size := Nat.le_trans Z33 E580.1
      have f591 : Fld Z h580 b580 "com/example/lookahead/lookahead/runtime/Token" "terminal" "Lcom/example/lookahead/lookahead/core/Terminal;" .null := D580 (Or.inr (own_h hw 42 rfl)) (ty := (.object "com/example/lookahead/lookahead/core/Terminal")) (by decide)
      have f592 : Fld Z h580 b580 "com/example/lookahead/lookahead/runtime/Token" "input" "Ljava/lang/String;" .null := D580 (Or.inr (own_h hw 44 rfl)) (ty := (.object "java/lang/String")) (by decide)
      have f593 : Fld Z h580 b580 "com/example/lookahead/lookahead/runtime/Token" "start" "I" (.int (0 : Int32)) := D580 (Or.inr (own_h hw 46 rfl)) (ty := .int) (by decide)
      have f594 : Fld Z h580 b580 "com/example/lookahead/lookahead/runtime/Token" "end" "I" (.int (0 : Int32)) := D580 (Or.inr (own_h hw 48 rfl)) (ty := .int) (by decide)
      have f595 : Fld Z h580 b580 "com/example/lookahead/lookahead/runtime/Token" "line" "I" (.int (0 : Int32)) := D580 (Or.inr (own_h hw 50 rfl)) (ty := .int) (by decide)
      have f596 : Fld Z h580 b580 "com/example/lookahead/lookahead/runtime/Token" "column" "I" (.int (0 : Int32)) := D580 (Or.inr (own_h hw 52 rfl)) (ty := .int) (by decide)
      refine own_stepW (st' := T580.setTop (mkF m 90 #[.val (.int x0), .val (.int x1), .val (.int x2), .val (.int x3), .val (.int x4), .val (.ref b1), .val (.ref b20), .val (.int (2 : Int32)), .val (.int (4 : Int32)), .unset, .unset] [(.ref b580)])) st580 ?_
      refine own_stepW (st' := T580.setTop (mkF m 91 #[.val (.int x0), .val (.int x1), .val (.int x2), .val (.int x3), .val (.int x4), .val (.ref b1), .val (.ref b20), .val (.int (2 : Int32)), .val (.int (4 : Int32)), .unset, .unset] [(.ref b580), (.ref b580)])) (fun t k => XS.dup X580.here hx rfl (hb hby at_90) rfl rfl k) ?_
      obtain ⟨T597, X597, e597, st597⟩ := getS2 X580 hx hZ hown (host := "") (Or.inl (own_h hw 34 rfl)) Via.refl e580 (p_4.ext O589.2) (g := (mkF m 91 #[.val (.int x0), .val (.int x1), .val (.int x2), .val (.int x3), .val (.int x4), .val (.ref b1), .val (.ref b20), .val (.int (2 : Int32)), .val (.int (4 : Int32)), .unset, .unset] [(.ref b580), (.ref b580)])) rfl (hb hby at_91)
      refine own_stepW (st' := T597.setTop (mkF m 94 #[.val (.int x0), .val (.int x1), .val (.int x2), .val (.int x3), .val (.int x4), .val (.ref b1), .val (.ref b20), .val (.int (2 : Int32)), .val (.int (4 : Int32)), .unset, .unset] [(.ref tm), (.ref b580), (.ref b580)])) st597 ?_
      refine own_stepW (st' := T597.setTop (mkF m 96 #[.val (.int x0), .val (.int x1), .val (.int x2), .val (.int x3), .val (.int x4), .val (.ref b1), .val (.ref b20), .val (.int (2 : Int32)), .val (.int (4 : Int32)), .unset, .unset] [(.ref b20), (.ref tm), (.ref b580), (.ref b580)])) (fun t k => XS.aload X597.here hx rfl (hb hby at_94) rfl rfl k) ?_
      refine own_stepW (st' := T597.setTop (mkF m 98 #[.val (.int x0), .val (.int x1), .val (.int x2), .val (.int x3), .val (.int x4), .val (.ref b1), .val (.ref b20), .val (.int (2 : Int32)), .val (.int (4 : Int32)), .unset, .unset] [(.int (2 : Int32)), (.ref b20), (.ref tm), (.ref b580), (.ref b580)])) (fun t k => XS.iload X597.here hx rfl (hb hby at_96) rfl k) ?_
      refine own_stepW (st' := T597.setTop (mkF m 100 #[.val (.int x0), .val (.int x1), .val (.int x2), .val (.int x3), .val (.int x4), .val (.ref b1), .val (.ref b20), .val (.int (2 : Int32)), .val (.int (4 : Int32)), .unset, .unset] [(.int (4 : Int32)), (.int (2 : Int32)), (.ref b20), (.ref tm), (.ref b580), (.ref b580)])) (fun t k => XS.iload X597.here hx rfl (hb hby at_98) rfl k) ?_
      refine own_stepW (st' := T597.setTop (mkF m 101 #[.val (.int x0), .val (.int x1), .val (.int x2), .val (.int x3), .val (.int x4), .val (.ref b1), .val (.ref b20), .val (.int (2 : Int32)), .val (.int (4 : Int32)), .unset, .unset] [(.int x3), (.int (4 : Int32)), (.int (2 : Int32)), (.ref b20), (.ref tm), (.ref b580), (.ref b580)])) (fun t k => XS.iloadN X597.here hx rfl (hb hby at_100) rfl k) ?_
      refine own_stepW (st' := T597.setTop (mkF m 103 #[.val (.int x0), .val (.int x1), .val (.int x2), .val (.int x3), .val (.int x4), .val (.ref b1), .val (.ref b20), .val (.int (2 : Int32)), .val (.int (4 : Int32)), .unset, .unset] [(.int x4), (.int x3), (.int (4 : Int32)), (.int (2 : Int32)), (.ref b20), (.ref tm), (.ref b580), (.ref b580)])) (fun t k => XS.iload X597.here hx rfl (hb hby at_101) rfl k) ?_
      obtain ⟨_, _, ⟨T598, L598, k598, n598⟩, -, X598, ⟨Lc598, hQ598, l598, y598, z598⟩, st598⟩ := X597.specialBack hx (y := (⟨"com/example/lookahead/lookahead/runtime/Token", "<init>", "(Lcom/example/lookahead/lookahead/core/Terminal;Ljava/lang/String;IIII)V"⟩ : MethodName)) rfl hown (mvT hZ (own_h hw 37 rfl)) (mvT hZ (own_h hw 38 rfl)) (mvT hZ (own_h hw 39 rfl)) (by decide) (backOf (W := 1) (rm7 l Z a0 hw [] b580 tm b20 (2 : Int32) (4 : Int32) x3 x4 h580 n0 Z590 f591 f592 f593 f594 f595 f596 A580 g_b580) hZ (own_h hw 39 rfl) (own_h hw 33 rfl) (by decide) (by decide)) (g := (mkF m 103 #[.val (.int x0), .val (.int x1), .val (.int x2), .val (.int x3), .val (.int x4), .val (.ref b1), .val (.ref b20), .val (.int (2 : Int32)), .val (.int (4 : Int32)), .unset, .unset] [(.int x4), (.int x3), (.int (4 : Int32)), (.int (2 : Int32)), (.ref b20), (.ref tm), (.ref b580), (.ref b580)])) rfl (by rw [hml]; rfl) (Steps.refl _) (a := b580) (argsL := [(.ref tm), (.ref b20), (.int (2 : Int32)), (.int (4 : Int32)), (.int x3), (.int x4)]) (rest := [(.ref b580)]) (lenOf pd_6 rfl) rfl (by show 2 * 0 + _ ≤ _; exact Nat.le_of_eq rfl) (hb hby at_103) (fun _ _ => ⟨rfl, e597, (by decide : 4 + 0 ≤ _), (by decide : 18 + 0 ≤ _)⟩)
      dsimp only [Pt.U, Pt.locs, Pt.cells, Pt.slots] at X598 l598 y598 z598 st598 hQ598
      subst y598 z598
      obtain ⟨rfl, N598q, K598, pq598_0, pq598_1, pq598_2⟩ := hQ598
      have N598 := Fr.app N27 N598q
      rw [← l598] at N598
      clear l598
      obtain ⟨h598, e598⟩ : ∃ z, T598.heap = z := ⟨_, rfl⟩
      rw [e598] at K598 pq598_0 pq598_1 pq598_2
      have f599 := f584.keep K598 (ninS ne581 nin0)
      have f600 := f585.keep K598
      have f601 := f586.keep K598 (ninS ne582 nin0)
      have f602 := f587.keep K598 (ninS ne582 nin0)
      have f603 := f588.keep K598 (ninS ne583 nin0)
      have f604 := A580.keep K598
      have O605 := O589.keep K598 (allS g_b580 all0)
      have Z606 : n0 ≤ h598.size := Nat.le_trans Z590 K598.1
      refine own_stepW (st' := T598.setTop (mkF m 106 #[.val (.int x0), .val (.int x1), .val (.int x2), .val (.int x3), .val (.int x4), .val (.ref b1), .val (.ref b20), .val (.int (2 : Int32)), .val (.int (4 : Int32)), .unset, .unset] [(.ref b580)])) (fun t k => st598.trans k) ?_
      refine own_stepW (st' := T598.setTop (mkF m 108 #[.val (.int x0), .val (.int x1), .val (.int x2), .val (.int x3), .val (.int x4), .val (.ref b1), .val (.ref b20), .val (.int (2 : Int32)), .val (.int (4 : Int32)), .val (.ref b580), .unset] [])) (fun t k => XS.astore X598.here hx rfl (hb hby at_106) rfl rfl (l' := #[.val (.int x0), .val (.int x1), .val (.int x2), .val (.int x3), .val (.int x4), .val (.ref b1), .val (.ref b20), .val (.int (2 : Int32)), .val (.int (4 : Int32)), .val (.ref b580), .unset]) rfl k) ?_
      refine own_stepW (st' := T598.setTop (mkF m 110 #[.val (.int x0), .val (.int x1), .val (.int x2), .val (.int x3), .val (.int x4), .val (.ref b1), .val (.ref b20), .val (.int (2 : Int32)), .val (.int (4 : Int32)), .val (.ref b580), .unset] [(.ref b580)])) (fun t k => XS.aload X598.here hx rfl (hb hby at_108) rfl rfl k) ?_
      obtain ⟨cq607, kq607, q607a, q607b, q607c⟩ := isOf hZ e598 f604
      obtain ⟨_, _, ⟨T607, L607, k607, n607⟩, -, X607, ⟨Lc607, hQ607, l607, y607, z607⟩, st607⟩ := X598.virtualBack hx (y := (⟨"com/example/lookahead/lookahead/runtime/Token", "text", "()Ljava/lang/String;"⟩ : MethodName)) (z := (⟨"com/example/lookahead/lookahead/runtime/Token", "text", "()Ljava/lang/String;"⟩ : MethodName)) hown (mvT hZ (own_h hw 53 rfl)) (mvT hZ (own_h hw 54 rfl)) (notFace_of_selects (args := #[]) (mvT hZ (own_h hw 56 rfl))) (mvT hZ (own_h hw 56 rfl)) (mvT hZ (own_h hw 55 rfl)) (by decide) (backOf (W := 0) (rmTS l Z a0 hw [] b580 b20 (2 : Int32) (4 : Int32) b_27 kb_27 [(.int ((q0.toInt8.toInt32).toInt8.toInt32)), (.int ((q1.toInt8.toInt32).toInt8.toInt32)), (.int ((q2.toInt8.toInt32).toInt8.toInt32)), (.int ((q3.toInt8.toInt32).toInt8.toInt32))] cs fm h598 n0 Z606 O605 pq598_0 pq598_1 pq598_2 f600 f601 f602 f603 p_0 p_1 p_2 p_3 ⟨by decide, by decide, by decide⟩ (by decide)) hZ (own_h hw 57 rfl) (own_h hw 33 rfl) (by decide) (by decide)) q607a q607c (g := (mkF m 110 #[.val (.int x0), .val (.int x1), .val (.int x2), .val (.int x3), .val (.int x4), .val (.ref b1), .val (.ref b20), .val (.int (2 : Int32)), .val (.int (4 : Int32)), .val (.ref b580), .unset] [(.ref b580)])) rfl (by rw [hml]; rfl) (Steps.refl _) (argsL := []) (rest := []) (lenOf pd_7 rfl) rfl (by show 2 * 0 + _ ≤ _; exact Nat.le_of_eq rfl) (hb hby at_110) (fun _ _ => ⟨rfl, e598, (by decide : 4 + 2 ≤ _), (by decide : 18 + 8 ≤ _)⟩)
      dsimp only [Pt.U, Pt.locs, Pt.cells, Pt.slots] at X607 l607 y607 z607 st607 hQ607
      subst y607 z607
      obtain ⟨r_607, b_607, kb_607, vd_607, rfl, N607q, K607, pq607_0, pq607_1, pq607_2, pq607_3, pq607_4, pq607_5, pq607_6, pq607_7⟩ := hQ607
      have N607 := Fr.app N598 N607q
      rw [← l607] at N607
      clear l607
      obtain ⟨h607, e607⟩ : ∃ z, T607.heap = z := ⟨_, rfl⟩
      rw [e607] at K607 pq607_3 pq607_4 pq607_5 pq607_6
      have ne608 : b1 ≠ r_607 := Nat.ne_of_lt (Nat.lt_of_lt_of_le f599.lt pq607_0)
      have ne609 : b20 ≠ r_607 := Nat.ne_of_lt (Nat.lt_of_lt_of_le f600.lt pq607_0)
      have ne610 : b_27 ≠ r_607 := Nat.ne_of_lt (Nat.lt_of_lt_of_le f603.lt pq607_0)
      have ne611 : b580 ≠ r_607 := Nat.ne_of_lt (Nat.lt_of_lt_of_le f604.lt pq607_0)
      have g_r_607 : n0 ≤ r_607 := Nat.le_trans Z606 pq607_0
      have ne612 : b1 ≠ b_607 := Nat.ne_of_lt (Nat.lt_of_lt_of_le f599.lt pq607_1)
      have ne613 : b20 ≠ b_607 := Nat.ne_of_lt (Nat.lt_of_lt_of_le f600.lt pq607_1)
      have ne614 : b_27 ≠ b_607 := Nat.ne_of_lt (Nat.lt_of_lt_of_le f603.lt pq607_1)
      have ne615 : b580 ≠ b_607 := Nat.ne_of_lt (Nat.lt_of_lt_of_le f604.lt pq607_1)
      have g_b_607 : n0 ≤ b_607 := Nat.le_trans Z606 pq607_1
      have f616 := f599.keep K607 nin0
      have f617 := f600.keep K607
      have f618 := f601.keep K607 nin0
      have f619 := f602.keep K607 nin0
      have f620 := f603.keep K607 nin0
      have f621 := f604.keep K607
      have f622 := pq598_0.keep K607 nin0
      have f623 := pq598_1.keep K607 nin0
      have f624 := pq598_2.keep K607 nin0
      have O625 := O605.keep K607 all0
      have Z626 : n0 ≤ h607.size := Nat.le_trans Z606 K607.1
      refine own_stepW (st' := T607.setTop (mkF m 113 #[.val (.int x0), .val (.int x1), .val (.int x2), .val (.int x3), .val (.int x4), .val (.ref b1), .val (.ref b20), .val (.int (2 : Int32)), .val (.int (4 : Int32)), .val (.ref b580), .unset] [(.ref r_607)])) (fun t k => st607.trans k) ?_
      have hlen607 : (((2 : Int32) + ((4 : Int32) - (2 : Int32))) - (2 : Int32)) = (2 : Int32) := by decide
      rw [hlen607] at pq607_6
      refine own_stepW (st' := T607.setTop (mkF m 115 #[.val (.int x0), .val (.int x1), .val (.int x2), .val (.int x3), .val (.int x4), .val (.ref b1), .val (.ref b20), .val (.int (2 : Int32)), .val (.int (4 : Int32)), .val (.ref b580), .val (.ref r_607)] [])) (fun t k => XS.astore X607.here hx rfl (hb hby at_113) rfl rfl (l' := #[.val (.int x0), .val (.int x1), .val (.int x2), .val (.int x3), .val (.int x4), .val (.ref b1), .val (.ref b20), .val (.int (2 : Int32)), .val (.int (4 : Int32)), .val (.ref b580), .val (.ref r_607)]) rfl k) ?_
      refine own_stepW (st' := T607.setTop (mkF m 117 #[.val (.int x0), .val (.int x1), .val (.int x2), .val (.int x3), .val (.int x4), .val (.ref b1), .val (.ref b20), .val (.int (2 : Int32)), .val (.int (4 : Int32)), .val (.ref b580), .val (.ref r_607)] [(.ref r_607)])) (fun t k => XS.aload X607.here hx rfl (hb hby at_115) rfl rfl k) ?_
      refine own_stepW (st' := T607.setTop (mkF m 122 #[.val (.int x0), .val (.int x1), .val (.int x2), .val (.int x3), .val (.int x4), .val (.ref b1), .val (.ref b20), .val (.int (2 : Int32)), .val (.int (4 : Int32)), .val (.ref b580), .val (.ref r_607)] [])) (fun t k => XS.ifnonnullYes X607.here hx rfl (pc0 := 117) (pc' := 122) rfl (hb hby at_117) rfl (by decide) (by decide) k) ?_
      refine own_stepW (st' := T607.setTop (mkF m 124 #[.val (.int x0), .val (.int x1), .val (.int x2), .val (.int x3), .val (.int x4), .val (.ref b1), .val (.ref b20), .val (.int (2 : Int32)), .val (.int (4 : Int32)), .val (.ref b580), .val (.ref r_607)] [(.ref r_607)])) (fun t k => XS.aload X607.here hx rfl (hb hby at_122) rfl rfl k) ?_
      obtain ⟨cq627, kq627, q627a, q627b, q627c⟩ := isOf hZ e607 pq607_3
      obtain ⟨_, _, ⟨T627, L627, k627, n627⟩, -, X627, ⟨Lc627, hQ627, l627, y627, z627⟩, st627⟩ := X607.virtualBack hx (y := (⟨"java/lang/String", "length", "()I"⟩ : MethodName)) (z := (⟨"java/lang/String", "length", "()I"⟩ : MethodName)) hown (mvT hZ (own_h hw 93 rfl)) (mvT hZ (own_h hw 64 rfl)) (notFace_of_selects (args := #[]) (mvT hZ (own_h hw 66 rfl))) (mvT hZ (own_h hw 66 rfl)) (mvT hZ (own_h hw 65 rfl)) (by decide) (backOf (W := 0) (rm10 l Z a0 hw [] r_607 b_607 kb_607 (2 : Int32) vd_607 cs h607 n0 Z626 O625 pq607_3 pq607_4 pq607_5 pq607_6 p_0 p_1) hZ (own_h hw 67 rfl) (own_h hw 3 rfl) (by decide) (by decide)) q627a q627c (g := (mkF m 124 #[.val (.int x0), .val (.int x1), .val (.int x2), .val (.int x3), .val (.int x4), .val (.ref b1), .val (.ref b20), .val (.int (2 : Int32)), .val (.int (4 : Int32)), .val (.ref b580), .val (.ref r_607)] [(.ref r_607)])) rfl (by rw [hml]; rfl) (Steps.refl _) (argsL := []) (rest := []) (lenOf pd_9 rfl) rfl (by show 2 * 0 + _ ≤ _; exact Nat.le_of_eq rfl) (hb hby at_124) (fun _ _ => ⟨rfl, e607, (by decide : 6 + 0 ≤ _), (by decide : 26 + 0 ≤ _)⟩)
      dsimp only [Pt.U, Pt.locs, Pt.cells, Pt.slots] at X627 l627 y627 z627 st627 hQ627
      subst y627 z627
      obtain ⟨rfl, N627q, e627⟩ := hQ627
      have N627 := Fr.app N607 N627q
      rw [← l627] at N627
      clear l627
      refine own_stepW (st' := T627.setTop (mkF m 127 #[.val (.int x0), .val (.int x1), .val (.int x2), .val (.int x3), .val (.int x4), .val (.ref b1), .val (.ref b20), .val (.int (2 : Int32)), .val (.int (4 : Int32)), .val (.ref b580), .val (.ref r_607)] [(.int (2 : Int32))])) (fun t k => st627.trans k) ?_
      refine own_stepW (st' := T627.setTop (mkF m 129 #[.val (.int x0), .val (.int x1), .val (.int x2), .val (.int x3), .val (.int x4), .val (.ref b1), .val (.ref b20), .val (.int (2 : Int32)), .val (.int (4 : Int32)), .val (.ref b580), .val (.ref r_607)] [(.int (4 : Int32)), (.int (2 : Int32))])) (fun t k => XS.iload X627.here hx rfl (hb hby at_127) rfl k) ?_
      refine own_stepW (st' := T627.setTop (mkF m 131 #[.val (.int x0), .val (.int x1), .val (.int x2), .val (.int x3), .val (.int x4), .val (.ref b1), .val (.ref b20), .val (.int (2 : Int32)), .val (.int (4 : Int32)), .val (.ref b580), .val (.ref r_607)] [(.int (2 : Int32)), (.int (4 : Int32)), (.int (2 : Int32))])) (fun t k => XS.iload X627.here hx rfl (hb hby at_129) rfl k) ?_
      refine own_stepW (st' := T627.setTop (mkF m 132 #[.val (.int x0), .val (.int x1), .val (.int x2), .val (.int x3), .val (.int x4), .val (.ref b1), .val (.ref b20), .val (.int (2 : Int32)), .val (.int (4 : Int32)), .val (.ref b580), .val (.ref r_607)] [(.int (2 : Int32)), (.int (2 : Int32))])) (fun t k => XS.isub X627.here hx rfl (hb hby at_131) rfl k) ?_
      refine own_stepW (st' := T627.setTop (mkF m 137 #[.val (.int x0), .val (.int x1), .val (.int x2), .val (.int x3), .val (.int x4), .val (.ref b1), .val (.ref b20), .val (.int (2 : Int32)), .val (.int (4 : Int32)), .val (.ref b580), .val (.ref r_607)] [])) (fun t k => XS.icmpYes X627.here hx rfl (pc0 := 132) (pc' := 137) rfl (hb hby at_132) rfl (teq (by decide)).1 (by decide) (by decide) k) ?_
      refine own_stepW (st' := T627.setTop (mkF m 139 #[.val (.int x0), .val (.int x1), .val (.int x2), .val (.int x3), .val (.int x4), .val (.ref b1), .val (.ref b20), .val (.int (2 : Int32)), .val (.int (4 : Int32)), .val (.ref b580), .val (.ref r_607)] [(.ref r_607)])) (fun t k => XS.aload X627.here hx rfl (hb hby at_137) rfl rfl k) ?_
      refine own_stepW (st' := T627.setTop (mkF m 141 #[.val (.int x0), .val (.int x1), .val (.int x2), .val (.int x3), .val (.int x4), .val (.ref b1), .val (.ref b20), .val (.int (2 : Int32)), .val (.int (4 : Int32)), .val (.ref b580), .val (.ref r_607)] [(.ref b1), (.ref r_607)])) (fun t k => XS.aload X627.here hx rfl (hb hby at_139) rfl rfl k) ?_
      refine own_stepW (st' := T627.setTop (mkF m 143 #[.val (.int x0), .val (.int x1), .val (.int x2), .val (.int x3), .val (.int x4), .val (.ref b1), .val (.ref b20), .val (.int (2 : Int32)), .val (.int (4 : Int32)), .val (.ref b580), .val (.ref r_607)] [(.int (2 : Int32)), (.ref b1), (.ref r_607)])) (fun t k => XS.iload X627.here hx rfl (hb hby at_141) rfl k) ?_
      refine own_stepW (st' := T627.setTop (mkF m 145 #[.val (.int x0), .val (.int x1), .val (.int x2), .val (.int x3), .val (.int x4), .val (.ref b1), .val (.ref b20), .val (.int (2 : Int32)), .val (.int (4 : Int32)), .val (.ref b580), .val (.ref r_607)] [(.int (4 : Int32)), (.int (2 : Int32)), (.ref b1), (.ref r_607)])) (fun t k => XS.iload X627.here hx rfl (hb hby at_143) rfl k) ?_
      refine own_stepW (st' := T627.setTop (mkF m 146 #[.val (.int x0), .val (.int x1), .val (.int x2), .val (.int x3), .val (.int x4), .val (.ref b1), .val (.ref b20), .val (.int (2 : Int32)), .val (.int (4 : Int32)), .val (.ref b580), .val (.ref r_607)] [(.int (0 : Int32)), (.int (4 : Int32)), (.int (2 : Int32)), (.ref b1), (.ref r_607)])) (fun t k => XS.iconst X627.here hx rfl (hb hby at_145) k) ?_
      obtain ⟨_, _, ⟨T628, L628, k628, n628⟩, -, X628, ⟨Lc628, hQ628, l628, y628, z628⟩, st628⟩ := Jvm.LawKit.callS X627 hx (y := (⟨"com/example/lookahead/lookahead/runtime/TokenTextPinLaw", "charOk", "(Ljava/lang/String;[CIII)Z"⟩ : MethodName)) hown (mvT hZ (own_h hw 94 rfl)) (mvT hZ (own_h hw 95 rfl)) (mvT hZ (own_h hw 96 rfl)) (mvT hZ (own_h hw 97 rfl)) (by decide) (backOf (W := 0) (rmK2 l Z a0 hw [] r_607 b1 (2 : Int32) (4 : Int32) (0 : Int32) b_607 kb_607 (2 : Int32) vd_607 k1 [(.int q0), (.int q1), (.int q2), (.int q3)] ((q2.toInt8.toInt32).toInt8.toInt32) q2 cs fm h607 n0 Z626 O625 pq607_3 pq607_4 pq607_5 pq607_6 f616 (by decide) (by decide) (by decide) ((pq607_7 _).trans rfl) (own_byte b_q2) (own_nc b_q2) ⟨by decide, by decide⟩ rfl p_0 p_1 p_2 p_3) hZ (own_h hw 97 rfl) (own_h hw 96 rfl) (by decide) (by decide)) (g := (mkF m 146 #[.val (.int x0), .val (.int x1), .val (.int x2), .val (.int x3), .val (.int x4), .val (.ref b1), .val (.ref b20), .val (.int (2 : Int32)), .val (.int (4 : Int32)), .val (.ref b580), .val (.ref r_607)] [(.int (0 : Int32)), (.int (4 : Int32)), (.int (2 : Int32)), (.ref b1), (.ref r_607)])) rfl (by rw [hml]; rfl) (argsL := [(.ref r_607), (.ref b1), (.int (2 : Int32)), (.int (4 : Int32)), (.int (0 : Int32))]) (rest := []) (lenOf pd_15 rfl) rfl (by show 2 * 0 + _ ≤ _; exact Nat.le_of_eq rfl) (hb hby at_146) (fun _ _ => ⟨rfl, e627, (by decide : 6 + 0 ≤ _), (by decide : 26 + 0 ≤ _)⟩)
      dsimp only [Pt.U, Pt.locs, Pt.cells, Pt.slots] at X628 l628 y628 z628 st628 hQ628
      subst y628 z628
      obtain ⟨rfl, N628q, e628⟩ := hQ628
      have N628 := Fr.app N627 N628q
      rw [← l628] at N628
      clear l628
      refine own_stepW (st' := T628.setTop (mkF m 149 #[.val (.int x0), .val (.int x1), .val (.int x2), .val (.int x3), .val (.int x4), .val (.ref b1), .val (.ref b20), .val (.int (2 : Int32)), .val (.int (4 : Int32)), .val (.ref b580), .val (.ref r_607)] [(.int (1 : Int32))])) st628 ?_
      refine own_stepW (st' := T628.setTop (mkF m 152 #[.val (.int x0), .val (.int x1), .val (.int x2), .val (.int x3), .val (.int x4), .val (.ref b1), .val (.ref b20), .val (.int (2 : Int32)), .val (.int (4 : Int32)), .val (.ref b580), .val (.ref r_607)] [])) (fun t k => XS.ifNo X628.here hx rfl (hb hby at_149) rfl ((if0 _ _).trans (feq (by decide)).1) k) ?_
      refine own_stepW (st' := T628.setTop (mkF m 154 #[.val (.int x0), .val (.int x1), .val (.int x2), .val (.int x3), .val (.int x4), .val (.ref b1), .val (.ref b20), .val (.int (2 : Int32)), .val (.int (4 : Int32)), .val (.ref b580), .val (.ref r_607)] [(.ref r_607)])) (fun t k => XS.aload X628.here hx rfl (hb hby at_152) rfl rfl k) ?_
      refine own_stepW (st' := T628.setTop (mkF m 156 #[.val (.int x0), .val (.int x1), .val (.int x2), .val (.int x3), .val (.int x4), .val (.ref b1), .val (.ref b20), .val (.int (2 : Int32)), .val (.int (4 : Int32)), .val (.ref b580), .val (.ref r_607)] [(.ref b1), (.ref r_607)])) (fun t k => XS.aload X628.here hx rfl (hb hby at_154) rfl rfl k) ?_
      refine own_stepW (st' := T628.setTop (mkF m 158 #[.val (.int x0), .val (.int x1), .val (.int x2), .val (.int x3), .val (.int x4), .val (.ref b1), .val (.ref b20), .val (.int (2 : Int32)), .val (.int (4 : Int32)), .val (.ref b580), .val (.ref r_607)] [(.int (2 : Int32)), (.ref b1), (.ref r_607)])) (fun t k => XS.iload X628.here hx rfl (hb hby at_156) rfl k) ?_
      refine own_stepW (st' := T628.setTop (mkF m 160 #[.val (.int x0), .val (.int x1), .val (.int x2), .val (.int x3), .val (.int x4), .val (.ref b1), .val (.ref b20), .val (.int (2 : Int32)), .val (.int (4 : Int32)), .val (.ref b580), .val (.ref r_607)] [(.int (4 : Int32)), (.int (2 : Int32)), (.ref b1), (.ref r_607)])) (fun t k => XS.iload X628.here hx rfl (hb hby at_158) rfl k) ?_
      refine own_stepW (st' := T628.setTop (mkF m 161 #[.val (.int x0), .val (.int x1), .val (.int x2), .val (.int x3), .val (.int x4), .val (.ref b1), .val (.ref b20), .val (.int (2 : Int32)), .val (.int (4 : Int32)), .val (.ref b580), .val (.ref r_607)] [(.int (1 : Int32)), (.int (4 : Int32)), (.int (2 : Int32)), (.ref b1), (.ref r_607)])) (fun t k => XS.iconst X628.here hx rfl (hb hby at_160) k) ?_
      obtain ⟨_, _, ⟨T629, L629, k629, n629⟩, -, X629, ⟨Lc629, hQ629, l629, y629, z629⟩, st629⟩ := Jvm.LawKit.callS X628 hx (y := (⟨"com/example/lookahead/lookahead/runtime/TokenTextPinLaw", "charOk", "(Ljava/lang/String;[CIII)Z"⟩ : MethodName)) hown (mvT hZ (own_h hw 94 rfl)) (mvT hZ (own_h hw 95 rfl)) (mvT hZ (own_h hw 96 rfl)) (mvT hZ (own_h hw 97 rfl)) (by decide) (backOf (W := 0) (rmK2 l Z a0 hw [] r_607 b1 (2 : Int32) (4 : Int32) (1 : Int32) b_607 kb_607 (2 : Int32) vd_607 k1 [(.int q0), (.int q1), (.int q2), (.int q3)] ((q3.toInt8.toInt32).toInt8.toInt32) q3 cs fm h607 n0 Z626 O625 pq607_3 pq607_4 pq607_5 pq607_6 f616 (by decide) (by decide) (by decide) ((pq607_7 _).trans rfl) (own_byte b_q3) (own_nc b_q3) ⟨by decide, by decide⟩ rfl p_0 p_1 p_2 p_3) hZ (own_h hw 97 rfl) (own_h hw 96 rfl) (by decide) (by decide)) (g := (mkF m 161 #[.val (.int x0), .val (.int x1), .val (.int x2), .val (.int x3), .val (.int x4), .val (.ref b1), .val (.ref b20), .val (.int (2 : Int32)), .val (.int (4 : Int32)), .val (.ref b580), .val (.ref r_607)] [(.int (1 : Int32)), (.int (4 : Int32)), (.int (2 : Int32)), (.ref b1), (.ref r_607)])) rfl (by rw [hml]; rfl) (argsL := [(.ref r_607), (.ref b1), (.int (2 : Int32)), (.int (4 : Int32)), (.int (1 : Int32))]) (rest := []) (lenOf pd_15 rfl) rfl (by show 2 * 0 + _ ≤ _; exact Nat.le_of_eq rfl) (hb hby at_161) (fun _ _ => ⟨rfl, e628, (by decide : 6 + 0 ≤ _), (by decide : 26 + 0 ≤ _)⟩)
      dsimp only [Pt.U, Pt.locs, Pt.cells, Pt.slots] at X629 l629 y629 z629 st629 hQ629
      subst y629 z629
      obtain ⟨rfl, N629q, e629⟩ := hQ629
      have N629 := Fr.app N628 N629q
      rw [← l629] at N629
      clear l629
      refine own_stepW (st' := T629.setTop (mkF m 164 #[.val (.int x0), .val (.int x1), .val (.int x2), .val (.int x3), .val (.int x4), .val (.ref b1), .val (.ref b20), .val (.int (2 : Int32)), .val (.int (4 : Int32)), .val (.ref b580), .val (.ref r_607)] [(.int (1 : Int32))])) st629 ?_
      refine own_stepW (st' := T629.setTop (mkF m 167 #[.val (.int x0), .val (.int x1), .val (.int x2), .val (.int x3), .val (.int x4), .val (.ref b1), .val (.ref b20), .val (.int (2 : Int32)), .val (.int (4 : Int32)), .val (.ref b580), .val (.ref r_607)] [])) (fun t k => XS.ifNo X629.here hx rfl (hb hby at_164) rfl ((if0 _ _).trans (feq (by decide)).1) k) ?_
      refine own_stepW (st' := T629.setTop (mkF m 169 #[.val (.int x0), .val (.int x1), .val (.int x2), .val (.int x3), .val (.int x4), .val (.ref b1), .val (.ref b20), .val (.int (2 : Int32)), .val (.int (4 : Int32)), .val (.ref b580), .val (.ref r_607)] [(.ref r_607)])) (fun t k => XS.aload X629.here hx rfl (hb hby at_167) rfl rfl k) ?_
      refine own_stepW (st' := T629.setTop (mkF m 171 #[.val (.int x0), .val (.int x1), .val (.int x2), .val (.int x3), .val (.int x4), .val (.ref b1), .val (.ref b20), .val (.int (2 : Int32)), .val (.int (4 : Int32)), .val (.ref b580), .val (.ref r_607)] [(.ref b1), (.ref r_607)])) (fun t k => XS.aload X629.here hx rfl (hb hby at_169) rfl rfl k) ?_
      refine own_stepW (st' := T629.setTop (mkF m 173 #[.val (.int x0), .val (.int x1), .val (.int x2), .val (.int x3), .val (.int x4), .val (.ref b1), .val (.ref b20), .val (.int (2 : Int32)), .val (.int (4 : Int32)), .val (.ref b580), .val (.ref r_607)] [(.int (2 : Int32)), (.ref b1), (.ref r_607)])) (fun t k => XS.iload X629.here hx rfl (hb hby at_171) rfl k) ?_
      refine own_stepW (st' := T629.setTop (mkF m 175 #[.val (.int x0), .val (.int x1), .val (.int x2), .val (.int x3), .val (.int x4), .val (.ref b1), .val (.ref b20), .val (.int (2 : Int32)), .val (.int (4 : Int32)), .val (.ref b580), .val (.ref r_607)] [(.int (4 : Int32)), (.int (2 : Int32)), (.ref b1), (.ref r_607)])) (fun t k => XS.iload X629.here hx rfl (hb hby at_173) rfl k) ?_
      refine own_stepW (st' := T629.setTop (mkF m 176 #[.val (.int x0), .val (.int x1), .val (.int x2), .val (.int x3), .val (.int x4), .val (.ref b1), .val (.ref b20), .val (.int (2 : Int32)), .val (.int (4 : Int32)), .val (.ref b580), .val (.ref r_607)] [(.int (2 : Int32)), (.int (4 : Int32)), (.int (2 : Int32)), (.ref b1), (.ref r_607)])) (fun t k => XS.iconst X629.here hx rfl (hb hby at_175) k) ?_
      obtain ⟨_, _, ⟨T630, L630, k630, n630⟩, -, X630, ⟨Lc630, hQ630, l630, y630, z630⟩, st630⟩ := Jvm.LawKit.callS X629 hx (y := (⟨"com/example/lookahead/lookahead/runtime/TokenTextPinLaw", "charOk", "(Ljava/lang/String;[CIII)Z"⟩ : MethodName)) hown (mvT hZ (own_h hw 94 rfl)) (mvT hZ (own_h hw 95 rfl)) (mvT hZ (own_h hw 96 rfl)) (mvT hZ (own_h hw 97 rfl)) (by decide) (backOf (W := 0) (rmK1 l Z a0 hw [] r_607 b1 (2 : Int32) (4 : Int32) (2 : Int32) h607 n0 Z626 (by decide)) hZ (own_h hw 97 rfl) (own_h hw 96 rfl) (by decide) (by decide)) (g := (mkF m 176 #[.val (.int x0), .val (.int x1), .val (.int x2), .val (.int x3), .val (.int x4), .val (.ref b1), .val (.ref b20), .val (.int (2 : Int32)), .val (.int (4 : Int32)), .val (.ref b580), .val (.ref r_607)] [(.int (2 : Int32)), (.int (4 : Int32)), (.int (2 : Int32)), (.ref b1), (.ref r_607)])) rfl (by rw [hml]; rfl) (argsL := [(.ref r_607), (.ref b1), (.int (2 : Int32)), (.int (4 : Int32)), (.int (2 : Int32))]) (rest := []) (lenOf pd_15 rfl) rfl (by show 2 * 0 + _ ≤ _; exact Nat.le_of_eq rfl) (hb hby at_176) (fun _ _ => ⟨rfl, e629, (by decide : 6 + 0 ≤ _), (by decide : 26 + 0 ≤ _)⟩)
      dsimp only [Pt.U, Pt.locs, Pt.cells, Pt.slots] at X630 l630 y630 z630 st630 hQ630
      subst y630 z630
      obtain ⟨rfl, N630q, e630⟩ := hQ630
      have N630 := Fr.app N629 N630q
      rw [← l630] at N630
      clear l630
      refine own_stepW (st' := T630.setTop (mkF m 179 #[.val (.int x0), .val (.int x1), .val (.int x2), .val (.int x3), .val (.int x4), .val (.ref b1), .val (.ref b20), .val (.int (2 : Int32)), .val (.int (4 : Int32)), .val (.ref b580), .val (.ref r_607)] [(.int (1 : Int32))])) st630 ?_
      refine own_stepW (st' := T630.setTop (mkF m 182 #[.val (.int x0), .val (.int x1), .val (.int x2), .val (.int x3), .val (.int x4), .val (.ref b1), .val (.ref b20), .val (.int (2 : Int32)), .val (.int (4 : Int32)), .val (.ref b580), .val (.ref r_607)] [])) (fun t k => XS.ifNo X630.here hx rfl (hb hby at_179) rfl ((if0 _ _).trans (feq (by decide)).1) k) ?_
      refine own_stepW (st' := T630.setTop (mkF m 184 #[.val (.int x0), .val (.int x1), .val (.int x2), .val (.int x3), .val (.int x4), .val (.ref b1), .val (.ref b20), .val (.int (2 : Int32)), .val (.int (4 : Int32)), .val (.ref b580), .val (.ref r_607)] [(.ref r_607)])) (fun t k => XS.aload X630.here hx rfl (hb hby at_182) rfl rfl k) ?_
      refine own_stepW (st' := T630.setTop (mkF m 186 #[.val (.int x0), .val (.int x1), .val (.int x2), .val (.int x3), .val (.int x4), .val (.ref b1), .val (.ref b20), .val (.int (2 : Int32)), .val (.int (4 : Int32)), .val (.ref b580), .val (.ref r_607)] [(.ref b1), (.ref r_607)])) (fun t k => XS.aload X630.here hx rfl (hb hby at_184) rfl rfl k) ?_
      refine own_stepW (st' := T630.setTop (mkF m 188 #[.val (.int x0), .val (.int x1), .val (.int x2), .val (.int x3), .val (.int x4), .val (.ref b1), .val (.ref b20), .val (.int (2 : Int32)), .val (.int (4 : Int32)), .val (.ref b580), .val (.ref r_607)] [(.int (2 : Int32)), (.ref b1), (.ref r_607)])) (fun t k => XS.iload X630.here hx rfl (hb hby at_186) rfl k) ?_
      refine own_stepW (st' := T630.setTop (mkF m 190 #[.val (.int x0), .val (.int x1), .val (.int x2), .val (.int x3), .val (.int x4), .val (.ref b1), .val (.ref b20), .val (.int (2 : Int32)), .val (.int (4 : Int32)), .val (.ref b580), .val (.ref r_607)] [(.int (4 : Int32)), (.int (2 : Int32)), (.ref b1), (.ref r_607)])) (fun t k => XS.iload X630.here hx rfl (hb hby at_188) rfl k) ?_
      refine own_stepW (st' := T630.setTop (mkF m 191 #[.val (.int x0), .val (.int x1), .val (.int x2), .val (.int x3), .val (.int x4), .val (.ref b1), .val (.ref b20), .val (.int (2 : Int32)), .val (.int (4 : Int32)), .val (.ref b580), .val (.ref r_607)] [(.int (3 : Int32)), (.int (4 : Int32)), (.int (2 : Int32)), (.ref b1), (.ref r_607)])) (fun t k => XS.iconst X630.here hx rfl (hb hby at_190) k) ?_
      obtain ⟨_, _, ⟨T631, L631, k631, n631⟩, -, X631, ⟨Lc631, hQ631, l631, y631, z631⟩, st631⟩ := Jvm.LawKit.callS X630 hx (y := (⟨"com/example/lookahead/lookahead/runtime/TokenTextPinLaw", "charOk", "(Ljava/lang/String;[CIII)Z"⟩ : MethodName)) hown (mvT hZ (own_h hw 94 rfl)) (mvT hZ (own_h hw 95 rfl)) (mvT hZ (own_h hw 96 rfl)) (mvT hZ (own_h hw 97 rfl)) (by decide) (backOf (W := 0) (rmK1 l Z a0 hw [] r_607 b1 (2 : Int32) (4 : Int32) (3 : Int32) h607 n0 Z626 (by decide)) hZ (own_h hw 97 rfl) (own_h hw 96 rfl) (by decide) (by decide)) (g := (mkF m 191 #[.val (.int x0), .val (.int x1), .val (.int x2), .val (.int x3), .val (.int x4), .val (.ref b1), .val (.ref b20), .val (.int (2 : Int32)), .val (.int (4 : Int32)), .val (.ref b580), .val (.ref r_607)] [(.int (3 : Int32)), (.int (4 : Int32)), (.int (2 : Int32)), (.ref b1), (.ref r_607)])) rfl (by rw [hml]; rfl) (argsL := [(.ref r_607), (.ref b1), (.int (2 : Int32)), (.int (4 : Int32)), (.int (3 : Int32))]) (rest := []) (lenOf pd_15 rfl) rfl (by show 2 * 0 + _ ≤ _; exact Nat.le_of_eq rfl) (hb hby at_191) (fun _ _ => ⟨rfl, e630, (by decide : 6 + 0 ≤ _), (by decide : 26 + 0 ≤ _)⟩)
      dsimp only [Pt.U, Pt.locs, Pt.cells, Pt.slots] at X631 l631 y631 z631 st631 hQ631
      subst y631 z631
      obtain ⟨rfl, N631q, e631⟩ := hQ631
      have N631 := Fr.app N630 N631q
      rw [← l631] at N631
      clear l631
      refine own_stepW (st' := T631.setTop (mkF m 194 #[.val (.int x0), .val (.int x1), .val (.int x2), .val (.int x3), .val (.int x4), .val (.ref b1), .val (.ref b20), .val (.int (2 : Int32)), .val (.int (4 : Int32)), .val (.ref b580), .val (.ref r_607)] [(.int (1 : Int32))])) st631 ?_
      refine own_stepW (st' := T631.setTop (mkF m 197 #[.val (.int x0), .val (.int x1), .val (.int x2), .val (.int x3), .val (.int x4), .val (.ref b1), .val (.ref b20), .val (.int (2 : Int32)), .val (.int (4 : Int32)), .val (.ref b580), .val (.ref r_607)] [])) (fun t k => XS.ifNo X631.here hx rfl (hb hby at_194) rfl ((if0 _ _).trans (feq (by decide)).1) k) ?_
      refine own_stepW (st' := T631.setTop (mkF m 198 #[.val (.int x0), .val (.int x1), .val (.int x2), .val (.int x3), .val (.int x4), .val (.ref b1), .val (.ref b20), .val (.int (2 : Int32)), .val (.int (4 : Int32)), .val (.ref b580), .val (.ref r_607)] [(.int (1 : Int32))])) (fun t k => XS.iconst X631.here hx rfl (hb hby at_197) k) ?_
      refine own_stepW (st' := T631.setTop (mkF m 202 #[.val (.int x0), .val (.int x1), .val (.int x2), .val (.int x3), .val (.int x4), .val (.ref b1), .val (.ref b20), .val (.int (2 : Int32)), .val (.int (4 : Int32)), .val (.ref b580), .val (.ref r_607)] [(.int (1 : Int32))])) (fun t k => XS.goto X631.here hx rfl (pc0 := 198) (pc' := 202) rfl (hb hby at_198) (by decide) (by decide) k) ?_
      refine own_toW <| own_ret X631 Bd.notSynchronized (some (.int (1 : Int32))) (fun h => by rw [Bd.returns] at h; cases h) (fun fs hr => retN X631 hx (t := .boolean) Bd.returns (by simp) (hb hby at_202) hr) ?_ (by decide) (by decide)
      rw [e631]
      exact ⟨rfl, N631⟩
  · rw [hn37]
    refine own_stepW (st' := T27.setTop (mkF m 73 #[.val (.int x0), .val (.int x1), .val (.int x2), .val (.int x3), .val (.int x4), .val (.ref b1), .val (.ref b20), .val (.int (3 : Int32)), .unset, .unset, .unset] [])) (fun t k => XS.istore X27.here hx rfl (hb hby at_71) rfl (l' := #[.val (.int x0), .val (.int x1), .val (.int x2), .val (.int x3), .val (.int x4), .val (.ref b1), .val (.ref b20), .val (.int (3 : Int32)), .unset, .unset, .unset]) rfl k) ?_
    refine own_stepW (st' := T27.setTop (mkF m 75 #[.val (.int x0), .val (.int x1), .val (.int x2), .val (.int x3), .val (.int x4), .val (.ref b1), .val (.ref b20), .val (.int (3 : Int32)), .unset, .unset, .unset] [(.int (3 : Int32))])) (fun t k => XS.iload X27.here hx rfl (hb hby at_73) rfl k) ?_
    refine own_stepW (st' := T27.setTop (mkF m 76 #[.val (.int x0), .val (.int x1), .val (.int x2), .val (.int x3), .val (.int x4), .val (.ref b1), .val (.ref b20), .val (.int (3 : Int32)), .unset, .unset, .unset] [(.int x2), (.int (3 : Int32))])) (fun t k => XS.iloadN X27.here hx rfl (hb hby at_75) rfl k) ?_
    refine own_stepW (st' := T27.setTop (mkF m 78 #[.val (.int x0), .val (.int x1), .val (.int x2), .val (.int x3), .val (.int x4), .val (.ref b1), .val (.ref b20), .val (.int (3 : Int32)), .unset, .unset, .unset] [(.int (2147483647 : Int32)), (.int x2), (.int (3 : Int32))])) (fun t k => X27.ldcInt hx hown (mvT hZ (own_h hw 30 rfl)) (g := (mkF m 76 #[.val (.int x0), .val (.int x1), .val (.int x2), .val (.int x3), .val (.int x4), .val (.ref b1), .val (.ref b20), .val (.int (3 : Int32)), .unset, .unset, .unset] [(.int x2), (.int (3 : Int32))])) rfl (hb hby at_76) t k) ?_
    refine own_stepW (st' := T27.setTop (mkF m 79 #[.val (.int x0), .val (.int x1), .val (.int x2), .val (.int x3), .val (.int x4), .val (.ref b1), .val (.ref b20), .val (.int (3 : Int32)), .unset, .unset, .unset] [(.int (x2 &&& (2147483647 : Int32))), (.int (3 : Int32))])) (fun t k => XS.iand X27.here hx rfl (hb hby at_78) rfl k) ?_
    refine own_stepW (st' := T27.setTop (mkF m 80 #[.val (.int x0), .val (.int x1), .val (.int x2), .val (.int x3), .val (.int x4), .val (.ref b1), .val (.ref b20), .val (.int (3 : Int32)), .unset, .unset, .unset] [(.int (5 : Int32)), (.int (x2 &&& (2147483647 : Int32))), (.int (3 : Int32))])) (fun t k => XS.iconst X27.here hx rfl (hb hby at_79) k) ?_
    refine own_stepW (st' := T27.setTop (mkF m 82 #[.val (.int x0), .val (.int x1), .val (.int x2), .val (.int x3), .val (.int x4), .val (.ref b1), .val (.ref b20), .val (.int (3 : Int32)), .unset, .unset, .unset] [(.int (3 : Int32)), (.int (5 : Int32)), (.int (x2 &&& (2147483647 : Int32))), (.int (3 : Int32))])) (fun t k => XS.iload X27.here hx rfl (hb hby at_80) rfl k) ?_
    refine own_stepW (st' := T27.setTop (mkF m 83 #[.val (.int x0), .val (.int x1), .val (.int x2), .val (.int x3), .val (.int x4), .val (.ref b1), .val (.ref b20), .val (.int (3 : Int32)), .unset, .unset, .unset] [(.int (2 : Int32)), (.int (x2 &&& (2147483647 : Int32))), (.int (3 : Int32))])) (fun t k => XS.isub X27.here hx rfl (hb hby at_82) rfl k) ?_
    refine own_stepW (st' := T27.setTop (mkF m 84 #[.val (.int x0), .val (.int x1), .val (.int x2), .val (.int x3), .val (.int x4), .val (.ref b1), .val (.ref b20), .val (.int (3 : Int32)), .unset, .unset, .unset] [(.int ((x2 &&& (2147483647 : Int32)) % (2 : Int32))), (.int (3 : Int32))])) (fun t k => iremM (g := (mkF m 83 #[.val (.int x0), .val (.int x1), .val (.int x2), .val (.int x3), .val (.int x4), .val (.ref b1), .val (.ref b20), .val (.int (3 : Int32)), .unset, .unset, .unset] [(.int (2 : Int32)), (.int (x2 &&& (2147483647 : Int32))), (.int (3 : Int32))])) X27 hx rfl (hb hby at_83) rfl (by decide) k) ?_
    rcases own_s2 x2 with hn632 | hn633
    · rw [hn632]
      refine own_stepW (st' := T27.setTop (mkF m 85 #[.val (.int x0), .val (.int x1), .val (.int x2), .val (.int x3), .val (.int x4), .val (.ref b1), .val (.ref b20), .val (.int (3 : Int32)), .unset, .unset, .unset] [(.int (3 : Int32))])) (fun t k => XS.iadd X27.here hx rfl (hb hby at_84) rfl k) ?_
      refine own_stepW (st' := T27.setTop (mkF m 87 #[.val (.int x0), .val (.int x1), .val (.int x2), .val (.int x3), .val (.int x4), .val (.ref b1), .val (.ref b20), .val (.int (3 : Int32)), .val (.int (3 : Int32)), .unset, .unset] [])) (fun t k => XS.istore X27.here hx rfl (hb hby at_85) rfl (l' := #[.val (.int x0), .val (.int x1), .val (.int x2), .val (.int x3), .val (.int x4), .val (.ref b1), .val (.ref b20), .val (.int (3 : Int32)), .val (.int (3 : Int32)), .unset, .unset]) rfl k) ?_
      obtain ⟨T634, h634, X634, e634, E634, A634, D634, -, st634⟩ := newO X27 hx hZ hown (own_h hw 31 rfl) (own_h hw 32 rfl) (own_h hw 33 rfl) e27 (g := (mkF m 87 #[.val (.int x0), .val (.int x1), .val (.int x2), .val (.int x3), .val (.int x4), .val (.ref b1), .val (.ref b20), .val (.int (3 : Int32)), .val (.int (3 : Int32)), .unset, .unset] [])) rfl (hb hby at_87) (by decide) (by decide)
      obtain ⟨b634, g634⟩ : ∃ z, z = h27.size := ⟨_, rfl⟩
      rw [← g634] at A634 D634 st634
      have ne635 : b1 ≠ b634 := Nat.ne_of_lt (Nat.lt_of_lt_of_le f30.lt (Nat.le_of_eq g634.symm))
      have ne636 : b20 ≠ b634 := Nat.ne_of_lt (Nat.lt_of_lt_of_le f31.lt (Nat.le_of_eq g634.symm))
      have ne637 : b_27 ≠ b634 := Nat.ne_of_lt (Nat.lt_of_lt_of_le pq27_3.lt (Nat.le_of_eq g634.symm))
      have g_b634 : n0 ≤ b634 := Nat.le_trans Z33 (Nat.le_of_eq g634.symm)
      have f638 := f30.ext E634
      have f639 := f31.ext E634
      have f640 := pq27_1.ext E634
      have f641 := pq27_2.ext E634
      have f642 := pq27_3.ext E634
      have O643 := O32.ext E634
      have Z644 : n0 ≤ h634.size := Nat.le_trans Z33 E634.1
      have f645 : Fld Z h634 b634 "com/example/lookahead/lookahead/runtime/Token" "terminal" "Lcom/example/lookahead/lookahead/core/Terminal;" .null := D634 (Or.inr (own_h hw 42 rfl)) (ty := (.object "com/example/lookahead/lookahead/core/Terminal")) (by decide)
      have f646 : Fld Z h634 b634 "com/example/lookahead/lookahead/runtime/Token" "input" "Ljava/lang/String;" .null := D634 (Or.inr (own_h hw 44 rfl)) (ty := (.object "java/lang/String")) (by decide)
      have f647 : Fld Z h634 b634 "com/example/lookahead/lookahead/runtime/Token" "start" "I" (.int (0 : Int32)) := D634 (Or.inr (own_h hw 46 rfl)) (ty := .int) (by decide)
      have f648 : Fld Z h634 b634 "com/example/lookahead/lookahead/runtime/Token" "end" "I" (.int (0 : Int32)) := D634 (Or.inr (own_h hw 48 rfl)) (ty := .int) (by decide)
      have f649 : Fld Z h634 b634 "com/example/lookahead/lookahead/runtime/Token" "line" "I" (.int (0 : Int32)) := D634 (Or.inr (own_h hw 50 rfl)) (ty := .int) (by decide)
      have f650 : Fld Z h634 b634 "com/example/lookahead/lookahead/runtime/Token" "column" "I" (.int (0 : Int32)) := D634 (Or.inr (own_h hw 52 rfl)) (ty := .int) (by decide)
      refine own_stepW (st' := T634.setTop (mkF m 90 #[.val (.int x0), .val (.int x1), .val (.int x2), .val (.int x3), .val (.int x4), .val (.ref b1), .val (.ref b20), .val (.int (3 : Int32)), .val (.int (3 : Int32)), .unset, .unset] [(.ref b634)])) st634 ?_
      refine own_stepW (st' := T634.setTop (mkF m 91 #[.val (.int x0), .val (.int x1), .val (.int x2), .val (.int x3), .val (.int x4), .val (.ref b1), .val (.ref b20), .val (.int (3 : Int32)), .val (.int (3 : Int32)), .unset, .unset] [(.ref b634), (.ref b634)])) (fun t k => XS.dup X634.here hx rfl (hb hby at_90) rfl rfl k) ?_
      obtain ⟨T651, X651, e651, st651⟩ := getS2 X634 hx hZ hown (host := "") (Or.inl (own_h hw 34 rfl)) Via.refl e634 (p_4.ext O643.2) (g := (mkF m 91 #[.val (.int x0), .val (.int x1), .val (.int x2), .val (.int x3), .val (.int x4), .val (.ref b1), .val (.ref b20), .val (.int (3 : Int32)), .val (.int (3 : Int32)), .unset, .unset] [(.ref b634), (.ref b634)])) rfl (hb hby at_91)
      refine own_stepW (st' := T651.setTop (mkF m 94 #[.val (.int x0), .val (.int x1), .val (.int x2), .val (.int x3), .val (.int x4), .val (.ref b1), .val (.ref b20), .val (.int (3 : Int32)), .val (.int (3 : Int32)), .unset, .unset] [(.ref tm), (.ref b634), (.ref b634)])) st651 ?_
      refine own_stepW (st' := T651.setTop (mkF m 96 #[.val (.int x0), .val (.int x1), .val (.int x2), .val (.int x3), .val (.int x4), .val (.ref b1), .val (.ref b20), .val (.int (3 : Int32)), .val (.int (3 : Int32)), .unset, .unset] [(.ref b20), (.ref tm), (.ref b634), (.ref b634)])) (fun t k => XS.aload X651.here hx rfl (hb hby at_94) rfl rfl k) ?_
      refine own_stepW (st' := T651.setTop (mkF m 98 #[.val (.int x0), .val (.int x1), .val (.int x2), .val (.int x3), .val (.int x4), .val (.ref b1), .val (.ref b20), .val (.int (3 : Int32)), .val (.int (3 : Int32)), .unset, .unset] [(.int (3 : Int32)), (.ref b20), (.ref tm), (.ref b634), (.ref b634)])) (fun t k => XS.iload X651.here hx rfl (hb hby at_96) rfl k) ?_
      refine own_stepW (st' := T651.setTop (mkF m 100 #[.val (.int x0), .val (.int x1), .val (.int x2), .val (.int x3), .val (.int x4), .val (.ref b1), .val (.ref b20), .val (.int (3 : Int32)), .val (.int (3 : Int32)), .unset, .unset] [(.int (3 : Int32)), (.int (3 : Int32)), (.ref b20), (.ref tm), (.ref b634), (.ref b634)])) (fun t k => XS.iload X651.here hx rfl (hb hby at_98) rfl k) ?_
      refine own_stepW (st' := T651.setTop (mkF m 101 #[.val (.int x0), .val (.int x1), .val (.int x2), .val (.int x3), .val (.int x4), .val (.ref b1), .val (.ref b20), .val (.int (3 : Int32)), .val (.int (3 : Int32)), .unset, .unset] [(.int x3), (.int (3 : Int32)), (.int (3 : Int32)), (.ref b20), (.ref tm), (.ref b634), (.ref b634)])) (fun t k => XS.iloadN X651.here hx rfl (hb hby at_100) rfl k) ?_
      refine own_stepW (st' := T651.setTop (mkF m 103 #[.val (.int x0), .val (.int x1), .val (.int x2), .val (.int x3), .val (.int x4), .val (.ref b1), .val (.ref b20), .val (.int (3 : Int32)), .val (.int (3 : Int32)), .unset, .unset] [(.int x4), (.int x3), (.int (3 : Int32)), (.int (3 : Int32)), (.ref b20), (.ref tm), (.ref b634), (.ref b634)])) (fun t k => XS.iload X651.here hx rfl (hb hby at_101) rfl k) ?_
      obtain ⟨_, _, ⟨T652, L652, k652, n652⟩, -, X652, ⟨Lc652, hQ652, l652, y652, z652⟩, st652⟩ := X651.specialBack hx (y := (⟨"com/example/lookahead/lookahead/runtime/Token", "<init>", "(Lcom/example/lookahead/lookahead/core/Terminal;Ljava/lang/String;IIII)V"⟩ : MethodName)) rfl hown (mvT hZ (own_h hw 37 rfl)) (mvT hZ (own_h hw 38 rfl)) (mvT hZ (own_h hw 39 rfl)) (by decide) (backOf (W := 1) (rm7 l Z a0 hw [] b634 tm b20 (3 : Int32) (3 : Int32) x3 x4 h634 n0 Z644 f645 f646 f647 f648 f649 f650 A634 g_b634) hZ (own_h hw 39 rfl) (own_h hw 33 rfl) (by decide) (by decide)) (g := (mkF m 103 #[.val (.int x0), .val (.int x1), .val (.int x2), .val (.int x3), .val (.int x4), .val (.ref b1), .val (.ref b20), .val (.int (3 : Int32)), .val (.int (3 : Int32)), .unset, .unset] [(.int x4), (.int x3), (.int (3 : Int32)), (.int (3 : Int32)), (.ref b20), (.ref tm), (.ref b634), (.ref b634)])) rfl (by rw [hml]; rfl) (Steps.refl _) (a := b634) (argsL := [(.ref tm), (.ref b20), (.int (3 : Int32)), (.int (3 : Int32)), (.int x3), (.int x4)]) (rest := [(.ref b634)]) (lenOf pd_6 rfl) rfl (by show 2 * 0 + _ ≤ _; exact Nat.le_of_eq rfl) (hb hby at_103) (fun _ _ => ⟨rfl, e651, (by decide : 4 + 0 ≤ _), (by decide : 18 + 0 ≤ _)⟩)
      dsimp only [Pt.U, Pt.locs, Pt.cells, Pt.slots] at X652 l652 y652 z652 st652 hQ652
      subst y652 z652
      obtain ⟨rfl, N652q, K652, pq652_0, pq652_1, pq652_2⟩ := hQ652
      have N652 := Fr.app N27 N652q
      rw [← l652] at N652
      clear l652
      obtain ⟨h652, e652⟩ : ∃ z, T652.heap = z := ⟨_, rfl⟩
      rw [e652] at K652 pq652_0 pq652_1 pq652_2
      have f653 := f638.keep K652 (ninS ne635 nin0)
      have f654 := f639.keep K652
      have f655 := f640.keep K652 (ninS ne636 nin0)
      have f656 := f641.keep K652 (ninS ne636 nin0)
      have f657 := f642.keep K652 (ninS ne637 nin0)
      have f658 := A634.keep K652
      have O659 := O643.keep K652 (allS g_b634 all0)
      have Z660 : n0 ≤ h652.size := Nat.le_trans Z644 K652.1
      refine own_stepW (st' := T652.setTop (mkF m 106 #[.val (.int x0), .val (.int x1), .val (.int x2), .val (.int x3), .val (.int x4), .val (.ref b1), .val (.ref b20), .val (.int (3 : Int32)), .val (.int (3 : Int32)), .unset, .unset] [(.ref b634)])) (fun t k => st652.trans k) ?_
      refine own_stepW (st' := T652.setTop (mkF m 108 #[.val (.int x0), .val (.int x1), .val (.int x2), .val (.int x3), .val (.int x4), .val (.ref b1), .val (.ref b20), .val (.int (3 : Int32)), .val (.int (3 : Int32)), .val (.ref b634), .unset] [])) (fun t k => XS.astore X652.here hx rfl (hb hby at_106) rfl rfl (l' := #[.val (.int x0), .val (.int x1), .val (.int x2), .val (.int x3), .val (.int x4), .val (.ref b1), .val (.ref b20), .val (.int (3 : Int32)), .val (.int (3 : Int32)), .val (.ref b634), .unset]) rfl k) ?_
      refine own_stepW (st' := T652.setTop (mkF m 110 #[.val (.int x0), .val (.int x1), .val (.int x2), .val (.int x3), .val (.int x4), .val (.ref b1), .val (.ref b20), .val (.int (3 : Int32)), .val (.int (3 : Int32)), .val (.ref b634), .unset] [(.ref b634)])) (fun t k => XS.aload X652.here hx rfl (hb hby at_108) rfl rfl k) ?_
      obtain ⟨cq661, kq661, q661a, q661b, q661c⟩ := isOf hZ e652 f658
      obtain ⟨_, _, ⟨T661, L661, k661, n661⟩, -, X661, hS661, hgr661, ⟨Lc661, hQ661, l661, y661, z661⟩, st661⟩ := X652.virtualBackS hx (y := (⟨"com/example/lookahead/lookahead/runtime/Token", "text", "()Ljava/lang/String;"⟩ : MethodName)) (z := (⟨"com/example/lookahead/lookahead/runtime/Token", "text", "()Ljava/lang/String;"⟩ : MethodName)) hown (mvT hZ (own_h hw 53 rfl)) (mvT hZ (own_h hw 54 rfl)) (notFace_of_selects (args := #[]) (mvT hZ (own_h hw 56 rfl))) (mvT hZ (own_h hw 56 rfl)) (mvT hZ (own_h hw 55 rfl)) (by decide) (own_backS (W := 0) (rmT0 l Z a0 hw [] b634 b20 (3 : Int32) (3 : Int32) b_27 kb_27 [(.int ((q0.toInt8.toInt32).toInt8.toInt32)), (.int ((q1.toInt8.toInt32).toInt8.toInt32)), (.int ((q2.toInt8.toInt32).toInt8.toInt32)), (.int ((q3.toInt8.toInt32).toInt8.toInt32))] cs fm h652 n0 Z660 O659 pq652_0 pq652_1 pq652_2 f654 f655 f656 f657 p_0 p_1 p_2 p_3 ⟨by decide, by decide⟩ rfl p_5) hZH (own_h hw 57 rfl) (own_h hw 33 rfl) (by decide) (by decide)) q661a q661c (g := (mkF m 110 #[.val (.int x0), .val (.int x1), .val (.int x2), .val (.int x3), .val (.int x4), .val (.ref b1), .val (.ref b20), .val (.int (3 : Int32)), .val (.int (3 : Int32)), .val (.ref b634), .unset] [(.ref b634)])) rfl (by rw [hml]; rfl) (Steps.refl _) (argsL := []) (rest := []) (lenOf pd_7 rfl) rfl (by show 2 * 0 + _ ≤ _; exact Nat.le_of_eq rfl) (hb hby at_110) (fun _ _ => ⟨rfl, e652, (by decide : 4 + 2 ≤ _), (by decide : 18 + 4 ≤ _)⟩)
      dsimp only [Pt.U, Pt.locs, Pt.cells, Pt.slots] at X661 l661 y661 z661 st661 hQ661 hS661
      subst y661 z661
      obtain ⟨r_661, b_661, kb_661, rfl, N661q, K661, pq661_0, pq661_1, pq661_2, pq661_3⟩ := hQ661
      have N661 := Fr.app N652 N661q
      rw [← l661] at N661
      clear l661
      obtain ⟨h661, e661⟩ : ∃ z, T661.heap = z := ⟨_, rfl⟩
      rw [e661] at K661 pq661_0 pq661_1 pq661_2 pq661_3
      have f662 := f653.keep K661 nin0
      have f663 := f654.keep K661
      have f664 := f655.keep K661 nin0
      have f665 := f656.keep K661 nin0
      have f666 := f657.keep K661 nin0
      have f667 := f658.keep K661
      have f668 := pq652_0.keep K661 nin0
      have f669 := pq652_1.keep K661 nin0
      have f670 := pq652_2.keep K661 nin0
      have O671 := O659.keep K661 all0
      have Z672 : n0 ≤ h661.size := Nat.le_trans Z660 K661.1
      have hZ : Z.Warmed39 (s.setVm T661.vm).vm := State.Warmed39.trans (t := s) hZ hS661.1
      have hown : (s.setVm T661.vm).vm.findClass "com/example/lookahead/lookahead/runtime/TokenTextPinLaw" = some m.cls := by rw [show (s.setVm T661.vm).vm = T661.vm from rfl, hS661.1.alike.findClass]; exact hown
      refine own_stepW (st' := T661.setTop (mkF m 113 #[.val (.int x0), .val (.int x1), .val (.int x2), .val (.int x3), .val (.int x4), .val (.ref b1), .val (.ref b20), .val (.int (3 : Int32)), .val (.int (3 : Int32)), .val (.ref b634), .unset] [(.ref r_661)])) (fun t k => st661.trans k) ?_
      refine own_stepW (st' := T661.setTop (mkF m 115 #[.val (.int x0), .val (.int x1), .val (.int x2), .val (.int x3), .val (.int x4), .val (.ref b1), .val (.ref b20), .val (.int (3 : Int32)), .val (.int (3 : Int32)), .val (.ref b634), .val (.ref r_661)] [])) (fun t k => XS.astore X661.here hx rfl (hb hby at_113) rfl rfl (l' := #[.val (.int x0), .val (.int x1), .val (.int x2), .val (.int x3), .val (.int x4), .val (.ref b1), .val (.ref b20), .val (.int (3 : Int32)), .val (.int (3 : Int32)), .val (.ref b634), .val (.ref r_661)]) rfl k) ?_
      refine own_stepW (st' := T661.setTop (mkF m 117 #[.val (.int x0), .val (.int x1), .val (.int x2), .val (.int x3), .val (.int x4), .val (.ref b1), .val (.ref b20), .val (.int (3 : Int32)), .val (.int (3 : Int32)), .val (.ref b634), .val (.ref r_661)] [(.ref r_661)])) (fun t k => XS.aload X661.here hx rfl (hb hby at_115) rfl rfl k) ?_
      refine own_stepW (st' := T661.setTop (mkF m 122 #[.val (.int x0), .val (.int x1), .val (.int x2), .val (.int x3), .val (.int x4), .val (.ref b1), .val (.ref b20), .val (.int (3 : Int32)), .val (.int (3 : Int32)), .val (.ref b634), .val (.ref r_661)] [])) (fun t k => XS.ifnonnullYes X661.here hx rfl (pc0 := 117) (pc' := 122) rfl (hb hby at_117) rfl (by decide) (by decide) k) ?_
      refine own_stepW (st' := T661.setTop (mkF m 124 #[.val (.int x0), .val (.int x1), .val (.int x2), .val (.int x3), .val (.int x4), .val (.ref b1), .val (.ref b20), .val (.int (3 : Int32)), .val (.int (3 : Int32)), .val (.ref b634), .val (.ref r_661)] [(.ref r_661)])) (fun t k => XS.aload X661.here hx rfl (hb hby at_122) rfl rfl k) ?_
      obtain ⟨cq673, kq673, q673a, q673b, q673c⟩ := isOf hZ e661 pq661_0
      obtain ⟨_, _, ⟨T673, L673, k673, n673⟩, -, X673, ⟨Lc673, hQ673, l673, y673, z673⟩, st673⟩ := X661.virtualBack hx (y := (⟨"java/lang/String", "length", "()I"⟩ : MethodName)) (z := (⟨"java/lang/String", "length", "()I"⟩ : MethodName)) hown (mvT hZ (own_h hw 93 rfl)) (mvT hZ (own_h hw 64 rfl)) (notFace_of_selects (args := #[]) (mvT hZ (own_h hw 66 rfl))) (mvT hZ (own_h hw 66 rfl)) (mvT hZ (own_h hw 65 rfl)) (by decide) (backOf (W := 0) (rm10 l Z a0 hw [] r_661 b_661 kb_661 (0 : Int32) [] cs h661 n0 Z672 O671 pq661_0 pq661_1 pq661_2 pq661_3 p_0 p_1) hZ (own_h hw 67 rfl) (own_h hw 3 rfl) (by decide) (by decide)) q673a q673c (g := (mkF m 124 #[.val (.int x0), .val (.int x1), .val (.int x2), .val (.int x3), .val (.int x4), .val (.ref b1), .val (.ref b20), .val (.int (3 : Int32)), .val (.int (3 : Int32)), .val (.ref b634), .val (.ref r_661)] [(.ref r_661)])) rfl (by rw [hml]; rfl) (Steps.refl _) (argsL := []) (rest := []) (lenOf pd_9 rfl) rfl (by show 2 * 0 + _ ≤ _; exact Nat.le_of_eq rfl) (hb hby at_124) (fun _ _ => ⟨rfl, e661, (by decide : 6 + 0 ≤ _), (by decide : 22 + 0 ≤ _)⟩)
      dsimp only [Pt.U, Pt.locs, Pt.cells, Pt.slots] at X673 l673 y673 z673 st673 hQ673
      subst y673 z673
      obtain ⟨rfl, N673q, e673⟩ := hQ673
      have N673 := Fr.app N661 N673q
      rw [← l673] at N673
      clear l673
      refine own_stepW (st' := T673.setTop (mkF m 127 #[.val (.int x0), .val (.int x1), .val (.int x2), .val (.int x3), .val (.int x4), .val (.ref b1), .val (.ref b20), .val (.int (3 : Int32)), .val (.int (3 : Int32)), .val (.ref b634), .val (.ref r_661)] [(.int (0 : Int32))])) (fun t k => st673.trans k) ?_
      refine own_stepW (st' := T673.setTop (mkF m 129 #[.val (.int x0), .val (.int x1), .val (.int x2), .val (.int x3), .val (.int x4), .val (.ref b1), .val (.ref b20), .val (.int (3 : Int32)), .val (.int (3 : Int32)), .val (.ref b634), .val (.ref r_661)] [(.int (3 : Int32)), (.int (0 : Int32))])) (fun t k => XS.iload X673.here hx rfl (hb hby at_127) rfl k) ?_
      refine own_stepW (st' := T673.setTop (mkF m 131 #[.val (.int x0), .val (.int x1), .val (.int x2), .val (.int x3), .val (.int x4), .val (.ref b1), .val (.ref b20), .val (.int (3 : Int32)), .val (.int (3 : Int32)), .val (.ref b634), .val (.ref r_661)] [(.int (3 : Int32)), (.int (3 : Int32)), (.int (0 : Int32))])) (fun t k => XS.iload X673.here hx rfl (hb hby at_129) rfl k) ?_
      refine own_stepW (st' := T673.setTop (mkF m 132 #[.val (.int x0), .val (.int x1), .val (.int x2), .val (.int x3), .val (.int x4), .val (.ref b1), .val (.ref b20), .val (.int (3 : Int32)), .val (.int (3 : Int32)), .val (.ref b634), .val (.ref r_661)] [(.int (0 : Int32)), (.int (0 : Int32))])) (fun t k => XS.isub X673.here hx rfl (hb hby at_131) rfl k) ?_
      refine own_stepW (st' := T673.setTop (mkF m 137 #[.val (.int x0), .val (.int x1), .val (.int x2), .val (.int x3), .val (.int x4), .val (.ref b1), .val (.ref b20), .val (.int (3 : Int32)), .val (.int (3 : Int32)), .val (.ref b634), .val (.ref r_661)] [])) (fun t k => XS.icmpYes X673.here hx rfl (pc0 := 132) (pc' := 137) rfl (hb hby at_132) rfl (teq (by decide)).1 (by decide) (by decide) k) ?_
      refine own_stepW (st' := T673.setTop (mkF m 139 #[.val (.int x0), .val (.int x1), .val (.int x2), .val (.int x3), .val (.int x4), .val (.ref b1), .val (.ref b20), .val (.int (3 : Int32)), .val (.int (3 : Int32)), .val (.ref b634), .val (.ref r_661)] [(.ref r_661)])) (fun t k => XS.aload X673.here hx rfl (hb hby at_137) rfl rfl k) ?_
      refine own_stepW (st' := T673.setTop (mkF m 141 #[.val (.int x0), .val (.int x1), .val (.int x2), .val (.int x3), .val (.int x4), .val (.ref b1), .val (.ref b20), .val (.int (3 : Int32)), .val (.int (3 : Int32)), .val (.ref b634), .val (.ref r_661)] [(.ref b1), (.ref r_661)])) (fun t k => XS.aload X673.here hx rfl (hb hby at_139) rfl rfl k) ?_
      refine own_stepW (st' := T673.setTop (mkF m 143 #[.val (.int x0), .val (.int x1), .val (.int x2), .val (.int x3), .val (.int x4), .val (.ref b1), .val (.ref b20), .val (.int (3 : Int32)), .val (.int (3 : Int32)), .val (.ref b634), .val (.ref r_661)] [(.int (3 : Int32)), (.ref b1), (.ref r_661)])) (fun t k => XS.iload X673.here hx rfl (hb hby at_141) rfl k) ?_
      refine own_stepW (st' := T673.setTop (mkF m 145 #[.val (.int x0), .val (.int x1), .val (.int x2), .val (.int x3), .val (.int x4), .val (.ref b1), .val (.ref b20), .val (.int (3 : Int32)), .val (.int (3 : Int32)), .val (.ref b634), .val (.ref r_661)] [(.int (3 : Int32)), (.int (3 : Int32)), (.ref b1), (.ref r_661)])) (fun t k => XS.iload X673.here hx rfl (hb hby at_143) rfl k) ?_
      refine own_stepW (st' := T673.setTop (mkF m 146 #[.val (.int x0), .val (.int x1), .val (.int x2), .val (.int x3), .val (.int x4), .val (.ref b1), .val (.ref b20), .val (.int (3 : Int32)), .val (.int (3 : Int32)), .val (.ref b634), .val (.ref r_661)] [(.int (0 : Int32)), (.int (3 : Int32)), (.int (3 : Int32)), (.ref b1), (.ref r_661)])) (fun t k => XS.iconst X673.here hx rfl (hb hby at_145) k) ?_
      obtain ⟨_, _, ⟨T674, L674, k674, n674⟩, -, X674, ⟨Lc674, hQ674, l674, y674, z674⟩, st674⟩ := Jvm.LawKit.callS X673 hx (y := (⟨"com/example/lookahead/lookahead/runtime/TokenTextPinLaw", "charOk", "(Ljava/lang/String;[CIII)Z"⟩ : MethodName)) hown (mvT hZ (own_h hw 94 rfl)) (mvT hZ (own_h hw 95 rfl)) (mvT hZ (own_h hw 96 rfl)) (mvT hZ (own_h hw 97 rfl)) (by decide) (backOf (W := 0) (rmK1 l Z a0 hw [] r_661 b1 (3 : Int32) (3 : Int32) (0 : Int32) h661 n0 Z672 (by decide)) hZ (own_h hw 97 rfl) (own_h hw 96 rfl) (by decide) (by decide)) (g := (mkF m 146 #[.val (.int x0), .val (.int x1), .val (.int x2), .val (.int x3), .val (.int x4), .val (.ref b1), .val (.ref b20), .val (.int (3 : Int32)), .val (.int (3 : Int32)), .val (.ref b634), .val (.ref r_661)] [(.int (0 : Int32)), (.int (3 : Int32)), (.int (3 : Int32)), (.ref b1), (.ref r_661)])) rfl (by rw [hml]; rfl) (argsL := [(.ref r_661), (.ref b1), (.int (3 : Int32)), (.int (3 : Int32)), (.int (0 : Int32))]) (rest := []) (lenOf pd_15 rfl) rfl (by show 2 * 0 + _ ≤ _; exact Nat.le_of_eq rfl) (hb hby at_146) (fun _ _ => ⟨rfl, e673, (by decide : 6 + 0 ≤ _), (by decide : 22 + 0 ≤ _)⟩)
      dsimp only [Pt.U, Pt.locs, Pt.cells, Pt.slots] at X674 l674 y674 z674 st674 hQ674
      subst y674 z674
      obtain ⟨rfl, N674q, e674⟩ := hQ674
      have N674 := Fr.app N673 N674q
      rw [← l674] at N674
      clear l674
      refine own_stepW (st' := T674.setTop (mkF m 149 #[.val (.int x0), .val (.int x1), .val (.int x2), .val (.int x3), .val (.int x4), .val (.ref b1), .val (.ref b20), .val (.int (3 : Int32)), .val (.int (3 : Int32)), .val (.ref b634), .val (.ref r_661)] [(.int (1 : Int32))])) st674 ?_
      refine own_stepW (st' := T674.setTop (mkF m 152 #[.val (.int x0), .val (.int x1), .val (.int x2), .val (.int x3), .val (.int x4), .val (.ref b1), .val (.ref b20), .val (.int (3 : Int32)), .val (.int (3 : Int32)), .val (.ref b634), .val (.ref r_661)] [])) (fun t k => XS.ifNo X674.here hx rfl (hb hby at_149) rfl ((if0 _ _).trans (feq (by decide)).1) k) ?_
      refine own_stepW (st' := T674.setTop (mkF m 154 #[.val (.int x0), .val (.int x1), .val (.int x2), .val (.int x3), .val (.int x4), .val (.ref b1), .val (.ref b20), .val (.int (3 : Int32)), .val (.int (3 : Int32)), .val (.ref b634), .val (.ref r_661)] [(.ref r_661)])) (fun t k => XS.aload X674.here hx rfl (hb hby at_152) rfl rfl k) ?_
      refine own_stepW (st' := T674.setTop (mkF m 156 #[.val (.int x0), .val (.int x1), .val (.int x2), .val (.int x3), .val (.int x4), .val (.ref b1), .val (.ref b20), .val (.int (3 : Int32)), .val (.int (3 : Int32)), .val (.ref b634), .val (.ref r_661)] [(.ref b1), (.ref r_661)])) (fun t k => XS.aload X674.here hx rfl (hb hby at_154) rfl rfl k) ?_
      refine own_stepW (st' := T674.setTop (mkF m 158 #[.val (.int x0), .val (.int x1), .val (.int x2), .val (.int x3), .val (.int x4), .val (.ref b1), .val (.ref b20), .val (.int (3 : Int32)), .val (.int (3 : Int32)), .val (.ref b634), .val (.ref r_661)] [(.int (3 : Int32)), (.ref b1), (.ref r_661)])) (fun t k => XS.iload X674.here hx rfl (hb hby at_156) rfl k) ?_
      refine own_stepW (st' := T674.setTop (mkF m 160 #[.val (.int x0), .val (.int x1), .val (.int x2), .val (.int x3), .val (.int x4), .val (.ref b1), .val (.ref b20), .val (.int (3 : Int32)), .val (.int (3 : Int32)), .val (.ref b634), .val (.ref r_661)] [(.int (3 : Int32)), (.int (3 : Int32)), (.ref b1), (.ref r_661)])) (fun t k => XS.iload X674.here hx rfl (hb hby at_158) rfl k) ?_
      refine own_stepW (st' := T674.setTop (mkF m 161 #[.val (.int x0), .val (.int x1), .val (.int x2), .val (.int x3), .val (.int x4), .val (.ref b1), .val (.ref b20), .val (.int (3 : Int32)), .val (.int (3 : Int32)), .val (.ref b634), .val (.ref r_661)] [(.int (1 : Int32)), (.int (3 : Int32)), (.int (3 : Int32)), (.ref b1), (.ref r_661)])) (fun t k => XS.iconst X674.here hx rfl (hb hby at_160) k) ?_
      obtain ⟨_, _, ⟨T675, L675, k675, n675⟩, -, X675, ⟨Lc675, hQ675, l675, y675, z675⟩, st675⟩ := Jvm.LawKit.callS X674 hx (y := (⟨"com/example/lookahead/lookahead/runtime/TokenTextPinLaw", "charOk", "(Ljava/lang/String;[CIII)Z"⟩ : MethodName)) hown (mvT hZ (own_h hw 94 rfl)) (mvT hZ (own_h hw 95 rfl)) (mvT hZ (own_h hw 96 rfl)) (mvT hZ (own_h hw 97 rfl)) (by decide) (backOf (W := 0) (rmK1 l Z a0 hw [] r_661 b1 (3 : Int32) (3 : Int32) (1 : Int32) h661 n0 Z672 (by decide)) hZ (own_h hw 97 rfl) (own_h hw 96 rfl) (by decide) (by decide)) (g := (mkF m 161 #[.val (.int x0), .val (.int x1), .val (.int x2), .val (.int x3), .val (.int x4), .val (.ref b1), .val (.ref b20), .val (.int (3 : Int32)), .val (.int (3 : Int32)), .val (.ref b634), .val (.ref r_661)] [(.int (1 : Int32)), (.int (3 : Int32)), (.int (3 : Int32)), (.ref b1), (.ref r_661)])) rfl (by rw [hml]; rfl) (argsL := [(.ref r_661), (.ref b1), (.int (3 : Int32)), (.int (3 : Int32)), (.int (1 : Int32))]) (rest := []) (lenOf pd_15 rfl) rfl (by show 2 * 0 + _ ≤ _; exact Nat.le_of_eq rfl) (hb hby at_161) (fun _ _ => ⟨rfl, e674, (by decide : 6 + 0 ≤ _), (by decide : 22 + 0 ≤ _)⟩)
      dsimp only [Pt.U, Pt.locs, Pt.cells, Pt.slots] at X675 l675 y675 z675 st675 hQ675
      subst y675 z675
      obtain ⟨rfl, N675q, e675⟩ := hQ675
      have N675 := Fr.app N674 N675q
      rw [← l675] at N675
      clear l675
      refine own_stepW (st' := T675.setTop (mkF m 164 #[.val (.int x0), .val (.int x1), .val (.int x2), .val (.int x3), .val (.int x4), .val (.ref b1), .val (.ref b20), .val (.int (3 : Int32)), .val (.int (3 : Int32)), .val (.ref b634), .val (.ref r_661)] [(.int (1 : Int32))])) st675 ?_
      refine own_stepW (st' := T675.setTop (mkF m 167 #[.val (.int x0), .val (.int x1), .val (.int x2), .val (.int x3), .val (.int x4), .val (.ref b1), .val (.ref b20), .val (.int (3 : Int32)), .val (.int (3 : Int32)), .val (.ref b634), .val (.ref r_661)] [])) (fun t k => XS.ifNo X675.here hx rfl (hb hby at_164) rfl ((if0 _ _).trans (feq (by decide)).1) k) ?_
      refine own_stepW (st' := T675.setTop (mkF m 169 #[.val (.int x0), .val (.int x1), .val (.int x2), .val (.int x3), .val (.int x4), .val (.ref b1), .val (.ref b20), .val (.int (3 : Int32)), .val (.int (3 : Int32)), .val (.ref b634), .val (.ref r_661)] [(.ref r_661)])) (fun t k => XS.aload X675.here hx rfl (hb hby at_167) rfl rfl k) ?_
      refine own_stepW (st' := T675.setTop (mkF m 171 #[.val (.int x0), .val (.int x1), .val (.int x2), .val (.int x3), .val (.int x4), .val (.ref b1), .val (.ref b20), .val (.int (3 : Int32)), .val (.int (3 : Int32)), .val (.ref b634), .val (.ref r_661)] [(.ref b1), (.ref r_661)])) (fun t k => XS.aload X675.here hx rfl (hb hby at_169) rfl rfl k) ?_
      refine own_stepW (st' := T675.setTop (mkF m 173 #[.val (.int x0), .val (.int x1), .val (.int x2), .val (.int x3), .val (.int x4), .val (.ref b1), .val (.ref b20), .val (.int (3 : Int32)), .val (.int (3 : Int32)), .val (.ref b634), .val (.ref r_661)] [(.int (3 : Int32)), (.ref b1), (.ref r_661)])) (fun t k => XS.iload X675.here hx rfl (hb hby at_171) rfl k) ?_
      refine own_stepW (st' := T675.setTop (mkF m 175 #[.val (.int x0), .val (.int x1), .val (.int x2), .val (.int x3), .val (.int x4), .val (.ref b1), .val (.ref b20), .val (.int (3 : Int32)), .val (.int (3 : Int32)), .val (.ref b634), .val (.ref r_661)] [(.int (3 : Int32)), (.int (3 : Int32)), (.ref b1), (.ref r_661)])) (fun t k => XS.iload X675.here hx rfl (hb hby at_173) rfl k) ?_
      refine own_stepW (st' := T675.setTop (mkF m 176 #[.val (.int x0), .val (.int x1), .val (.int x2), .val (.int x3), .val (.int x4), .val (.ref b1), .val (.ref b20), .val (.int (3 : Int32)), .val (.int (3 : Int32)), .val (.ref b634), .val (.ref r_661)] [(.int (2 : Int32)), (.int (3 : Int32)), (.int (3 : Int32)), (.ref b1), (.ref r_661)])) (fun t k => XS.iconst X675.here hx rfl (hb hby at_175) k) ?_
      obtain ⟨_, _, ⟨T676, L676, k676, n676⟩, -, X676, ⟨Lc676, hQ676, l676, y676, z676⟩, st676⟩ := Jvm.LawKit.callS X675 hx (y := (⟨"com/example/lookahead/lookahead/runtime/TokenTextPinLaw", "charOk", "(Ljava/lang/String;[CIII)Z"⟩ : MethodName)) hown (mvT hZ (own_h hw 94 rfl)) (mvT hZ (own_h hw 95 rfl)) (mvT hZ (own_h hw 96 rfl)) (mvT hZ (own_h hw 97 rfl)) (by decide) (backOf (W := 0) (rmK1 l Z a0 hw [] r_661 b1 (3 : Int32) (3 : Int32) (2 : Int32) h661 n0 Z672 (by decide)) hZ (own_h hw 97 rfl) (own_h hw 96 rfl) (by decide) (by decide)) (g := (mkF m 176 #[.val (.int x0), .val (.int x1), .val (.int x2), .val (.int x3), .val (.int x4), .val (.ref b1), .val (.ref b20), .val (.int (3 : Int32)), .val (.int (3 : Int32)), .val (.ref b634), .val (.ref r_661)] [(.int (2 : Int32)), (.int (3 : Int32)), (.int (3 : Int32)), (.ref b1), (.ref r_661)])) rfl (by rw [hml]; rfl) (argsL := [(.ref r_661), (.ref b1), (.int (3 : Int32)), (.int (3 : Int32)), (.int (2 : Int32))]) (rest := []) (lenOf pd_15 rfl) rfl (by show 2 * 0 + _ ≤ _; exact Nat.le_of_eq rfl) (hb hby at_176) (fun _ _ => ⟨rfl, e675, (by decide : 6 + 0 ≤ _), (by decide : 22 + 0 ≤ _)⟩)
      dsimp only [Pt.U, Pt.locs, Pt.cells, Pt.slots] at X676 l676 y676 z676 st676 hQ676
      subst y676 z676
      obtain ⟨rfl, N676q, e676⟩ := hQ676
      have N676 := Fr.app N675 N676q
      rw [← l676] at N676
      clear l676
      refine own_stepW (st' := T676.setTop (mkF m 179 #[.val (.int x0), .val (.int x1), .val (.int x2), .val (.int x3), .val (.int x4), .val (.ref b1), .val (.ref b20), .val (.int (3 : Int32)), .val (.int (3 : Int32)), .val (.ref b634), .val (.ref r_661)] [(.int (1 : Int32))])) st676 ?_
      refine own_stepW (st' := T676.setTop (mkF m 182 #[.val (.int x0), .val (.int x1), .val (.int x2), .val (.int x3), .val (.int x4), .val (.ref b1), .val (.ref b20), .val (.int (3 : Int32)), .val (.int (3 : Int32)), .val (.ref b634), .val (.ref r_661)] [])) (fun t k => XS.ifNo X676.here hx rfl (hb hby at_179) rfl ((if0 _ _).trans (feq (by decide)).1) k) ?_
      refine own_stepW (st' := T676.setTop (mkF m 184 #[.val (.int x0), .val (.int x1), .val (.int x2), .val (.int x3), .val (.int x4), .val (.ref b1), .val (.ref b20), .val (.int (3 : Int32)), .val (.int (3 : Int32)), .val (.ref b634), .val (.ref r_661)] [(.ref r_661)])) (fun t k => XS.aload X676.here hx rfl (hb hby at_182) rfl rfl k) ?_
      refine own_stepW (st' := T676.setTop (mkF m 186 #[.val (.int x0), .val (.int x1), .val (.int x2), .val (.int x3), .val (.int x4), .val (.ref b1), .val (.ref b20), .val (.int (3 : Int32)), .val (.int (3 : Int32)), .val (.ref b634), .val (.ref r_661)] [(.ref b1), (.ref r_661)])) (fun t k => XS.aload X676.here hx rfl (hb hby at_184) rfl rfl k) ?_
      refine own_stepW (st' := T676.setTop (mkF m 188 #[.val (.int x0), .val (.int x1), .val (.int x2), .val (.int x3), .val (.int x4), .val (.ref b1), .val (.ref b20), .val (.int (3 : Int32)), .val (.int (3 : Int32)), .val (.ref b634), .val (.ref r_661)] [(.int (3 : Int32)), (.ref b1), (.ref r_661)])) (fun t k => XS.iload X676.here hx rfl (hb hby at_186) rfl k) ?_
      refine own_stepW (st' := T676.setTop (mkF m 190 #[.val (.int x0), .val (.int x1), .val (.int x2), .val (.int x3), .val (.int x4), .val (.ref b1), .val (.ref b20), .val (.int (3 : Int32)), .val (.int (3 : Int32)), .val (.ref b634), .val (.ref r_661)] [(.int (3 : Int32)), (.int (3 : Int32)), (.ref b1), (.ref r_661)])) (fun t k => XS.iload X676.here hx rfl (hb hby at_188) rfl k) ?_
      refine own_stepW (st' := T676.setTop (mkF m 191 #[.val (.int x0), .val (.int x1), .val (.int x2), .val (.int x3), .val (.int x4), .val (.ref b1), .val (.ref b20), .val (.int (3 : Int32)), .val (.int (3 : Int32)), .val (.ref b634), .val (.ref r_661)] [(.int (3 : Int32)), (.int (3 : Int32)), (.int (3 : Int32)), (.ref b1), (.ref r_661)])) (fun t k => XS.iconst X676.here hx rfl (hb hby at_190) k) ?_
      obtain ⟨_, _, ⟨T677, L677, k677, n677⟩, -, X677, ⟨Lc677, hQ677, l677, y677, z677⟩, st677⟩ := Jvm.LawKit.callS X676 hx (y := (⟨"com/example/lookahead/lookahead/runtime/TokenTextPinLaw", "charOk", "(Ljava/lang/String;[CIII)Z"⟩ : MethodName)) hown (mvT hZ (own_h hw 94 rfl)) (mvT hZ (own_h hw 95 rfl)) (mvT hZ (own_h hw 96 rfl)) (mvT hZ (own_h hw 97 rfl)) (by decide) (backOf (W := 0) (rmK1 l Z a0 hw [] r_661 b1 (3 : Int32) (3 : Int32) (3 : Int32) h661 n0 Z672 (by decide)) hZ (own_h hw 97 rfl) (own_h hw 96 rfl) (by decide) (by decide)) (g := (mkF m 191 #[.val (.int x0), .val (.int x1), .val (.int x2), .val (.int x3), .val (.int x4), .val (.ref b1), .val (.ref b20), .val (.int (3 : Int32)), .val (.int (3 : Int32)), .val (.ref b634), .val (.ref r_661)] [(.int (3 : Int32)), (.int (3 : Int32)), (.int (3 : Int32)), (.ref b1), (.ref r_661)])) rfl (by rw [hml]; rfl) (argsL := [(.ref r_661), (.ref b1), (.int (3 : Int32)), (.int (3 : Int32)), (.int (3 : Int32))]) (rest := []) (lenOf pd_15 rfl) rfl (by show 2 * 0 + _ ≤ _; exact Nat.le_of_eq rfl) (hb hby at_191) (fun _ _ => ⟨rfl, e676, (by decide : 6 + 0 ≤ _), (by decide : 22 + 0 ≤ _)⟩)
      dsimp only [Pt.U, Pt.locs, Pt.cells, Pt.slots] at X677 l677 y677 z677 st677 hQ677
      subst y677 z677
      obtain ⟨rfl, N677q, e677⟩ := hQ677
      have N677 := Fr.app N676 N677q
      rw [← l677] at N677
      clear l677
      refine own_stepW (st' := T677.setTop (mkF m 194 #[.val (.int x0), .val (.int x1), .val (.int x2), .val (.int x3), .val (.int x4), .val (.ref b1), .val (.ref b20), .val (.int (3 : Int32)), .val (.int (3 : Int32)), .val (.ref b634), .val (.ref r_661)] [(.int (1 : Int32))])) st677 ?_
      refine own_stepW (st' := T677.setTop (mkF m 197 #[.val (.int x0), .val (.int x1), .val (.int x2), .val (.int x3), .val (.int x4), .val (.ref b1), .val (.ref b20), .val (.int (3 : Int32)), .val (.int (3 : Int32)), .val (.ref b634), .val (.ref r_661)] [])) (fun t k => XS.ifNo X677.here hx rfl (hb hby at_194) rfl ((if0 _ _).trans (feq (by decide)).1) k) ?_
      refine own_stepW (st' := T677.setTop (mkF m 198 #[.val (.int x0), .val (.int x1), .val (.int x2), .val (.int x3), .val (.int x4), .val (.ref b1), .val (.ref b20), .val (.int (3 : Int32)), .val (.int (3 : Int32)), .val (.ref b634), .val (.ref r_661)] [(.int (1 : Int32))])) (fun t k => XS.iconst X677.here hx rfl (hb hby at_197) k) ?_
      refine own_stepW (st' := T677.setTop (mkF m 202 #[.val (.int x0), .val (.int x1), .val (.int x2), .val (.int x3), .val (.int x4), .val (.ref b1), .val (.ref b20), .val (.int (3 : Int32)), .val (.int (3 : Int32)), .val (.ref b634), .val (.ref r_661)] [(.int (1 : Int32))])) (fun t k => XS.goto X677.here hx rfl (pc0 := 198) (pc' := 202) rfl (hb hby at_198) (by decide) (by decide) k) ?_
      refine own_retW X677 hS661 (Nat.le_of_eq (congrArg Array.size (e661.trans e677.symm))) Bd.notSynchronized (some (.int (1 : Int32))) (fun h => by rw [Bd.returns] at h; cases h) (fun fs hr => retN X677 hx (t := .boolean) Bd.returns (by simp) (hb hby at_202) hr) ?_ (by decide) (by decide)
      rw [e677]
      exact ⟨rfl, N677⟩
    · rw [hn633]
      refine own_stepW (st' := T27.setTop (mkF m 85 #[.val (.int x0), .val (.int x1), .val (.int x2), .val (.int x3), .val (.int x4), .val (.ref b1), .val (.ref b20), .val (.int (3 : Int32)), .unset, .unset, .unset] [(.int (4 : Int32))])) (fun t k => XS.iadd X27.here hx rfl (hb hby at_84) rfl k) ?_
      refine own_stepW (st' := T27.setTop (mkF m 87 #[.val (.int x0), .val (.int x1), .val (.int x2), .val (.int x3), .val (.int x4), .val (.ref b1), .val (.ref b20), .val (.int (3 : Int32)), .val (.int (4 : Int32)), .unset, .unset] [])) (fun t k => XS.istore X27.here hx rfl (hb hby at_85) rfl (l' := #[.val (.int x0), .val (.int x1), .val (.int x2), .val (.int x3), .val (.int x4), .val (.ref b1), .val (.ref b20), .val (.int (3 : Int32)), .val (.int (4 : Int32)), .unset, .unset]) rfl k) ?_
      obtain ⟨T678, h678, X678, e678, E678, A678, D678, -, st678⟩ := newO X27 hx hZ hown (own_h hw 31 rfl) (own_h hw 32 rfl) (own_h hw 33 rfl) e27 (g := (mkF m 87 #[.val (.int x0), .val (.int x1), .val (.int x2), .val (.int x3), .val (.int x4), .val (.ref b1), .val (.ref b20), .val (.int (3 : Int32)), .val (.int (4 : Int32)), .unset, .unset] [])) rfl (hb hby at_87) (by decide) (by decide)
      obtain ⟨b678, g678⟩ : ∃ z, z = h27.size := ⟨_, rfl⟩
      rw [← g678] at A678 D678 st678
      have ne679 : b1 ≠ b678 := Nat.ne_of_lt (Nat.lt_of_lt_of_le f30.lt (Nat.le_of_eq g678.symm))
      have ne680 : b20 ≠ b678 := Nat.ne_of_lt (Nat.lt_of_lt_of_le f31.lt (Nat.le_of_eq g678.symm))
      have ne681 : b_27 ≠ b678 := Nat.ne_of_lt (Nat.lt_of_lt_of_le pq27_3.lt (Nat.le_of_eq g678.symm))
      have g_b678 : n0 ≤ b678 := Nat.le_trans Z33 (Nat.le_of_eq g678.symm)
      have f682 := f30.ext E678
      have f683 := f31.ext E678
      have f684 := pq27_1.ext E678
      have f685 := pq27_2.ext E678
      have f686 := pq27_3.ext E678
      have O687 := O32.ext E678
      have Z688 : n0 ≤ h678.size := Nat.le_trans Z33 E678.1
      have f689 : Fld Z h678 b678 "com/example/lookahead/lookahead/runtime/Token" "terminal" "Lcom/example/lookahead/lookahead/core/Terminal;" .null := D678 (Or.inr (own_h hw 42 rfl)) (ty := (.object "com/example/lookahead/lookahead/core/Terminal")) (by decide)
      have f690 : Fld Z h678 b678 "com/example/lookahead/lookahead/runtime/Token" "input" "Ljava/lang/String;" .null := D678 (Or.inr (own_h hw 44 rfl)) (ty := (.object "java/lang/String")) (by decide)
      have f691 : Fld Z h678 b678 "com/example/lookahead/lookahead/runtime/Token" "start" "I" (.int (0 : Int32)) := D678 (Or.inr (own_h hw 46 rfl)) (ty := .int) (by decide)
      have f692 : Fld Z h678 b678 "com/example/lookahead/lookahead/runtime/Token" "end" "I" (.int (0 : Int32)) := D678 (Or.inr (own_h hw 48 rfl)) (ty := .int) (by decide)
      have f693 : Fld Z h678 b678 "com/example/lookahead/lookahead/runtime/Token" "line" "I" (.int (0 : Int32)) := D678 (Or.inr (own_h hw 50 rfl)) (ty := .int) (by decide)
      have f694 : Fld Z h678 b678 "com/example/lookahead/lookahead/runtime/Token" "column" "I" (.int (0 : Int32)) := D678 (Or.inr (own_h hw 52 rfl)) (ty := .int) (by decide)
      refine own_stepW (st' := T678.setTop (mkF m 90 #[.val (.int x0), .val (.int x1), .val (.int x2), .val (.int x3), .val (.int x4), .val (.ref b1), .val (.ref b20), .val (.int (3 : Int32)), .val (.int (4 : Int32)), .unset, .unset] [(.ref b678)])) st678 ?_
      refine own_stepW (st' := T678.setTop (mkF m 91 #[.val (.int x0), .val (.int x1), .val (.int x2), .val (.int x3), .val (.int x4), .val (.ref b1), .val (.ref b20), .val (.int (3 : Int32)), .val (.int (4 : Int32)), .unset, .unset] [(.ref b678), (.ref b678)])) (fun t k => XS.dup X678.here hx rfl (hb hby at_90) rfl rfl k) ?_
      obtain ⟨T695, X695, e695, st695⟩ := getS2 X678 hx hZ hown (host := "") (Or.inl (own_h hw 34 rfl)) Via.refl e678 (p_4.ext O687.2) (g := (mkF m 91 #[.val (.int x0), .val (.int x1), .val (.int x2), .val (.int x3), .val (.int x4), .val (.ref b1), .val (.ref b20), .val (.int (3 : Int32)), .val (.int (4 : Int32)), .unset, .unset] [(.ref b678), (.ref b678)])) rfl (hb hby at_91)
      refine own_stepW (st' := T695.setTop (mkF m 94 #[.val (.int x0), .val (.int x1), .val (.int x2), .val (.int x3), .val (.int x4), .val (.ref b1), .val (.ref b20), .val (.int (3 : Int32)), .val (.int (4 : Int32)), .unset, .unset] [(.ref tm), (.ref b678), (.ref b678)])) st695 ?_
      refine own_stepW (st' := T695.setTop (mkF m 96 #[.val (.int x0), .val (.int x1), .val (.int x2), .val (.int x3), .val (.int x4), .val (.ref b1), .val (.ref b20), .val (.int (3 : Int32)), .val (.int (4 : Int32)), .unset, .unset] [(.ref b20), (.ref tm), (.ref b678), (.ref b678)])) (fun t k => XS.aload X695.here hx rfl (hb hby at_94) rfl rfl k) ?_
      refine own_stepW (st' := T695.setTop (mkF m 98 #[.val (.int x0), .val (.int x1), .val (.int x2), .val (.int x3), .val (.int x4), .val (.ref b1), .val (.ref b20), .val (.int (3 : Int32)), .val (.int (4 : Int32)), .unset, .unset] [(.int (3 : Int32)), (.ref b20), (.ref tm), (.ref b678), (.ref b678)])) (fun t k => XS.iload X695.here hx rfl (hb hby at_96) rfl k) ?_
      refine own_stepW (st' := T695.setTop (mkF m 100 #[.val (.int x0), .val (.int x1), .val (.int x2), .val (.int x3), .val (.int x4), .val (.ref b1), .val (.ref b20), .val (.int (3 : Int32)), .val (.int (4 : Int32)), .unset, .unset] [(.int (4 : Int32)), (.int (3 : Int32)), (.ref b20), (.ref tm), (.ref b678), (.ref b678)])) (fun t k => XS.iload X695.here hx rfl (hb hby at_98) rfl k) ?_
      refine own_stepW (st' := T695.setTop (mkF m 101 #[.val (.int x0), .val (.int x1), .val (.int x2), .val (.int x3), .val (.int x4), .val (.ref b1), .val (.ref b20), .val (.int (3 : Int32)), .val (.int (4 : Int32)), .unset, .unset] [(.int x3), (.int (4 : Int32)), (.int (3 : Int32)), (.ref b20), (.ref tm), (.ref b678), (.ref b678)])) (fun t k => XS.iloadN X695.here hx rfl (hb hby at_100) rfl k) ?_
      refine own_stepW (st' := T695.setTop (mkF m 103 #[.val (.int x0), .val (.int x1), .val (.int x2), .val (.int x3), .val (.int x4), .val (.ref b1), .val (.ref b20), .val (.int (3 : Int32)), .val (.int (4 : Int32)), .unset, .unset] [(.int x4), (.int x3), (.int (4 : Int32)), (.int (3 : Int32)), (.ref b20), (.ref tm), (.ref b678), (.ref b678)])) (fun t k => XS.iload X695.here hx rfl (hb hby at_101) rfl k) ?_
      obtain ⟨_, _, ⟨T696, L696, k696, n696⟩, -, X696, ⟨Lc696, hQ696, l696, y696, z696⟩, st696⟩ := X695.specialBack hx (y := (⟨"com/example/lookahead/lookahead/runtime/Token", "<init>", "(Lcom/example/lookahead/lookahead/core/Terminal;Ljava/lang/String;IIII)V"⟩ : MethodName)) rfl hown (mvT hZ (own_h hw 37 rfl)) (mvT hZ (own_h hw 38 rfl)) (mvT hZ (own_h hw 39 rfl)) (by decide) (backOf (W := 1) (rm7 l Z a0 hw [] b678 tm b20 (3 : Int32) (4 : Int32) x3 x4 h678 n0 Z688 f689 f690 f691 f692 f693 f694 A678 g_b678) hZ (own_h hw 39 rfl) (own_h hw 33 rfl) (by decide) (by decide)) (g := (mkF m 103 #[.val (.int x0), .val (.int x1), .val (.int x2), .val (.int x3), .val (.int x4), .val (.ref b1), .val (.ref b20), .val (.int (3 : Int32)), .val (.int (4 : Int32)), .unset, .unset] [(.int x4), (.int x3), (.int (4 : Int32)), (.int (3 : Int32)), (.ref b20), (.ref tm), (.ref b678), (.ref b678)])) rfl (by rw [hml]; rfl) (Steps.refl _) (a := b678) (argsL := [(.ref tm), (.ref b20), (.int (3 : Int32)), (.int (4 : Int32)), (.int x3), (.int x4)]) (rest := [(.ref b678)]) (lenOf pd_6 rfl) rfl (by show 2 * 0 + _ ≤ _; exact Nat.le_of_eq rfl) (hb hby at_103) (fun _ _ => ⟨rfl, e695, (by decide : 4 + 0 ≤ _), (by decide : 18 + 0 ≤ _)⟩)
      dsimp only [Pt.U, Pt.locs, Pt.cells, Pt.slots] at X696 l696 y696 z696 st696 hQ696
      subst y696 z696
      obtain ⟨rfl, N696q, K696, pq696_0, pq696_1, pq696_2⟩ := hQ696
      have N696 := Fr.app N27 N696q
      rw [← l696] at N696
      clear l696
      obtain ⟨h696, e696⟩ : ∃ z, T696.heap = z := ⟨_, rfl⟩
      rw [e696] at K696 pq696_0 pq696_1 pq696_2
      have f697 := f682.keep K696 (ninS ne679 nin0)
      have f698 := f683.keep K696
      have f699 := f684.keep K696 (ninS ne680 nin0)
      have f700 := f685.keep K696 (ninS ne680 nin0)
      have f701 := f686.keep K696 (ninS ne681 nin0)
      have f702 := A678.keep K696
      have O703 := O687.keep K696 (allS g_b678 all0)
      have Z704 : n0 ≤ h696.size := Nat.le_trans Z688 K696.1
      refine own_stepW (st' := T696.setTop (mkF m 106 #[.val (.int x0), .val (.int x1), .val (.int x2), .val (.int x3), .val (.int x4), .val (.ref b1), .val (.ref b20), .val (.int (3 : Int32)), .val (.int (4 : Int32)), .unset, .unset] [(.ref b678)])) (fun t k => st696.trans k) ?_
      refine own_stepW (st' := T696.setTop (mkF m 108 #[.val (.int x0), .val (.int x1), .val (.int x2), .val (.int x3), .val (.int x4), .val (.ref b1), .val (.ref b20), .val (.int (3 : Int32)), .val (.int (4 : Int32)), .val (.ref b678), .unset] [])) (fun t k => XS.astore X696.here hx rfl (hb hby at_106) rfl rfl (l' := #[.val (.int x0), .val (.int x1), .val (.int x2), .val (.int x3), .val (.int x4), .val (.ref b1), .val (.ref b20), .val (.int (3 : Int32)), .val (.int (4 : Int32)), .val (.ref b678), .unset]) rfl k) ?_
      refine own_stepW (st' := T696.setTop (mkF m 110 #[.val (.int x0), .val (.int x1), .val (.int x2), .val (.int x3), .val (.int x4), .val (.ref b1), .val (.ref b20), .val (.int (3 : Int32)), .val (.int (4 : Int32)), .val (.ref b678), .unset] [(.ref b678)])) (fun t k => XS.aload X696.here hx rfl (hb hby at_108) rfl rfl k) ?_
      obtain ⟨cq705, kq705, q705a, q705b, q705c⟩ := isOf hZ e696 f702
      obtain ⟨_, _, ⟨T705, L705, k705, n705⟩, -, X705, ⟨Lc705, hQ705, l705, y705, z705⟩, st705⟩ := X696.virtualBack hx (y := (⟨"com/example/lookahead/lookahead/runtime/Token", "text", "()Ljava/lang/String;"⟩ : MethodName)) (z := (⟨"com/example/lookahead/lookahead/runtime/Token", "text", "()Ljava/lang/String;"⟩ : MethodName)) hown (mvT hZ (own_h hw 53 rfl)) (mvT hZ (own_h hw 54 rfl)) (notFace_of_selects (args := #[]) (mvT hZ (own_h hw 56 rfl))) (mvT hZ (own_h hw 56 rfl)) (mvT hZ (own_h hw 55 rfl)) (by decide) (backOf (W := 0) (rmTS l Z a0 hw [] b678 b20 (3 : Int32) (4 : Int32) b_27 kb_27 [(.int ((q0.toInt8.toInt32).toInt8.toInt32)), (.int ((q1.toInt8.toInt32).toInt8.toInt32)), (.int ((q2.toInt8.toInt32).toInt8.toInt32)), (.int ((q3.toInt8.toInt32).toInt8.toInt32))] cs fm h696 n0 Z704 O703 pq696_0 pq696_1 pq696_2 f698 f699 f700 f701 p_0 p_1 p_2 p_3 ⟨by decide, by decide, by decide⟩ (by decide)) hZ (own_h hw 57 rfl) (own_h hw 33 rfl) (by decide) (by decide)) q705a q705c (g := (mkF m 110 #[.val (.int x0), .val (.int x1), .val (.int x2), .val (.int x3), .val (.int x4), .val (.ref b1), .val (.ref b20), .val (.int (3 : Int32)), .val (.int (4 : Int32)), .val (.ref b678), .unset] [(.ref b678)])) rfl (by rw [hml]; rfl) (Steps.refl _) (argsL := []) (rest := []) (lenOf pd_7 rfl) rfl (by show 2 * 0 + _ ≤ _; exact Nat.le_of_eq rfl) (hb hby at_110) (fun _ _ => ⟨rfl, e696, (by decide : 4 + 2 ≤ _), (by decide : 18 + 8 ≤ _)⟩)
      dsimp only [Pt.U, Pt.locs, Pt.cells, Pt.slots] at X705 l705 y705 z705 st705 hQ705
      subst y705 z705
      obtain ⟨r_705, b_705, kb_705, vd_705, rfl, N705q, K705, pq705_0, pq705_1, pq705_2, pq705_3, pq705_4, pq705_5, pq705_6, pq705_7⟩ := hQ705
      have N705 := Fr.app N696 N705q
      rw [← l705] at N705
      clear l705
      obtain ⟨h705, e705⟩ : ∃ z, T705.heap = z := ⟨_, rfl⟩
      rw [e705] at K705 pq705_3 pq705_4 pq705_5 pq705_6
      have ne706 : b1 ≠ r_705 := Nat.ne_of_lt (Nat.lt_of_lt_of_le f697.lt pq705_0)
      have ne707 : b20 ≠ r_705 := Nat.ne_of_lt (Nat.lt_of_lt_of_le f698.lt pq705_0)
      have ne708 : b_27 ≠ r_705 := Nat.ne_of_lt (Nat.lt_of_lt_of_le f701.lt pq705_0)
      have ne709 : b678 ≠ r_705 := Nat.ne_of_lt (Nat.lt_of_lt_of_le f702.lt pq705_0)
      have g_r_705 : n0 ≤ r_705 := Nat.le_trans Z704 pq705_0
      have ne710 : b1 ≠ b_705 := Nat.ne_of_lt (Nat.lt_of_lt_of_le f697.lt pq705_1)
      have ne711 : b20 ≠ b_705 := Nat.ne_of_lt (Nat.lt_of_lt_of_le f698.lt pq705_1)
      have ne712 : b_27 ≠ b_705 := Nat.ne_of_lt (Nat.lt_of_lt_of_le f701.lt pq705_1)
      have ne713 : b678 ≠ b_705 := Nat.ne_of_lt (Nat.lt_of_lt_of_le f702.lt pq705_1)
      have g_b_705 : n0 ≤ b_705 := Nat.le_trans Z704 pq705_1
      have f714 := f697.keep K705 nin0
      have f715 := f698.keep K705
      have f716 := f699.keep K705 nin0
      have f717 := f700.keep K705 nin0
      have f718 := f701.keep K705 nin0
      have f719 := f702.keep K705
      have f720 := pq696_0.keep K705 nin0
      have f721 := pq696_1.keep K705 nin0
      have f722 := pq696_2.keep K705 nin0
      have O723 := O703.keep K705 all0
      have Z724 : n0 ≤ h705.size := Nat.le_trans Z704 K705.1
      refine own_stepW (st' := T705.setTop (mkF m 113 #[.val (.int x0), .val (.int x1), .val (.int x2), .val (.int x3), .val (.int x4), .val (.ref b1), .val (.ref b20), .val (.int (3 : Int32)), .val (.int (4 : Int32)), .val (.ref b678), .unset] [(.ref r_705)])) (fun t k => st705.trans k) ?_
      have hlen705 : (((3 : Int32) + ((4 : Int32) - (3 : Int32))) - (3 : Int32)) = (1 : Int32) := by decide
      rw [hlen705] at pq705_6
      refine own_stepW (st' := T705.setTop (mkF m 115 #[.val (.int x0), .val (.int x1), .val (.int x2), .val (.int x3), .val (.int x4), .val (.ref b1), .val (.ref b20), .val (.int (3 : Int32)), .val (.int (4 : Int32)), .val (.ref b678), .val (.ref r_705)] [])) (fun t k => XS.astore X705.here hx rfl (hb hby at_113) rfl rfl (l' := #[.val (.int x0), .val (.int x1), .val (.int x2), .val (.int x3), .val (.int x4), .val (.ref b1), .val (.ref b20), .val (.int (3 : Int32)), .val (.int (4 : Int32)), .val (.ref b678), .val (.ref r_705)]) rfl k) ?_
      refine own_stepW (st' := T705.setTop (mkF m 117 #[.val (.int x0), .val (.int x1), .val (.int x2), .val (.int x3), .val (.int x4), .val (.ref b1), .val (.ref b20), .val (.int (3 : Int32)), .val (.int (4 : Int32)), .val (.ref b678), .val (.ref r_705)] [(.ref r_705)])) (fun t k => XS.aload X705.here hx rfl (hb hby at_115) rfl rfl k) ?_
      refine own_stepW (st' := T705.setTop (mkF m 122 #[.val (.int x0), .val (.int x1), .val (.int x2), .val (.int x3), .val (.int x4), .val (.ref b1), .val (.ref b20), .val (.int (3 : Int32)), .val (.int (4 : Int32)), .val (.ref b678), .val (.ref r_705)] [])) (fun t k => XS.ifnonnullYes X705.here hx rfl (pc0 := 117) (pc' := 122) rfl (hb hby at_117) rfl (by decide) (by decide) k) ?_
      refine own_stepW (st' := T705.setTop (mkF m 124 #[.val (.int x0), .val (.int x1), .val (.int x2), .val (.int x3), .val (.int x4), .val (.ref b1), .val (.ref b20), .val (.int (3 : Int32)), .val (.int (4 : Int32)), .val (.ref b678), .val (.ref r_705)] [(.ref r_705)])) (fun t k => XS.aload X705.here hx rfl (hb hby at_122) rfl rfl k) ?_
      obtain ⟨cq725, kq725, q725a, q725b, q725c⟩ := isOf hZ e705 pq705_3
      obtain ⟨_, _, ⟨T725, L725, k725, n725⟩, -, X725, ⟨Lc725, hQ725, l725, y725, z725⟩, st725⟩ := X705.virtualBack hx (y := (⟨"java/lang/String", "length", "()I"⟩ : MethodName)) (z := (⟨"java/lang/String", "length", "()I"⟩ : MethodName)) hown (mvT hZ (own_h hw 93 rfl)) (mvT hZ (own_h hw 64 rfl)) (notFace_of_selects (args := #[]) (mvT hZ (own_h hw 66 rfl))) (mvT hZ (own_h hw 66 rfl)) (mvT hZ (own_h hw 65 rfl)) (by decide) (backOf (W := 0) (rm10 l Z a0 hw [] r_705 b_705 kb_705 (1 : Int32) vd_705 cs h705 n0 Z724 O723 pq705_3 pq705_4 pq705_5 pq705_6 p_0 p_1) hZ (own_h hw 67 rfl) (own_h hw 3 rfl) (by decide) (by decide)) q725a q725c (g := (mkF m 124 #[.val (.int x0), .val (.int x1), .val (.int x2), .val (.int x3), .val (.int x4), .val (.ref b1), .val (.ref b20), .val (.int (3 : Int32)), .val (.int (4 : Int32)), .val (.ref b678), .val (.ref r_705)] [(.ref r_705)])) rfl (by rw [hml]; rfl) (Steps.refl _) (argsL := []) (rest := []) (lenOf pd_9 rfl) rfl (by show 2 * 0 + _ ≤ _; exact Nat.le_of_eq rfl) (hb hby at_124) (fun _ _ => ⟨rfl, e705, (by decide : 6 + 0 ≤ _), (by decide : 26 + 0 ≤ _)⟩)
      dsimp only [Pt.U, Pt.locs, Pt.cells, Pt.slots] at X725 l725 y725 z725 st725 hQ725
      subst y725 z725
      obtain ⟨rfl, N725q, e725⟩ := hQ725
      have N725 := Fr.app N705 N725q
      rw [← l725] at N725
      clear l725
      refine own_stepW (st' := T725.setTop (mkF m 127 #[.val (.int x0), .val (.int x1), .val (.int x2), .val (.int x3), .val (.int x4), .val (.ref b1), .val (.ref b20), .val (.int (3 : Int32)), .val (.int (4 : Int32)), .val (.ref b678), .val (.ref r_705)] [(.int (1 : Int32))])) (fun t k => st725.trans k) ?_
      refine own_stepW (st' := T725.setTop (mkF m 129 #[.val (.int x0), .val (.int x1), .val (.int x2), .val (.int x3), .val (.int x4), .val (.ref b1), .val (.ref b20), .val (.int (3 : Int32)), .val (.int (4 : Int32)), .val (.ref b678), .val (.ref r_705)] [(.int (4 : Int32)), (.int (1 : Int32))])) (fun t k => XS.iload X725.here hx rfl (hb hby at_127) rfl k) ?_
      refine own_stepW (st' := T725.setTop (mkF m 131 #[.val (.int x0), .val (.int x1), .val (.int x2), .val (.int x3), .val (.int x4), .val (.ref b1), .val (.ref b20), .val (.int (3 : Int32)), .val (.int (4 : Int32)), .val (.ref b678), .val (.ref r_705)] [(.int (3 : Int32)), (.int (4 : Int32)), (.int (1 : Int32))])) (fun t k => XS.iload X725.here hx rfl (hb hby at_129) rfl k) ?_
      refine own_stepW (st' := T725.setTop (mkF m 132 #[.val (.int x0), .val (.int x1), .val (.int x2), .val (.int x3), .val (.int x4), .val (.ref b1), .val (.ref b20), .val (.int (3 : Int32)), .val (.int (4 : Int32)), .val (.ref b678), .val (.ref r_705)] [(.int (1 : Int32)), (.int (1 : Int32))])) (fun t k => XS.isub X725.here hx rfl (hb hby at_131) rfl k) ?_
      refine own_stepW (st' := T725.setTop (mkF m 137 #[.val (.int x0), .val (.int x1), .val (.int x2), .val (.int x3), .val (.int x4), .val (.ref b1), .val (.ref b20), .val (.int (3 : Int32)), .val (.int (4 : Int32)), .val (.ref b678), .val (.ref r_705)] [])) (fun t k => XS.icmpYes X725.here hx rfl (pc0 := 132) (pc' := 137) rfl (hb hby at_132) rfl (teq (by decide)).1 (by decide) (by decide) k) ?_
      refine own_stepW (st' := T725.setTop (mkF m 139 #[.val (.int x0), .val (.int x1), .val (.int x2), .val (.int x3), .val (.int x4), .val (.ref b1), .val (.ref b20), .val (.int (3 : Int32)), .val (.int (4 : Int32)), .val (.ref b678), .val (.ref r_705)] [(.ref r_705)])) (fun t k => XS.aload X725.here hx rfl (hb hby at_137) rfl rfl k) ?_
      refine own_stepW (st' := T725.setTop (mkF m 141 #[.val (.int x0), .val (.int x1), .val (.int x2), .val (.int x3), .val (.int x4), .val (.ref b1), .val (.ref b20), .val (.int (3 : Int32)), .val (.int (4 : Int32)), .val (.ref b678), .val (.ref r_705)] [(.ref b1), (.ref r_705)])) (fun t k => XS.aload X725.here hx rfl (hb hby at_139) rfl rfl k) ?_
      refine own_stepW (st' := T725.setTop (mkF m 143 #[.val (.int x0), .val (.int x1), .val (.int x2), .val (.int x3), .val (.int x4), .val (.ref b1), .val (.ref b20), .val (.int (3 : Int32)), .val (.int (4 : Int32)), .val (.ref b678), .val (.ref r_705)] [(.int (3 : Int32)), (.ref b1), (.ref r_705)])) (fun t k => XS.iload X725.here hx rfl (hb hby at_141) rfl k) ?_
      refine own_stepW (st' := T725.setTop (mkF m 145 #[.val (.int x0), .val (.int x1), .val (.int x2), .val (.int x3), .val (.int x4), .val (.ref b1), .val (.ref b20), .val (.int (3 : Int32)), .val (.int (4 : Int32)), .val (.ref b678), .val (.ref r_705)] [(.int (4 : Int32)), (.int (3 : Int32)), (.ref b1), (.ref r_705)])) (fun t k => XS.iload X725.here hx rfl (hb hby at_143) rfl k) ?_
      refine own_stepW (st' := T725.setTop (mkF m 146 #[.val (.int x0), .val (.int x1), .val (.int x2), .val (.int x3), .val (.int x4), .val (.ref b1), .val (.ref b20), .val (.int (3 : Int32)), .val (.int (4 : Int32)), .val (.ref b678), .val (.ref r_705)] [(.int (0 : Int32)), (.int (4 : Int32)), (.int (3 : Int32)), (.ref b1), (.ref r_705)])) (fun t k => XS.iconst X725.here hx rfl (hb hby at_145) k) ?_
      obtain ⟨_, _, ⟨T726, L726, k726, n726⟩, -, X726, ⟨Lc726, hQ726, l726, y726, z726⟩, st726⟩ := Jvm.LawKit.callS X725 hx (y := (⟨"com/example/lookahead/lookahead/runtime/TokenTextPinLaw", "charOk", "(Ljava/lang/String;[CIII)Z"⟩ : MethodName)) hown (mvT hZ (own_h hw 94 rfl)) (mvT hZ (own_h hw 95 rfl)) (mvT hZ (own_h hw 96 rfl)) (mvT hZ (own_h hw 97 rfl)) (by decide) (backOf (W := 0) (rmK2 l Z a0 hw [] r_705 b1 (3 : Int32) (4 : Int32) (0 : Int32) b_705 kb_705 (1 : Int32) vd_705 k1 [(.int q0), (.int q1), (.int q2), (.int q3)] ((q3.toInt8.toInt32).toInt8.toInt32) q3 cs fm h705 n0 Z724 O723 pq705_3 pq705_4 pq705_5 pq705_6 f714 (by decide) (by decide) (by decide) ((pq705_7 _).trans rfl) (own_byte b_q3) (own_nc b_q3) ⟨by decide, by decide⟩ rfl p_0 p_1 p_2 p_3) hZ (own_h hw 97 rfl) (own_h hw 96 rfl) (by decide) (by decide)) (g := (mkF m 146 #[.val (.int x0), .val (.int x1), .val (.int x2), .val (.int x3), .val (.int x4), .val (.ref b1), .val (.ref b20), .val (.int (3 : Int32)), .val (.int (4 : Int32)), .val (.ref b678), .val (.ref r_705)] [(.int (0 : Int32)), (.int (4 : Int32)), (.int (3 : Int32)), (.ref b1), (.ref r_705)])) rfl (by rw [hml]; rfl) (argsL := [(.ref r_705), (.ref b1), (.int (3 : Int32)), (.int (4 : Int32)), (.int (0 : Int32))]) (rest := []) (lenOf pd_15 rfl) rfl (by show 2 * 0 + _ ≤ _; exact Nat.le_of_eq rfl) (hb hby at_146) (fun _ _ => ⟨rfl, e725, (by decide : 6 + 0 ≤ _), (by decide : 26 + 0 ≤ _)⟩)
      dsimp only [Pt.U, Pt.locs, Pt.cells, Pt.slots] at X726 l726 y726 z726 st726 hQ726
      subst y726 z726
      obtain ⟨rfl, N726q, e726⟩ := hQ726
      have N726 := Fr.app N725 N726q
      rw [← l726] at N726
      clear l726
      refine own_stepW (st' := T726.setTop (mkF m 149 #[.val (.int x0), .val (.int x1), .val (.int x2), .val (.int x3), .val (.int x4), .val (.ref b1), .val (.ref b20), .val (.int (3 : Int32)), .val (.int (4 : Int32)), .val (.ref b678), .val (.ref r_705)] [(.int (1 : Int32))])) st726 ?_
      refine own_stepW (st' := T726.setTop (mkF m 152 #[.val (.int x0), .val (.int x1), .val (.int x2), .val (.int x3), .val (.int x4), .val (.ref b1), .val (.ref b20), .val (.int (3 : Int32)), .val (.int (4 : Int32)), .val (.ref b678), .val (.ref r_705)] [])) (fun t k => XS.ifNo X726.here hx rfl (hb hby at_149) rfl ((if0 _ _).trans (feq (by decide)).1) k) ?_
      refine own_stepW (st' := T726.setTop (mkF m 154 #[.val (.int x0), .val (.int x1), .val (.int x2), .val (.int x3), .val (.int x4), .val (.ref b1), .val (.ref b20), .val (.int (3 : Int32)), .val (.int (4 : Int32)), .val (.ref b678), .val (.ref r_705)] [(.ref r_705)])) (fun t k => XS.aload X726.here hx rfl (hb hby at_152) rfl rfl k) ?_
      refine own_stepW (st' := T726.setTop (mkF m 156 #[.val (.int x0), .val (.int x1), .val (.int x2), .val (.int x3), .val (.int x4), .val (.ref b1), .val (.ref b20), .val (.int (3 : Int32)), .val (.int (4 : Int32)), .val (.ref b678), .val (.ref r_705)] [(.ref b1), (.ref r_705)])) (fun t k => XS.aload X726.here hx rfl (hb hby at_154) rfl rfl k) ?_
      refine own_stepW (st' := T726.setTop (mkF m 158 #[.val (.int x0), .val (.int x1), .val (.int x2), .val (.int x3), .val (.int x4), .val (.ref b1), .val (.ref b20), .val (.int (3 : Int32)), .val (.int (4 : Int32)), .val (.ref b678), .val (.ref r_705)] [(.int (3 : Int32)), (.ref b1), (.ref r_705)])) (fun t k => XS.iload X726.here hx rfl (hb hby at_156) rfl k) ?_
      refine own_stepW (st' := T726.setTop (mkF m 160 #[.val (.int x0), .val (.int x1), .val (.int x2), .val (.int x3), .val (.int x4), .val (.ref b1), .val (.ref b20), .val (.int (3 : Int32)), .val (.int (4 : Int32)), .val (.ref b678), .val (.ref r_705)] [(.int (4 : Int32)), (.int (3 : Int32)), (.ref b1), (.ref r_705)])) (fun t k => XS.iload X726.here hx rfl (hb hby at_158) rfl k) ?_
      refine own_stepW (st' := T726.setTop (mkF m 161 #[.val (.int x0), .val (.int x1), .val (.int x2), .val (.int x3), .val (.int x4), .val (.ref b1), .val (.ref b20), .val (.int (3 : Int32)), .val (.int (4 : Int32)), .val (.ref b678), .val (.ref r_705)] [(.int (1 : Int32)), (.int (4 : Int32)), (.int (3 : Int32)), (.ref b1), (.ref r_705)])) (fun t k => XS.iconst X726.here hx rfl (hb hby at_160) k) ?_
      obtain ⟨_, _, ⟨T727, L727, k727, n727⟩, -, X727, ⟨Lc727, hQ727, l727, y727, z727⟩, st727⟩ := Jvm.LawKit.callS X726 hx (y := (⟨"com/example/lookahead/lookahead/runtime/TokenTextPinLaw", "charOk", "(Ljava/lang/String;[CIII)Z"⟩ : MethodName)) hown (mvT hZ (own_h hw 94 rfl)) (mvT hZ (own_h hw 95 rfl)) (mvT hZ (own_h hw 96 rfl)) (mvT hZ (own_h hw 97 rfl)) (by decide) (backOf (W := 0) (rmK1 l Z a0 hw [] r_705 b1 (3 : Int32) (4 : Int32) (1 : Int32) h705 n0 Z724 (by decide)) hZ (own_h hw 97 rfl) (own_h hw 96 rfl) (by decide) (by decide)) (g := (mkF m 161 #[.val (.int x0), .val (.int x1), .val (.int x2), .val (.int x3), .val (.int x4), .val (.ref b1), .val (.ref b20), .val (.int (3 : Int32)), .val (.int (4 : Int32)), .val (.ref b678), .val (.ref r_705)] [(.int (1 : Int32)), (.int (4 : Int32)), (.int (3 : Int32)), (.ref b1), (.ref r_705)])) rfl (by rw [hml]; rfl) (argsL := [(.ref r_705), (.ref b1), (.int (3 : Int32)), (.int (4 : Int32)), (.int (1 : Int32))]) (rest := []) (lenOf pd_15 rfl) rfl (by show 2 * 0 + _ ≤ _; exact Nat.le_of_eq rfl) (hb hby at_161) (fun _ _ => ⟨rfl, e726, (by decide : 6 + 0 ≤ _), (by decide : 26 + 0 ≤ _)⟩)
      dsimp only [Pt.U, Pt.locs, Pt.cells, Pt.slots] at X727 l727 y727 z727 st727 hQ727
      subst y727 z727
      obtain ⟨rfl, N727q, e727⟩ := hQ727
      have N727 := Fr.app N726 N727q
      rw [← l727] at N727
      clear l727
      refine own_stepW (st' := T727.setTop (mkF m 164 #[.val (.int x0), .val (.int x1), .val (.int x2), .val (.int x3), .val (.int x4), .val (.ref b1), .val (.ref b20), .val (.int (3 : Int32)), .val (.int (4 : Int32)), .val (.ref b678), .val (.ref r_705)] [(.int (1 : Int32))])) st727 ?_
      refine own_stepW (st' := T727.setTop (mkF m 167 #[.val (.int x0), .val (.int x1), .val (.int x2), .val (.int x3), .val (.int x4), .val (.ref b1), .val (.ref b20), .val (.int (3 : Int32)), .val (.int (4 : Int32)), .val (.ref b678), .val (.ref r_705)] [])) (fun t k => XS.ifNo X727.here hx rfl (hb hby at_164) rfl ((if0 _ _).trans (feq (by decide)).1) k) ?_
      refine own_stepW (st' := T727.setTop (mkF m 169 #[.val (.int x0), .val (.int x1), .val (.int x2), .val (.int x3), .val (.int x4), .val (.ref b1), .val (.ref b20), .val (.int (3 : Int32)), .val (.int (4 : Int32)), .val (.ref b678), .val (.ref r_705)] [(.ref r_705)])) (fun t k => XS.aload X727.here hx rfl (hb hby at_167) rfl rfl k) ?_
      refine own_stepW (st' := T727.setTop (mkF m 171 #[.val (.int x0), .val (.int x1), .val (.int x2), .val (.int x3), .val (.int x4), .val (.ref b1), .val (.ref b20), .val (.int (3 : Int32)), .val (.int (4 : Int32)), .val (.ref b678), .val (.ref r_705)] [(.ref b1), (.ref r_705)])) (fun t k => XS.aload X727.here hx rfl (hb hby at_169) rfl rfl k) ?_
      refine own_stepW (st' := T727.setTop (mkF m 173 #[.val (.int x0), .val (.int x1), .val (.int x2), .val (.int x3), .val (.int x4), .val (.ref b1), .val (.ref b20), .val (.int (3 : Int32)), .val (.int (4 : Int32)), .val (.ref b678), .val (.ref r_705)] [(.int (3 : Int32)), (.ref b1), (.ref r_705)])) (fun t k => XS.iload X727.here hx rfl (hb hby at_171) rfl k) ?_
      refine own_stepW (st' := T727.setTop (mkF m 175 #[.val (.int x0), .val (.int x1), .val (.int x2), .val (.int x3), .val (.int x4), .val (.ref b1), .val (.ref b20), .val (.int (3 : Int32)), .val (.int (4 : Int32)), .val (.ref b678), .val (.ref r_705)] [(.int (4 : Int32)), (.int (3 : Int32)), (.ref b1), (.ref r_705)])) (fun t k => XS.iload X727.here hx rfl (hb hby at_173) rfl k) ?_
      refine own_stepW (st' := T727.setTop (mkF m 176 #[.val (.int x0), .val (.int x1), .val (.int x2), .val (.int x3), .val (.int x4), .val (.ref b1), .val (.ref b20), .val (.int (3 : Int32)), .val (.int (4 : Int32)), .val (.ref b678), .val (.ref r_705)] [(.int (2 : Int32)), (.int (4 : Int32)), (.int (3 : Int32)), (.ref b1), (.ref r_705)])) (fun t k => XS.iconst X727.here hx rfl (hb hby at_175) k) ?_
      obtain ⟨_, _, ⟨T728, L728, k728, n728⟩, -, X728, ⟨Lc728, hQ728, l728, y728, z728⟩, st728⟩ := Jvm.LawKit.callS X727 hx (y := (⟨"com/example/lookahead/lookahead/runtime/TokenTextPinLaw", "charOk", "(Ljava/lang/String;[CIII)Z"⟩ : MethodName)) hown (mvT hZ (own_h hw 94 rfl)) (mvT hZ (own_h hw 95 rfl)) (mvT hZ (own_h hw 96 rfl)) (mvT hZ (own_h hw 97 rfl)) (by decide) (backOf (W := 0) (rmK1 l Z a0 hw [] r_705 b1 (3 : Int32) (4 : Int32) (2 : Int32) h705 n0 Z724 (by decide)) hZ (own_h hw 97 rfl) (own_h hw 96 rfl) (by decide) (by decide)) (g := (mkF m 176 #[.val (.int x0), .val (.int x1), .val (.int x2), .val (.int x3), .val (.int x4), .val (.ref b1), .val (.ref b20), .val (.int (3 : Int32)), .val (.int (4 : Int32)), .val (.ref b678), .val (.ref r_705)] [(.int (2 : Int32)), (.int (4 : Int32)), (.int (3 : Int32)), (.ref b1), (.ref r_705)])) rfl (by rw [hml]; rfl) (argsL := [(.ref r_705), (.ref b1), (.int (3 : Int32)), (.int (4 : Int32)), (.int (2 : Int32))]) (rest := []) (lenOf pd_15 rfl) rfl (by show 2 * 0 + _ ≤ _; exact Nat.le_of_eq rfl) (hb hby at_176) (fun _ _ => ⟨rfl, e727, (by decide : 6 + 0 ≤ _), (by decide : 26 + 0 ≤ _)⟩)
      dsimp only [Pt.U, Pt.locs, Pt.cells, Pt.slots] at X728 l728 y728 z728 st728 hQ728
      subst y728 z728
      obtain ⟨rfl, N728q, e728⟩ := hQ728
      have N728 := Fr.app N727 N728q
      rw [← l728] at N728
      clear l728
      refine own_stepW (st' := T728.setTop (mkF m 179 #[.val (.int x0), .val (.int x1), .val (.int x2), .val (.int x3), .val (.int x4), .val (.ref b1), .val (.ref b20), .val (.int (3 : Int32)), .val (.int (4 : Int32)), .val (.ref b678), .val (.ref r_705)] [(.int (1 : Int32))])) st728 ?_
      refine own_stepW (st' := T728.setTop (mkF m 182 #[.val (.int x0), .val (.int x1), .val (.int x2), .val (.int x3), .val (.int x4), .val (.ref b1), .val (.ref b20), .val (.int (3 : Int32)), .val (.int (4 : Int32)), .val (.ref b678), .val (.ref r_705)] [])) (fun t k => XS.ifNo X728.here hx rfl (hb hby at_179) rfl ((if0 _ _).trans (feq (by decide)).1) k) ?_
      refine own_stepW (st' := T728.setTop (mkF m 184 #[.val (.int x0), .val (.int x1), .val (.int x2), .val (.int x3), .val (.int x4), .val (.ref b1), .val (.ref b20), .val (.int (3 : Int32)), .val (.int (4 : Int32)), .val (.ref b678), .val (.ref r_705)] [(.ref r_705)])) (fun t k => XS.aload X728.here hx rfl (hb hby at_182) rfl rfl k) ?_
      refine own_stepW (st' := T728.setTop (mkF m 186 #[.val (.int x0), .val (.int x1), .val (.int x2), .val (.int x3), .val (.int x4), .val (.ref b1), .val (.ref b20), .val (.int (3 : Int32)), .val (.int (4 : Int32)), .val (.ref b678), .val (.ref r_705)] [(.ref b1), (.ref r_705)])) (fun t k => XS.aload X728.here hx rfl (hb hby at_184) rfl rfl k) ?_
      refine own_stepW (st' := T728.setTop (mkF m 188 #[.val (.int x0), .val (.int x1), .val (.int x2), .val (.int x3), .val (.int x4), .val (.ref b1), .val (.ref b20), .val (.int (3 : Int32)), .val (.int (4 : Int32)), .val (.ref b678), .val (.ref r_705)] [(.int (3 : Int32)), (.ref b1), (.ref r_705)])) (fun t k => XS.iload X728.here hx rfl (hb hby at_186) rfl k) ?_
      refine own_stepW (st' := T728.setTop (mkF m 190 #[.val (.int x0), .val (.int x1), .val (.int x2), .val (.int x3), .val (.int x4), .val (.ref b1), .val (.ref b20), .val (.int (3 : Int32)), .val (.int (4 : Int32)), .val (.ref b678), .val (.ref r_705)] [(.int (4 : Int32)), (.int (3 : Int32)), (.ref b1), (.ref r_705)])) (fun t k => XS.iload X728.here hx rfl (hb hby at_188) rfl k) ?_
      refine own_stepW (st' := T728.setTop (mkF m 191 #[.val (.int x0), .val (.int x1), .val (.int x2), .val (.int x3), .val (.int x4), .val (.ref b1), .val (.ref b20), .val (.int (3 : Int32)), .val (.int (4 : Int32)), .val (.ref b678), .val (.ref r_705)] [(.int (3 : Int32)), (.int (4 : Int32)), (.int (3 : Int32)), (.ref b1), (.ref r_705)])) (fun t k => XS.iconst X728.here hx rfl (hb hby at_190) k) ?_
      obtain ⟨_, _, ⟨T729, L729, k729, n729⟩, -, X729, ⟨Lc729, hQ729, l729, y729, z729⟩, st729⟩ := Jvm.LawKit.callS X728 hx (y := (⟨"com/example/lookahead/lookahead/runtime/TokenTextPinLaw", "charOk", "(Ljava/lang/String;[CIII)Z"⟩ : MethodName)) hown (mvT hZ (own_h hw 94 rfl)) (mvT hZ (own_h hw 95 rfl)) (mvT hZ (own_h hw 96 rfl)) (mvT hZ (own_h hw 97 rfl)) (by decide) (backOf (W := 0) (rmK1 l Z a0 hw [] r_705 b1 (3 : Int32) (4 : Int32) (3 : Int32) h705 n0 Z724 (by decide)) hZ (own_h hw 97 rfl) (own_h hw 96 rfl) (by decide) (by decide)) (g := (mkF m 191 #[.val (.int x0), .val (.int x1), .val (.int x2), .val (.int x3), .val (.int x4), .val (.ref b1), .val (.ref b20), .val (.int (3 : Int32)), .val (.int (4 : Int32)), .val (.ref b678), .val (.ref r_705)] [(.int (3 : Int32)), (.int (4 : Int32)), (.int (3 : Int32)), (.ref b1), (.ref r_705)])) rfl (by rw [hml]; rfl) (argsL := [(.ref r_705), (.ref b1), (.int (3 : Int32)), (.int (4 : Int32)), (.int (3 : Int32))]) (rest := []) (lenOf pd_15 rfl) rfl (by show 2 * 0 + _ ≤ _; exact Nat.le_of_eq rfl) (hb hby at_191) (fun _ _ => ⟨rfl, e728, (by decide : 6 + 0 ≤ _), (by decide : 26 + 0 ≤ _)⟩)
      dsimp only [Pt.U, Pt.locs, Pt.cells, Pt.slots] at X729 l729 y729 z729 st729 hQ729
      subst y729 z729
      obtain ⟨rfl, N729q, e729⟩ := hQ729
      have N729 := Fr.app N728 N729q
      rw [← l729] at N729
      clear l729
      refine own_stepW (st' := T729.setTop (mkF m 194 #[.val (.int x0), .val (.int x1), .val (.int x2), .val (.int x3), .val (.int x4), .val (.ref b1), .val (.ref b20), .val (.int (3 : Int32)), .val (.int (4 : Int32)), .val (.ref b678), .val (.ref r_705)] [(.int (1 : Int32))])) st729 ?_
      refine own_stepW (st' := T729.setTop (mkF m 197 #[.val (.int x0), .val (.int x1), .val (.int x2), .val (.int x3), .val (.int x4), .val (.ref b1), .val (.ref b20), .val (.int (3 : Int32)), .val (.int (4 : Int32)), .val (.ref b678), .val (.ref r_705)] [])) (fun t k => XS.ifNo X729.here hx rfl (hb hby at_194) rfl ((if0 _ _).trans (feq (by decide)).1) k) ?_
      refine own_stepW (st' := T729.setTop (mkF m 198 #[.val (.int x0), .val (.int x1), .val (.int x2), .val (.int x3), .val (.int x4), .val (.ref b1), .val (.ref b20), .val (.int (3 : Int32)), .val (.int (4 : Int32)), .val (.ref b678), .val (.ref r_705)] [(.int (1 : Int32))])) (fun t k => XS.iconst X729.here hx rfl (hb hby at_197) k) ?_
      refine own_stepW (st' := T729.setTop (mkF m 202 #[.val (.int x0), .val (.int x1), .val (.int x2), .val (.int x3), .val (.int x4), .val (.ref b1), .val (.ref b20), .val (.int (3 : Int32)), .val (.int (4 : Int32)), .val (.ref b678), .val (.ref r_705)] [(.int (1 : Int32))])) (fun t k => XS.goto X729.here hx rfl (pc0 := 198) (pc' := 202) rfl (hb hby at_198) (by decide) (by decide) k) ?_
      refine own_toW <| own_ret X729 Bd.notSynchronized (some (.int (1 : Int32))) (fun h => by rw [Bd.returns] at h; cases h) (fun fs hr => retN X729 hx (t := .boolean) Bd.returns (by simp) (hb hby at_202) hr) ?_ (by decide) (by decide)
      rw [e729]
      exact ⟨rfl, N729⟩
  · rw [hn38]
    refine own_stepW (st' := T27.setTop (mkF m 73 #[.val (.int x0), .val (.int x1), .val (.int x2), .val (.int x3), .val (.int x4), .val (.ref b1), .val (.ref b20), .val (.int (4 : Int32)), .unset, .unset, .unset] [])) (fun t k => XS.istore X27.here hx rfl (hb hby at_71) rfl (l' := #[.val (.int x0), .val (.int x1), .val (.int x2), .val (.int x3), .val (.int x4), .val (.ref b1), .val (.ref b20), .val (.int (4 : Int32)), .unset, .unset, .unset]) rfl k) ?_
    refine own_stepW (st' := T27.setTop (mkF m 75 #[.val (.int x0), .val (.int x1), .val (.int x2), .val (.int x3), .val (.int x4), .val (.ref b1), .val (.ref b20), .val (.int (4 : Int32)), .unset, .unset, .unset] [(.int (4 : Int32))])) (fun t k => XS.iload X27.here hx rfl (hb hby at_73) rfl k) ?_
    refine own_stepW (st' := T27.setTop (mkF m 76 #[.val (.int x0), .val (.int x1), .val (.int x2), .val (.int x3), .val (.int x4), .val (.ref b1), .val (.ref b20), .val (.int (4 : Int32)), .unset, .unset, .unset] [(.int x2), (.int (4 : Int32))])) (fun t k => XS.iloadN X27.here hx rfl (hb hby at_75) rfl k) ?_
    refine own_stepW (st' := T27.setTop (mkF m 78 #[.val (.int x0), .val (.int x1), .val (.int x2), .val (.int x3), .val (.int x4), .val (.ref b1), .val (.ref b20), .val (.int (4 : Int32)), .unset, .unset, .unset] [(.int (2147483647 : Int32)), (.int x2), (.int (4 : Int32))])) (fun t k => X27.ldcInt hx hown (mvT hZ (own_h hw 30 rfl)) (g := (mkF m 76 #[.val (.int x0), .val (.int x1), .val (.int x2), .val (.int x3), .val (.int x4), .val (.ref b1), .val (.ref b20), .val (.int (4 : Int32)), .unset, .unset, .unset] [(.int x2), (.int (4 : Int32))])) rfl (hb hby at_76) t k) ?_
    refine own_stepW (st' := T27.setTop (mkF m 79 #[.val (.int x0), .val (.int x1), .val (.int x2), .val (.int x3), .val (.int x4), .val (.ref b1), .val (.ref b20), .val (.int (4 : Int32)), .unset, .unset, .unset] [(.int (x2 &&& (2147483647 : Int32))), (.int (4 : Int32))])) (fun t k => XS.iand X27.here hx rfl (hb hby at_78) rfl k) ?_
    refine own_stepW (st' := T27.setTop (mkF m 80 #[.val (.int x0), .val (.int x1), .val (.int x2), .val (.int x3), .val (.int x4), .val (.ref b1), .val (.ref b20), .val (.int (4 : Int32)), .unset, .unset, .unset] [(.int (5 : Int32)), (.int (x2 &&& (2147483647 : Int32))), (.int (4 : Int32))])) (fun t k => XS.iconst X27.here hx rfl (hb hby at_79) k) ?_
    refine own_stepW (st' := T27.setTop (mkF m 82 #[.val (.int x0), .val (.int x1), .val (.int x2), .val (.int x3), .val (.int x4), .val (.ref b1), .val (.ref b20), .val (.int (4 : Int32)), .unset, .unset, .unset] [(.int (4 : Int32)), (.int (5 : Int32)), (.int (x2 &&& (2147483647 : Int32))), (.int (4 : Int32))])) (fun t k => XS.iload X27.here hx rfl (hb hby at_80) rfl k) ?_
    refine own_stepW (st' := T27.setTop (mkF m 83 #[.val (.int x0), .val (.int x1), .val (.int x2), .val (.int x3), .val (.int x4), .val (.ref b1), .val (.ref b20), .val (.int (4 : Int32)), .unset, .unset, .unset] [(.int (1 : Int32)), (.int (x2 &&& (2147483647 : Int32))), (.int (4 : Int32))])) (fun t k => XS.isub X27.here hx rfl (hb hby at_82) rfl k) ?_
    refine own_stepW (st' := T27.setTop (mkF m 84 #[.val (.int x0), .val (.int x1), .val (.int x2), .val (.int x3), .val (.int x4), .val (.ref b1), .val (.ref b20), .val (.int (4 : Int32)), .unset, .unset, .unset] [(.int ((x2 &&& (2147483647 : Int32)) % (1 : Int32))), (.int (4 : Int32))])) (fun t k => iremM (g := (mkF m 83 #[.val (.int x0), .val (.int x1), .val (.int x2), .val (.int x3), .val (.int x4), .val (.ref b1), .val (.ref b20), .val (.int (4 : Int32)), .unset, .unset, .unset] [(.int (1 : Int32)), (.int (x2 &&& (2147483647 : Int32))), (.int (4 : Int32))])) X27 hx rfl (hb hby at_83) rfl (by decide) k) ?_
    have hn730 := own_s1 x2
    rw [hn730]
    refine own_stepW (st' := T27.setTop (mkF m 85 #[.val (.int x0), .val (.int x1), .val (.int x2), .val (.int x3), .val (.int x4), .val (.ref b1), .val (.ref b20), .val (.int (4 : Int32)), .unset, .unset, .unset] [(.int (4 : Int32))])) (fun t k => XS.iadd X27.here hx rfl (hb hby at_84) rfl k) ?_
    refine own_stepW (st' := T27.setTop (mkF m 87 #[.val (.int x0), .val (.int x1), .val (.int x2), .val (.int x3), .val (.int x4), .val (.ref b1), .val (.ref b20), .val (.int (4 : Int32)), .val (.int (4 : Int32)), .unset, .unset] [])) (fun t k => XS.istore X27.here hx rfl (hb hby at_85) rfl (l' := #[.val (.int x0), .val (.int x1), .val (.int x2), .val (.int x3), .val (.int x4), .val (.ref b1), .val (.ref b20), .val (.int (4 : Int32)), .val (.int (4 : Int32)), .unset, .unset]) rfl k) ?_
    obtain ⟨T731, h731, X731, e731, E731, A731, D731, -, st731⟩ := newO X27 hx hZ hown (own_h hw 31 rfl) (own_h hw 32 rfl) (own_h hw 33 rfl) e27 (g := (mkF m 87 #[.val (.int x0), .val (.int x1), .val (.int x2), .val (.int x3), .val (.int x4), .val (.ref b1), .val (.ref b20), .val (.int (4 : Int32)), .val (.int (4 : Int32)), .unset, .unset] [])) rfl (hb hby at_87) (by decide) (by decide)
    obtain ⟨b731, g731⟩ : ∃ z, z = h27.size := ⟨_, rfl⟩
    rw [← g731] at A731 D731 st731
    have ne732 : b1 ≠ b731 := Nat.ne_of_lt (Nat.lt_of_lt_of_le f30.lt (Nat.le_of_eq g731.symm))
    have ne733 : b20 ≠ b731 := Nat.ne_of_lt (Nat.lt_of_lt_of_le f31.lt (Nat.le_of_eq g731.symm))
    have ne734 : b_27 ≠ b731 := Nat.ne_of_lt (Nat.lt_of_lt_of_le pq27_3.lt (Nat.le_of_eq g731.symm))
    have g_b731 : n0 ≤ b731 := Nat.le_trans Z33 (Nat.le_of_eq g731.symm)
    have f735 := f30.ext E731
    have f736 := f31.ext E731
    have f737 := pq27_1.ext E731
    have f738 := pq27_2.ext E731
    have f739 := pq27_3.ext E731
    have O740 := O32.ext E731
    have Z741 : n0 ≤ h731.size := Nat.le_trans Z33 E731.1
    have f742 : Fld Z h731 b731 "com/example/lookahead/lookahead/runtime/Token" "terminal" "Lcom/example/lookahead/lookahead/core/Terminal;" .null := D731 (Or.inr (own_h hw 42 rfl)) (ty := (.object "com/example/lookahead/lookahead/core/Terminal")) (by decide)
    have f743 : Fld Z h731 b731 "com/example/lookahead/lookahead/runtime/Token" "input" "Ljava/lang/String;" .null := D731 (Or.inr (own_h hw 44 rfl)) (ty := (.object "java/lang/String")) (by decide)
    have f744 : Fld Z h731 b731 "com/example/lookahead/lookahead/runtime/Token" "start" "I" (.int (0 : Int32)) := D731 (Or.inr (own_h hw 46 rfl)) (ty := .int) (by decide)
    have f745 : Fld Z h731 b731 "com/example/lookahead/lookahead/runtime/Token" "end" "I" (.int (0 : Int32)) := D731 (Or.inr (own_h hw 48 rfl)) (ty := .int) (by decide)
    have f746 : Fld Z h731 b731 "com/example/lookahead/lookahead/runtime/Token" "line" "I" (.int (0 : Int32)) := D731 (Or.inr (own_h hw 50 rfl)) (ty := .int) (by decide)
    have f747 : Fld Z h731 b731 "com/example/lookahead/lookahead/runtime/Token" "column" "I" (.int (0 : Int32)) := D731 (Or.inr (own_h hw 52 rfl)) (ty := .int) (by decide)
    refine own_stepW (st' := T731.setTop (mkF m 90 #[.val (.int x0), .val (.int x1), .val (.int x2), .val (.int x3), .val (.int x4), .val (.ref b1), .val (.ref b20), .val (.int (4 : Int32)), .val (.int (4 : Int32)), .unset, .unset] [(.ref b731)])) st731 ?_
    refine own_stepW (st' := T731.setTop (mkF m 91 #[.val (.int x0), .val (.int x1), .val (.int x2), .val (.int x3), .val (.int x4), .val (.ref b1), .val (.ref b20), .val (.int (4 : Int32)), .val (.int (4 : Int32)), .unset, .unset] [(.ref b731), (.ref b731)])) (fun t k => XS.dup X731.here hx rfl (hb hby at_90) rfl rfl k) ?_
    obtain ⟨T748, X748, e748, st748⟩ := getS2 X731 hx hZ hown (host := "") (Or.inl (own_h hw 34 rfl)) Via.refl e731 (p_4.ext O740.2) (g := (mkF m 91 #[.val (.int x0), .val (.int x1), .val (.int x2), .val (.int x3), .val (.int x4), .val (.ref b1), .val (.ref b20), .val (.int (4 : Int32)), .val (.int (4 : Int32)), .unset, .unset] [(.ref b731), (.ref b731)])) rfl (hb hby at_91)
    refine own_stepW (st' := T748.setTop (mkF m 94 #[.val (.int x0), .val (.int x1), .val (.int x2), .val (.int x3), .val (.int x4), .val (.ref b1), .val (.ref b20), .val (.int (4 : Int32)), .val (.int (4 : Int32)), .unset, .unset] [(.ref tm), (.ref b731), (.ref b731)])) st748 ?_
    refine own_stepW (st' := T748.setTop (mkF m 96 #[.val (.int x0), .val (.int x1), .val (.int x2), .val (.int x3), .val (.int x4), .val (.ref b1), .val (.ref b20), .val (.int (4 : Int32)), .val (.int (4 : Int32)), .unset, .unset] [(.ref b20), (.ref tm), (.ref b731), (.ref b731)])) (fun t k => XS.aload X748.here hx rfl (hb hby at_94) rfl rfl k) ?_
    refine own_stepW (st' := T748.setTop (mkF m 98 #[.val (.int x0), .val (.int x1), .val (.int x2), .val (.int x3), .val (.int x4), .val (.ref b1), .val (.ref b20), .val (.int (4 : Int32)), .val (.int (4 : Int32)), .unset, .unset] [(.int (4 : Int32)), (.ref b20), (.ref tm), (.ref b731), (.ref b731)])) (fun t k => XS.iload X748.here hx rfl (hb hby at_96) rfl k) ?_
    refine own_stepW (st' := T748.setTop (mkF m 100 #[.val (.int x0), .val (.int x1), .val (.int x2), .val (.int x3), .val (.int x4), .val (.ref b1), .val (.ref b20), .val (.int (4 : Int32)), .val (.int (4 : Int32)), .unset, .unset] [(.int (4 : Int32)), (.int (4 : Int32)), (.ref b20), (.ref tm), (.ref b731), (.ref b731)])) (fun t k => XS.iload X748.here hx rfl (hb hby at_98) rfl k) ?_
    refine own_stepW (st' := T748.setTop (mkF m 101 #[.val (.int x0), .val (.int x1), .val (.int x2), .val (.int x3), .val (.int x4), .val (.ref b1), .val (.ref b20), .val (.int (4 : Int32)), .val (.int (4 : Int32)), .unset, .unset] [(.int x3), (.int (4 : Int32)), (.int (4 : Int32)), (.ref b20), (.ref tm), (.ref b731), (.ref b731)])) (fun t k => XS.iloadN X748.here hx rfl (hb hby at_100) rfl k) ?_
    refine own_stepW (st' := T748.setTop (mkF m 103 #[.val (.int x0), .val (.int x1), .val (.int x2), .val (.int x3), .val (.int x4), .val (.ref b1), .val (.ref b20), .val (.int (4 : Int32)), .val (.int (4 : Int32)), .unset, .unset] [(.int x4), (.int x3), (.int (4 : Int32)), (.int (4 : Int32)), (.ref b20), (.ref tm), (.ref b731), (.ref b731)])) (fun t k => XS.iload X748.here hx rfl (hb hby at_101) rfl k) ?_
    obtain ⟨_, _, ⟨T749, L749, k749, n749⟩, -, X749, ⟨Lc749, hQ749, l749, y749, z749⟩, st749⟩ := X748.specialBack hx (y := (⟨"com/example/lookahead/lookahead/runtime/Token", "<init>", "(Lcom/example/lookahead/lookahead/core/Terminal;Ljava/lang/String;IIII)V"⟩ : MethodName)) rfl hown (mvT hZ (own_h hw 37 rfl)) (mvT hZ (own_h hw 38 rfl)) (mvT hZ (own_h hw 39 rfl)) (by decide) (backOf (W := 1) (rm7 l Z a0 hw [] b731 tm b20 (4 : Int32) (4 : Int32) x3 x4 h731 n0 Z741 f742 f743 f744 f745 f746 f747 A731 g_b731) hZ (own_h hw 39 rfl) (own_h hw 33 rfl) (by decide) (by decide)) (g := (mkF m 103 #[.val (.int x0), .val (.int x1), .val (.int x2), .val (.int x3), .val (.int x4), .val (.ref b1), .val (.ref b20), .val (.int (4 : Int32)), .val (.int (4 : Int32)), .unset, .unset] [(.int x4), (.int x3), (.int (4 : Int32)), (.int (4 : Int32)), (.ref b20), (.ref tm), (.ref b731), (.ref b731)])) rfl (by rw [hml]; rfl) (Steps.refl _) (a := b731) (argsL := [(.ref tm), (.ref b20), (.int (4 : Int32)), (.int (4 : Int32)), (.int x3), (.int x4)]) (rest := [(.ref b731)]) (lenOf pd_6 rfl) rfl (by show 2 * 0 + _ ≤ _; exact Nat.le_of_eq rfl) (hb hby at_103) (fun _ _ => ⟨rfl, e748, (by decide : 4 + 0 ≤ _), (by decide : 18 + 0 ≤ _)⟩)
    dsimp only [Pt.U, Pt.locs, Pt.cells, Pt.slots] at X749 l749 y749 z749 st749 hQ749
    subst y749 z749
    obtain ⟨rfl, N749q, K749, pq749_0, pq749_1, pq749_2⟩ := hQ749
    have N749 := Fr.app N27 N749q
    rw [← l749] at N749
    clear l749
    obtain ⟨h749, e749⟩ : ∃ z, T749.heap = z := ⟨_, rfl⟩
    rw [e749] at K749 pq749_0 pq749_1 pq749_2
    have f750 := f735.keep K749 (ninS ne732 nin0)
    have f751 := f736.keep K749
    have f752 := f737.keep K749 (ninS ne733 nin0)
    have f753 := f738.keep K749 (ninS ne733 nin0)
    have f754 := f739.keep K749 (ninS ne734 nin0)
    have f755 := A731.keep K749
    have O756 := O740.keep K749 (allS g_b731 all0)
    have Z757 : n0 ≤ h749.size := Nat.le_trans Z741 K749.1
    refine own_stepW (st' := T749.setTop (mkF m 106 #[.val (.int x0), .val (.int x1), .val (.int x2), .val (.int x3), .val (.int x4), .val (.ref b1), .val (.ref b20), .val (.int (4 : Int32)), .val (.int (4 : Int32)), .unset, .unset] [(.ref b731)])) (fun t k => st749.trans k) ?_
    refine own_stepW (st' := T749.setTop (mkF m 108 #[.val (.int x0), .val (.int x1), .val (.int x2), .val (.int x3), .val (.int x4), .val (.ref b1), .val (.ref b20), .val (.int (4 : Int32)), .val (.int (4 : Int32)), .val (.ref b731), .unset] [])) (fun t k => XS.astore X749.here hx rfl (hb hby at_106) rfl rfl (l' := #[.val (.int x0), .val (.int x1), .val (.int x2), .val (.int x3), .val (.int x4), .val (.ref b1), .val (.ref b20), .val (.int (4 : Int32)), .val (.int (4 : Int32)), .val (.ref b731), .unset]) rfl k) ?_
    refine own_stepW (st' := T749.setTop (mkF m 110 #[.val (.int x0), .val (.int x1), .val (.int x2), .val (.int x3), .val (.int x4), .val (.ref b1), .val (.ref b20), .val (.int (4 : Int32)), .val (.int (4 : Int32)), .val (.ref b731), .unset] [(.ref b731)])) (fun t k => XS.aload X749.here hx rfl (hb hby at_108) rfl rfl k) ?_
    obtain ⟨cq758, kq758, q758a, q758b, q758c⟩ := isOf hZ e749 f755
    obtain ⟨_, _, ⟨T758, L758, k758, n758⟩, -, X758, hS758, hgr758, ⟨Lc758, hQ758, l758, y758, z758⟩, st758⟩ := X749.virtualBackS hx (y := (⟨"com/example/lookahead/lookahead/runtime/Token", "text", "()Ljava/lang/String;"⟩ : MethodName)) (z := (⟨"com/example/lookahead/lookahead/runtime/Token", "text", "()Ljava/lang/String;"⟩ : MethodName)) hown (mvT hZ (own_h hw 53 rfl)) (mvT hZ (own_h hw 54 rfl)) (notFace_of_selects (args := #[]) (mvT hZ (own_h hw 56 rfl))) (mvT hZ (own_h hw 56 rfl)) (mvT hZ (own_h hw 55 rfl)) (by decide) (own_backS (W := 0) (rmT0 l Z a0 hw [] b731 b20 (4 : Int32) (4 : Int32) b_27 kb_27 [(.int ((q0.toInt8.toInt32).toInt8.toInt32)), (.int ((q1.toInt8.toInt32).toInt8.toInt32)), (.int ((q2.toInt8.toInt32).toInt8.toInt32)), (.int ((q3.toInt8.toInt32).toInt8.toInt32))] cs fm h749 n0 Z757 O756 pq749_0 pq749_1 pq749_2 f751 f752 f753 f754 p_0 p_1 p_2 p_3 ⟨by decide, by decide⟩ rfl p_5) hZH (own_h hw 57 rfl) (own_h hw 33 rfl) (by decide) (by decide)) q758a q758c (g := (mkF m 110 #[.val (.int x0), .val (.int x1), .val (.int x2), .val (.int x3), .val (.int x4), .val (.ref b1), .val (.ref b20), .val (.int (4 : Int32)), .val (.int (4 : Int32)), .val (.ref b731), .unset] [(.ref b731)])) rfl (by rw [hml]; rfl) (Steps.refl _) (argsL := []) (rest := []) (lenOf pd_7 rfl) rfl (by show 2 * 0 + _ ≤ _; exact Nat.le_of_eq rfl) (hb hby at_110) (fun _ _ => ⟨rfl, e749, (by decide : 4 + 2 ≤ _), (by decide : 18 + 4 ≤ _)⟩)
    dsimp only [Pt.U, Pt.locs, Pt.cells, Pt.slots] at X758 l758 y758 z758 st758 hQ758 hS758
    subst y758 z758
    obtain ⟨r_758, b_758, kb_758, rfl, N758q, K758, pq758_0, pq758_1, pq758_2, pq758_3⟩ := hQ758
    have N758 := Fr.app N749 N758q
    rw [← l758] at N758
    clear l758
    obtain ⟨h758, e758⟩ : ∃ z, T758.heap = z := ⟨_, rfl⟩
    rw [e758] at K758 pq758_0 pq758_1 pq758_2 pq758_3
    have f759 := f750.keep K758 nin0
    have f760 := f751.keep K758
    have f761 := f752.keep K758 nin0
    have f762 := f753.keep K758 nin0
    have f763 := f754.keep K758 nin0
    have f764 := f755.keep K758
    have f765 := pq749_0.keep K758 nin0
    have f766 := pq749_1.keep K758 nin0
    have f767 := pq749_2.keep K758 nin0
    have O768 := O756.keep K758 all0
    have Z769 : n0 ≤ h758.size := Nat.le_trans Z757 K758.1
    have hZ : Z.Warmed39 (s.setVm T758.vm).vm := State.Warmed39.trans (t := s) hZ hS758.1
    have hown : (s.setVm T758.vm).vm.findClass "com/example/lookahead/lookahead/runtime/TokenTextPinLaw" = some m.cls := by rw [show (s.setVm T758.vm).vm = T758.vm from rfl, hS758.1.alike.findClass]; exact hown
    refine own_stepW (st' := T758.setTop (mkF m 113 #[.val (.int x0), .val (.int x1), .val (.int x2), .val (.int x3), .val (.int x4), .val (.ref b1), .val (.ref b20), .val (.int (4 : Int32)), .val (.int (4 : Int32)), .val (.ref b731), .unset] [(.ref r_758)])) (fun t k => st758.trans k) ?_
    refine own_stepW (st' := T758.setTop (mkF m 115 #[.val (.int x0), .val (.int x1), .val (.int x2), .val (.int x3), .val (.int x4), .val (.ref b1), .val (.ref b20), .val (.int (4 : Int32)), .val (.int (4 : Int32)), .val (.ref b731), .val (.ref r_758)] [])) (fun t k => XS.astore X758.here hx rfl (hb hby at_113) rfl rfl (l' := #[.val (.int x0), .val (.int x1), .val (.int x2), .val (.int x3), .val (.int x4), .val (.ref b1), .val (.ref b20), .val (.int (4 : Int32)), .val (.int (4 : Int32)), .val (.ref b731), .val (.ref r_758)]) rfl k) ?_
    refine own_stepW (st' := T758.setTop (mkF m 117 #[.val (.int x0), .val (.int x1), .val (.int x2), .val (.int x3), .val (.int x4), .val (.ref b1), .val (.ref b20), .val (.int (4 : Int32)), .val (.int (4 : Int32)), .val (.ref b731), .val (.ref r_758)] [(.ref r_758)])) (fun t k => XS.aload X758.here hx rfl (hb hby at_115) rfl rfl k) ?_
    refine own_stepW (st' := T758.setTop (mkF m 122 #[.val (.int x0), .val (.int x1), .val (.int x2), .val (.int x3), .val (.int x4), .val (.ref b1), .val (.ref b20), .val (.int (4 : Int32)), .val (.int (4 : Int32)), .val (.ref b731), .val (.ref r_758)] [])) (fun t k => XS.ifnonnullYes X758.here hx rfl (pc0 := 117) (pc' := 122) rfl (hb hby at_117) rfl (by decide) (by decide) k) ?_
    refine own_stepW (st' := T758.setTop (mkF m 124 #[.val (.int x0), .val (.int x1), .val (.int x2), .val (.int x3), .val (.int x4), .val (.ref b1), .val (.ref b20), .val (.int (4 : Int32)), .val (.int (4 : Int32)), .val (.ref b731), .val (.ref r_758)] [(.ref r_758)])) (fun t k => XS.aload X758.here hx rfl (hb hby at_122) rfl rfl k) ?_
    obtain ⟨cq770, kq770, q770a, q770b, q770c⟩ := isOf hZ e758 pq758_0
    obtain ⟨_, _, ⟨T770, L770, k770, n770⟩, -, X770, ⟨Lc770, hQ770, l770, y770, z770⟩, st770⟩ := X758.virtualBack hx (y := (⟨"java/lang/String", "length", "()I"⟩ : MethodName)) (z := (⟨"java/lang/String", "length", "()I"⟩ : MethodName)) hown (mvT hZ (own_h hw 93 rfl)) (mvT hZ (own_h hw 64 rfl)) (notFace_of_selects (args := #[]) (mvT hZ (own_h hw 66 rfl))) (mvT hZ (own_h hw 66 rfl)) (mvT hZ (own_h hw 65 rfl)) (by decide) (backOf (W := 0) (rm10 l Z a0 hw [] r_758 b_758 kb_758 (0 : Int32) [] cs h758 n0 Z769 O768 pq758_0 pq758_1 pq758_2 pq758_3 p_0 p_1) hZ (own_h hw 67 rfl) (own_h hw 3 rfl) (by decide) (by decide)) q770a q770c (g := (mkF m 124 #[.val (.int x0), .val (.int x1), .val (.int x2), .val (.int x3), .val (.int x4), .val (.ref b1), .val (.ref b20), .val (.int (4 : Int32)), .val (.int (4 : Int32)), .val (.ref b731), .val (.ref r_758)] [(.ref r_758)])) rfl (by rw [hml]; rfl) (Steps.refl _) (argsL := []) (rest := []) (lenOf pd_9 rfl) rfl (by show 2 * 0 + _ ≤ _; exact Nat.le_of_eq rfl) (hb hby at_124) (fun _ _ => ⟨rfl, e758, (by decide : 6 + 0 ≤ _), (by decide : 22 + 0 ≤ _)⟩)
    dsimp only [Pt.U, Pt.locs, Pt.cells, Pt.slots] at X770 l770 y770 z770 st770 hQ770
    subst y770 z770
    obtain ⟨rfl, N770q, e770⟩ := hQ770
    have N770 := Fr.app N758 N770q
    rw [← l770] at N770
    clear l770
    refine own_stepW (st' := T770.setTop (mkF m 127 #[.val (.int x0), .val (.int x1), .val (.int x2), .val (.int x3), .val (.int x4), .val (.ref b1), .val (.ref b20), .val (.int (4 : Int32)), .val (.int (4 : Int32)), .val (.ref b731), .val (.ref r_758)] [(.int (0 : Int32))])) (fun t k => st770.trans k) ?_
    refine own_stepW (st' := T770.setTop (mkF m 129 #[.val (.int x0), .val (.int x1), .val (.int x2), .val (.int x3), .val (.int x4), .val (.ref b1), .val (.ref b20), .val (.int (4 : Int32)), .val (.int (4 : Int32)), .val (.ref b731), .val (.ref r_758)] [(.int (4 : Int32)), (.int (0 : Int32))])) (fun t k => XS.iload X770.here hx rfl (hb hby at_127) rfl k) ?_
    refine own_stepW (st' := T770.setTop (mkF m 131 #[.val (.int x0), .val (.int x1), .val (.int x2), .val (.int x3), .val (.int x4), .val (.ref b1), .val (.ref b20), .val (.int (4 : Int32)), .val (.int (4 : Int32)), .val (.ref b731), .val (.ref r_758)] [(.int (4 : Int32)), (.int (4 : Int32)), (.int (0 : Int32))])) (fun t k => XS.iload X770.here hx rfl (hb hby at_129) rfl k) ?_
    refine own_stepW (st' := T770.setTop (mkF m 132 #[.val (.int x0), .val (.int x1), .val (.int x2), .val (.int x3), .val (.int x4), .val (.ref b1), .val (.ref b20), .val (.int (4 : Int32)), .val (.int (4 : Int32)), .val (.ref b731), .val (.ref r_758)] [(.int (0 : Int32)), (.int (0 : Int32))])) (fun t k => XS.isub X770.here hx rfl (hb hby at_131) rfl k) ?_
    refine own_stepW (st' := T770.setTop (mkF m 137 #[.val (.int x0), .val (.int x1), .val (.int x2), .val (.int x3), .val (.int x4), .val (.ref b1), .val (.ref b20), .val (.int (4 : Int32)), .val (.int (4 : Int32)), .val (.ref b731), .val (.ref r_758)] [])) (fun t k => XS.icmpYes X770.here hx rfl (pc0 := 132) (pc' := 137) rfl (hb hby at_132) rfl (teq (by decide)).1 (by decide) (by decide) k) ?_
    refine own_stepW (st' := T770.setTop (mkF m 139 #[.val (.int x0), .val (.int x1), .val (.int x2), .val (.int x3), .val (.int x4), .val (.ref b1), .val (.ref b20), .val (.int (4 : Int32)), .val (.int (4 : Int32)), .val (.ref b731), .val (.ref r_758)] [(.ref r_758)])) (fun t k => XS.aload X770.here hx rfl (hb hby at_137) rfl rfl k) ?_
    refine own_stepW (st' := T770.setTop (mkF m 141 #[.val (.int x0), .val (.int x1), .val (.int x2), .val (.int x3), .val (.int x4), .val (.ref b1), .val (.ref b20), .val (.int (4 : Int32)), .val (.int (4 : Int32)), .val (.ref b731), .val (.ref r_758)] [(.ref b1), (.ref r_758)])) (fun t k => XS.aload X770.here hx rfl (hb hby at_139) rfl rfl k) ?_
    refine own_stepW (st' := T770.setTop (mkF m 143 #[.val (.int x0), .val (.int x1), .val (.int x2), .val (.int x3), .val (.int x4), .val (.ref b1), .val (.ref b20), .val (.int (4 : Int32)), .val (.int (4 : Int32)), .val (.ref b731), .val (.ref r_758)] [(.int (4 : Int32)), (.ref b1), (.ref r_758)])) (fun t k => XS.iload X770.here hx rfl (hb hby at_141) rfl k) ?_
    refine own_stepW (st' := T770.setTop (mkF m 145 #[.val (.int x0), .val (.int x1), .val (.int x2), .val (.int x3), .val (.int x4), .val (.ref b1), .val (.ref b20), .val (.int (4 : Int32)), .val (.int (4 : Int32)), .val (.ref b731), .val (.ref r_758)] [(.int (4 : Int32)), (.int (4 : Int32)), (.ref b1), (.ref r_758)])) (fun t k => XS.iload X770.here hx rfl (hb hby at_143) rfl k) ?_
    refine own_stepW (st' := T770.setTop (mkF m 146 #[.val (.int x0), .val (.int x1), .val (.int x2), .val (.int x3), .val (.int x4), .val (.ref b1), .val (.ref b20), .val (.int (4 : Int32)), .val (.int (4 : Int32)), .val (.ref b731), .val (.ref r_758)] [(.int (0 : Int32)), (.int (4 : Int32)), (.int (4 : Int32)), (.ref b1), (.ref r_758)])) (fun t k => XS.iconst X770.here hx rfl (hb hby at_145) k) ?_
    obtain ⟨_, _, ⟨T771, L771, k771, n771⟩, -, X771, ⟨Lc771, hQ771, l771, y771, z771⟩, st771⟩ := Jvm.LawKit.callS X770 hx (y := (⟨"com/example/lookahead/lookahead/runtime/TokenTextPinLaw", "charOk", "(Ljava/lang/String;[CIII)Z"⟩ : MethodName)) hown (mvT hZ (own_h hw 94 rfl)) (mvT hZ (own_h hw 95 rfl)) (mvT hZ (own_h hw 96 rfl)) (mvT hZ (own_h hw 97 rfl)) (by decide) (backOf (W := 0) (rmK1 l Z a0 hw [] r_758 b1 (4 : Int32) (4 : Int32) (0 : Int32) h758 n0 Z769 (by decide)) hZ (own_h hw 97 rfl) (own_h hw 96 rfl) (by decide) (by decide)) (g := (mkF m 146 #[.val (.int x0), .val (.int x1), .val (.int x2), .val (.int x3), .val (.int x4), .val (.ref b1), .val (.ref b20), .val (.int (4 : Int32)), .val (.int (4 : Int32)), .val (.ref b731), .val (.ref r_758)] [(.int (0 : Int32)), (.int (4 : Int32)), (.int (4 : Int32)), (.ref b1), (.ref r_758)])) rfl (by rw [hml]; rfl) (argsL := [(.ref r_758), (.ref b1), (.int (4 : Int32)), (.int (4 : Int32)), (.int (0 : Int32))]) (rest := []) (lenOf pd_15 rfl) rfl (by show 2 * 0 + _ ≤ _; exact Nat.le_of_eq rfl) (hb hby at_146) (fun _ _ => ⟨rfl, e770, (by decide : 6 + 0 ≤ _), (by decide : 22 + 0 ≤ _)⟩)
    dsimp only [Pt.U, Pt.locs, Pt.cells, Pt.slots] at X771 l771 y771 z771 st771 hQ771
    subst y771 z771
    obtain ⟨rfl, N771q, e771⟩ := hQ771
    have N771 := Fr.app N770 N771q
    rw [← l771] at N771
    clear l771
    refine own_stepW (st' := T771.setTop (mkF m 149 #[.val (.int x0), .val (.int x1), .val (.int x2), .val (.int x3), .val (.int x4), .val (.ref b1), .val (.ref b20), .val (.int (4 : Int32)), .val (.int (4 : Int32)), .val (.ref b731), .val (.ref r_758)] [(.int (1 : Int32))])) st771 ?_
    refine own_stepW (st' := T771.setTop (mkF m 152 #[.val (.int x0), .val (.int x1), .val (.int x2), .val (.int x3), .val (.int x4), .val (.ref b1), .val (.ref b20), .val (.int (4 : Int32)), .val (.int (4 : Int32)), .val (.ref b731), .val (.ref r_758)] [])) (fun t k => XS.ifNo X771.here hx rfl (hb hby at_149) rfl ((if0 _ _).trans (feq (by decide)).1) k) ?_
    refine own_stepW (st' := T771.setTop (mkF m 154 #[.val (.int x0), .val (.int x1), .val (.int x2), .val (.int x3), .val (.int x4), .val (.ref b1), .val (.ref b20), .val (.int (4 : Int32)), .val (.int (4 : Int32)), .val (.ref b731), .val (.ref r_758)] [(.ref r_758)])) (fun t k => XS.aload X771.here hx rfl (hb hby at_152) rfl rfl k) ?_
    refine own_stepW (st' := T771.setTop (mkF m 156 #[.val (.int x0), .val (.int x1), .val (.int x2), .val (.int x3), .val (.int x4), .val (.ref b1), .val (.ref b20), .val (.int (4 : Int32)), .val (.int (4 : Int32)), .val (.ref b731), .val (.ref r_758)] [(.ref b1), (.ref r_758)])) (fun t k => XS.aload X771.here hx rfl (hb hby at_154) rfl rfl k) ?_
    refine own_stepW (st' := T771.setTop (mkF m 158 #[.val (.int x0), .val (.int x1), .val (.int x2), .val (.int x3), .val (.int x4), .val (.ref b1), .val (.ref b20), .val (.int (4 : Int32)), .val (.int (4 : Int32)), .val (.ref b731), .val (.ref r_758)] [(.int (4 : Int32)), (.ref b1), (.ref r_758)])) (fun t k => XS.iload X771.here hx rfl (hb hby at_156) rfl k) ?_
    refine own_stepW (st' := T771.setTop (mkF m 160 #[.val (.int x0), .val (.int x1), .val (.int x2), .val (.int x3), .val (.int x4), .val (.ref b1), .val (.ref b20), .val (.int (4 : Int32)), .val (.int (4 : Int32)), .val (.ref b731), .val (.ref r_758)] [(.int (4 : Int32)), (.int (4 : Int32)), (.ref b1), (.ref r_758)])) (fun t k => XS.iload X771.here hx rfl (hb hby at_158) rfl k) ?_
    refine own_stepW (st' := T771.setTop (mkF m 161 #[.val (.int x0), .val (.int x1), .val (.int x2), .val (.int x3), .val (.int x4), .val (.ref b1), .val (.ref b20), .val (.int (4 : Int32)), .val (.int (4 : Int32)), .val (.ref b731), .val (.ref r_758)] [(.int (1 : Int32)), (.int (4 : Int32)), (.int (4 : Int32)), (.ref b1), (.ref r_758)])) (fun t k => XS.iconst X771.here hx rfl (hb hby at_160) k) ?_
    obtain ⟨_, _, ⟨T772, L772, k772, n772⟩, -, X772, ⟨Lc772, hQ772, l772, y772, z772⟩, st772⟩ := Jvm.LawKit.callS X771 hx (y := (⟨"com/example/lookahead/lookahead/runtime/TokenTextPinLaw", "charOk", "(Ljava/lang/String;[CIII)Z"⟩ : MethodName)) hown (mvT hZ (own_h hw 94 rfl)) (mvT hZ (own_h hw 95 rfl)) (mvT hZ (own_h hw 96 rfl)) (mvT hZ (own_h hw 97 rfl)) (by decide) (backOf (W := 0) (rmK1 l Z a0 hw [] r_758 b1 (4 : Int32) (4 : Int32) (1 : Int32) h758 n0 Z769 (by decide)) hZ (own_h hw 97 rfl) (own_h hw 96 rfl) (by decide) (by decide)) (g := (mkF m 161 #[.val (.int x0), .val (.int x1), .val (.int x2), .val (.int x3), .val (.int x4), .val (.ref b1), .val (.ref b20), .val (.int (4 : Int32)), .val (.int (4 : Int32)), .val (.ref b731), .val (.ref r_758)] [(.int (1 : Int32)), (.int (4 : Int32)), (.int (4 : Int32)), (.ref b1), (.ref r_758)])) rfl (by rw [hml]; rfl) (argsL := [(.ref r_758), (.ref b1), (.int (4 : Int32)), (.int (4 : Int32)), (.int (1 : Int32))]) (rest := []) (lenOf pd_15 rfl) rfl (by show 2 * 0 + _ ≤ _; exact Nat.le_of_eq rfl) (hb hby at_161) (fun _ _ => ⟨rfl, e771, (by decide : 6 + 0 ≤ _), (by decide : 22 + 0 ≤ _)⟩)
    dsimp only [Pt.U, Pt.locs, Pt.cells, Pt.slots] at X772 l772 y772 z772 st772 hQ772
    subst y772 z772
    obtain ⟨rfl, N772q, e772⟩ := hQ772
    have N772 := Fr.app N771 N772q
    rw [← l772] at N772
    clear l772
    refine own_stepW (st' := T772.setTop (mkF m 164 #[.val (.int x0), .val (.int x1), .val (.int x2), .val (.int x3), .val (.int x4), .val (.ref b1), .val (.ref b20), .val (.int (4 : Int32)), .val (.int (4 : Int32)), .val (.ref b731), .val (.ref r_758)] [(.int (1 : Int32))])) st772 ?_
    refine own_stepW (st' := T772.setTop (mkF m 167 #[.val (.int x0), .val (.int x1), .val (.int x2), .val (.int x3), .val (.int x4), .val (.ref b1), .val (.ref b20), .val (.int (4 : Int32)), .val (.int (4 : Int32)), .val (.ref b731), .val (.ref r_758)] [])) (fun t k => XS.ifNo X772.here hx rfl (hb hby at_164) rfl ((if0 _ _).trans (feq (by decide)).1) k) ?_
    refine own_stepW (st' := T772.setTop (mkF m 169 #[.val (.int x0), .val (.int x1), .val (.int x2), .val (.int x3), .val (.int x4), .val (.ref b1), .val (.ref b20), .val (.int (4 : Int32)), .val (.int (4 : Int32)), .val (.ref b731), .val (.ref r_758)] [(.ref r_758)])) (fun t k => XS.aload X772.here hx rfl (hb hby at_167) rfl rfl k) ?_
    refine own_stepW (st' := T772.setTop (mkF m 171 #[.val (.int x0), .val (.int x1), .val (.int x2), .val (.int x3), .val (.int x4), .val (.ref b1), .val (.ref b20), .val (.int (4 : Int32)), .val (.int (4 : Int32)), .val (.ref b731), .val (.ref r_758)] [(.ref b1), (.ref r_758)])) (fun t k => XS.aload X772.here hx rfl (hb hby at_169) rfl rfl k) ?_
    refine own_stepW (st' := T772.setTop (mkF m 173 #[.val (.int x0), .val (.int x1), .val (.int x2), .val (.int x3), .val (.int x4), .val (.ref b1), .val (.ref b20), .val (.int (4 : Int32)), .val (.int (4 : Int32)), .val (.ref b731), .val (.ref r_758)] [(.int (4 : Int32)), (.ref b1), (.ref r_758)])) (fun t k => XS.iload X772.here hx rfl (hb hby at_171) rfl k) ?_
    refine own_stepW (st' := T772.setTop (mkF m 175 #[.val (.int x0), .val (.int x1), .val (.int x2), .val (.int x3), .val (.int x4), .val (.ref b1), .val (.ref b20), .val (.int (4 : Int32)), .val (.int (4 : Int32)), .val (.ref b731), .val (.ref r_758)] [(.int (4 : Int32)), (.int (4 : Int32)), (.ref b1), (.ref r_758)])) (fun t k => XS.iload X772.here hx rfl (hb hby at_173) rfl k) ?_
    refine own_stepW (st' := T772.setTop (mkF m 176 #[.val (.int x0), .val (.int x1), .val (.int x2), .val (.int x3), .val (.int x4), .val (.ref b1), .val (.ref b20), .val (.int (4 : Int32)), .val (.int (4 : Int32)), .val (.ref b731), .val (.ref r_758)] [(.int (2 : Int32)), (.int (4 : Int32)), (.int (4 : Int32)), (.ref b1), (.ref r_758)])) (fun t k => XS.iconst X772.here hx rfl (hb hby at_175) k) ?_
    obtain ⟨_, _, ⟨T773, L773, k773, n773⟩, -, X773, ⟨Lc773, hQ773, l773, y773, z773⟩, st773⟩ := Jvm.LawKit.callS X772 hx (y := (⟨"com/example/lookahead/lookahead/runtime/TokenTextPinLaw", "charOk", "(Ljava/lang/String;[CIII)Z"⟩ : MethodName)) hown (mvT hZ (own_h hw 94 rfl)) (mvT hZ (own_h hw 95 rfl)) (mvT hZ (own_h hw 96 rfl)) (mvT hZ (own_h hw 97 rfl)) (by decide) (backOf (W := 0) (rmK1 l Z a0 hw [] r_758 b1 (4 : Int32) (4 : Int32) (2 : Int32) h758 n0 Z769 (by decide)) hZ (own_h hw 97 rfl) (own_h hw 96 rfl) (by decide) (by decide)) (g := (mkF m 176 #[.val (.int x0), .val (.int x1), .val (.int x2), .val (.int x3), .val (.int x4), .val (.ref b1), .val (.ref b20), .val (.int (4 : Int32)), .val (.int (4 : Int32)), .val (.ref b731), .val (.ref r_758)] [(.int (2 : Int32)), (.int (4 : Int32)), (.int (4 : Int32)), (.ref b1), (.ref r_758)])) rfl (by rw [hml]; rfl) (argsL := [(.ref r_758), (.ref b1), (.int (4 : Int32)), (.int (4 : Int32)), (.int (2 : Int32))]) (rest := []) (lenOf pd_15 rfl) rfl (by show 2 * 0 + _ ≤ _; exact Nat.le_of_eq rfl) (hb hby at_176) (fun _ _ => ⟨rfl, e772, (by decide : 6 + 0 ≤ _), (by decide : 22 + 0 ≤ _)⟩)
    dsimp only [Pt.U, Pt.locs, Pt.cells, Pt.slots] at X773 l773 y773 z773 st773 hQ773
    subst y773 z773
    obtain ⟨rfl, N773q, e773⟩ := hQ773
    have N773 := Fr.app N772 N773q
    rw [← l773] at N773
    clear l773
    refine own_stepW (st' := T773.setTop (mkF m 179 #[.val (.int x0), .val (.int x1), .val (.int x2), .val (.int x3), .val (.int x4), .val (.ref b1), .val (.ref b20), .val (.int (4 : Int32)), .val (.int (4 : Int32)), .val (.ref b731), .val (.ref r_758)] [(.int (1 : Int32))])) st773 ?_
    refine own_stepW (st' := T773.setTop (mkF m 182 #[.val (.int x0), .val (.int x1), .val (.int x2), .val (.int x3), .val (.int x4), .val (.ref b1), .val (.ref b20), .val (.int (4 : Int32)), .val (.int (4 : Int32)), .val (.ref b731), .val (.ref r_758)] [])) (fun t k => XS.ifNo X773.here hx rfl (hb hby at_179) rfl ((if0 _ _).trans (feq (by decide)).1) k) ?_
    refine own_stepW (st' := T773.setTop (mkF m 184 #[.val (.int x0), .val (.int x1), .val (.int x2), .val (.int x3), .val (.int x4), .val (.ref b1), .val (.ref b20), .val (.int (4 : Int32)), .val (.int (4 : Int32)), .val (.ref b731), .val (.ref r_758)] [(.ref r_758)])) (fun t k => XS.aload X773.here hx rfl (hb hby at_182) rfl rfl k) ?_
    refine own_stepW (st' := T773.setTop (mkF m 186 #[.val (.int x0), .val (.int x1), .val (.int x2), .val (.int x3), .val (.int x4), .val (.ref b1), .val (.ref b20), .val (.int (4 : Int32)), .val (.int (4 : Int32)), .val (.ref b731), .val (.ref r_758)] [(.ref b1), (.ref r_758)])) (fun t k => XS.aload X773.here hx rfl (hb hby at_184) rfl rfl k) ?_
    refine own_stepW (st' := T773.setTop (mkF m 188 #[.val (.int x0), .val (.int x1), .val (.int x2), .val (.int x3), .val (.int x4), .val (.ref b1), .val (.ref b20), .val (.int (4 : Int32)), .val (.int (4 : Int32)), .val (.ref b731), .val (.ref r_758)] [(.int (4 : Int32)), (.ref b1), (.ref r_758)])) (fun t k => XS.iload X773.here hx rfl (hb hby at_186) rfl k) ?_
    refine own_stepW (st' := T773.setTop (mkF m 190 #[.val (.int x0), .val (.int x1), .val (.int x2), .val (.int x3), .val (.int x4), .val (.ref b1), .val (.ref b20), .val (.int (4 : Int32)), .val (.int (4 : Int32)), .val (.ref b731), .val (.ref r_758)] [(.int (4 : Int32)), (.int (4 : Int32)), (.ref b1), (.ref r_758)])) (fun t k => XS.iload X773.here hx rfl (hb hby at_188) rfl k) ?_
    refine own_stepW (st' := T773.setTop (mkF m 191 #[.val (.int x0), .val (.int x1), .val (.int x2), .val (.int x3), .val (.int x4), .val (.ref b1), .val (.ref b20), .val (.int (4 : Int32)), .val (.int (4 : Int32)), .val (.ref b731), .val (.ref r_758)] [(.int (3 : Int32)), (.int (4 : Int32)), (.int (4 : Int32)), (.ref b1), (.ref r_758)])) (fun t k => XS.iconst X773.here hx rfl (hb hby at_190) k) ?_
    obtain ⟨_, _, ⟨T774, L774, k774, n774⟩, -, X774, ⟨Lc774, hQ774, l774, y774, z774⟩, st774⟩ := Jvm.LawKit.callS X773 hx (y := (⟨"com/example/lookahead/lookahead/runtime/TokenTextPinLaw", "charOk", "(Ljava/lang/String;[CIII)Z"⟩ : MethodName)) hown (mvT hZ (own_h hw 94 rfl)) (mvT hZ (own_h hw 95 rfl)) (mvT hZ (own_h hw 96 rfl)) (mvT hZ (own_h hw 97 rfl)) (by decide) (backOf (W := 0) (rmK1 l Z a0 hw [] r_758 b1 (4 : Int32) (4 : Int32) (3 : Int32) h758 n0 Z769 (by decide)) hZ (own_h hw 97 rfl) (own_h hw 96 rfl) (by decide) (by decide)) (g := (mkF m 191 #[.val (.int x0), .val (.int x1), .val (.int x2), .val (.int x3), .val (.int x4), .val (.ref b1), .val (.ref b20), .val (.int (4 : Int32)), .val (.int (4 : Int32)), .val (.ref b731), .val (.ref r_758)] [(.int (3 : Int32)), (.int (4 : Int32)), (.int (4 : Int32)), (.ref b1), (.ref r_758)])) rfl (by rw [hml]; rfl) (argsL := [(.ref r_758), (.ref b1), (.int (4 : Int32)), (.int (4 : Int32)), (.int (3 : Int32))]) (rest := []) (lenOf pd_15 rfl) rfl (by show 2 * 0 + _ ≤ _; exact Nat.le_of_eq rfl) (hb hby at_191) (fun _ _ => ⟨rfl, e773, (by decide : 6 + 0 ≤ _), (by decide : 22 + 0 ≤ _)⟩)
    dsimp only [Pt.U, Pt.locs, Pt.cells, Pt.slots] at X774 l774 y774 z774 st774 hQ774
    subst y774 z774
    obtain ⟨rfl, N774q, e774⟩ := hQ774
    have N774 := Fr.app N773 N774q
    rw [← l774] at N774
    clear l774
    refine own_stepW (st' := T774.setTop (mkF m 194 #[.val (.int x0), .val (.int x1), .val (.int x2), .val (.int x3), .val (.int x4), .val (.ref b1), .val (.ref b20), .val (.int (4 : Int32)), .val (.int (4 : Int32)), .val (.ref b731), .val (.ref r_758)] [(.int (1 : Int32))])) st774 ?_
    refine own_stepW (st' := T774.setTop (mkF m 197 #[.val (.int x0), .val (.int x1), .val (.int x2), .val (.int x3), .val (.int x4), .val (.ref b1), .val (.ref b20), .val (.int (4 : Int32)), .val (.int (4 : Int32)), .val (.ref b731), .val (.ref r_758)] [])) (fun t k => XS.ifNo X774.here hx rfl (hb hby at_194) rfl ((if0 _ _).trans (feq (by decide)).1) k) ?_
    refine own_stepW (st' := T774.setTop (mkF m 198 #[.val (.int x0), .val (.int x1), .val (.int x2), .val (.int x3), .val (.int x4), .val (.ref b1), .val (.ref b20), .val (.int (4 : Int32)), .val (.int (4 : Int32)), .val (.ref b731), .val (.ref r_758)] [(.int (1 : Int32))])) (fun t k => XS.iconst X774.here hx rfl (hb hby at_197) k) ?_
    refine own_stepW (st' := T774.setTop (mkF m 202 #[.val (.int x0), .val (.int x1), .val (.int x2), .val (.int x3), .val (.int x4), .val (.ref b1), .val (.ref b20), .val (.int (4 : Int32)), .val (.int (4 : Int32)), .val (.ref b731), .val (.ref r_758)] [(.int (1 : Int32))])) (fun t k => XS.goto X774.here hx rfl (pc0 := 198) (pc' := 202) rfl (hb hby at_198) (by decide) (by decide) k) ?_
    refine own_retW X774 hS758 (Nat.le_of_eq (congrArg Array.size (e758.trans e774.symm))) Bd.notSynchronized (some (.int (1 : Int32))) (fun h => by rw [Bd.returns] at h; cases h) (fun fs hr => retN X774 hx (t := .boolean) Bd.returns (by simp) (hb hby at_202) hr) ?_ (by decide) (by decide)
    rw [e774]
    exact ⟨rfl, N774⟩

theorem own_nz {t : Term} {args : Array Value} {s : State} {i : Int32} (ht : t.eval args s none [] s = some (.int i)) (h : (Jvm.Cond.not (.eq t (.int (0 : Int32)))).value args s none s [] = some true) : ¬ i = (0 : Int32) := by
  intro q
  subst q
  simp [Cond.value, ht, Term.eval] at h

set_option maxRecDepth 65536 in
set_option maxHeartbeats 40000000 in
theorem comes_1 {Post : Tables → Env → Array Value → State → Outcome → State → Prop} (hpost : ∀ tb e args s v u, (limb_1_1.after args s (.returned v) u = true ∧ limb_1_2.after args s (.returned v) u = true ∧ True) → ReturnedEndW s (.returned v) u (Jvm.fieldLocs frame_1_writes args s ++ Jvm.arrayLocs frame_1_arrays args s ++ Jvm.staticLocs frame_1_statics s) 24 1152 → Post tb e args s (.returned v) u) :
    ArmFor flags0 classFile x code maxLocals ret World_1 tables_1 room_1 Calls_1 rest_1 Pre_1 Post := by
  intro l hfl _ _ p e ha hc hk s m args below hf hA hF happ hP
  obtain ⟨hcalls, hrest, hpre⟩ := hP
  obtain ⟨-, -, -, hnamed, -, -, -, hat⟩ := (Spec.applies_iff hf).mp happ
  obtain ⟨hg, hn⟩ := and_e (Cond.before_iff.mp (show (Jvm.Cond.and given_1 narrow_1).before args s = true from hpre))
  obtain ⟨hcount, hg0⟩ := and_e hg
  obtain ⟨ha0, hg1⟩ := and_e hg0
  obtain ⟨ha1, hg2⟩ := and_e hg1
  obtain ⟨ha2, hg3⟩ := and_e hg2
  obtain ⟨ha3, hg4⟩ := and_e hg3
  obtain ⟨w0, w1, w2, w3, w4, rfl⟩ : ∃ w0 w1 w2 w3 w4 : Value, args = #[w0, w1, w2, w3, w4] := by
    have hs : args.size = 5 := by simpa [Cond.value, given_1] using hcount
    obtain ⟨L⟩ := args
    match L, hs with
    | [w0, w1, w2, w3, w4], _ => exact ⟨w0, w1, w2, w3, w4, rfl⟩
  have hw := fun d (hd : d ∈ tables_1) => atoms_spec (ws := Jvm.Cond.code x code maxLocals ret :: tables_1) hat d (List.mem_cons_of_mem _ hd)
  have hfit : Fit s := fun {y c} hc i hi => by
    obtain ⟨ha, rfl⟩ := Array.getElem?_eq_some_iff.mp hc
    have q := List.all_eq_true.mp ((Array.all_eq_true_iff_forall_mem.mp hF) _ (Array.getElem_mem ha)) i (List.mem_range.mpr hi)
    simpa [Array.getElem?_eq_getElem hi] using q
  obtain ⟨hsets, hown0⟩ := atoms_of _ (rest_1_c_eq ▸ (show rest_1_c.before _ s = true from hrest))
  have hr0 := Cond.before_iff.mp hown0
  obtain ⟨i0, ei0⟩ := is_v ha0
  obtain rfl : w0 = (.int i0) := Option.some.inj ei0
  obtain ⟨i1, ei1⟩ := is_v ha1
  obtain rfl : w1 = (.int i1) := Option.some.inj ei1
  obtain ⟨i2, ei2⟩ := is_v ha2
  obtain rfl : w2 = (.int i2) := Option.some.inj ei2
  obtain ⟨i3, ei3⟩ := is_v ha3
  obtain rfl : w3 = (.int i3) := Option.some.inj ei3
  obtain ⟨i4, ei4⟩ := is_v hg4
  obtain rfl : w4 = (.int i4) := Option.some.inj ei4
  obtain ⟨a_END, _, _, _, ev_END, -⟩ := Cond.exactly_spec (Cond.before_iff.mpr hn)
  have E_END := Exa.start (Z := s) ev_END hn
  have S_END := Sta.start (Z := s) ev_END (Or.inr ⟨(own_h hw 35 rfl), (own_h hw 36 rfl)⟩)
  obtain ⟨iC, ev_C⟩ := is_v (Cond.before_iff.mp (hsets _ (List.mem_of_getElem? (i := 1) rfl)))
  have S_C := Sta.start (Z := s) ev_C (Or.inl (hsets _ (List.mem_of_getElem? (i := 0) rfl)))
  have nz_C : ¬ iC = (0 : Int32) := own_nz ev_C (Cond.before_iff.mp (hsets _ (List.mem_of_getElem? (i := 2) rfl)))
  obtain ⟨vF, ev_F, rF⟩ := Cond.isRef_spec (hsets _ (List.mem_of_getElem? (i := 8) rfl))
  have S_F := Sta.start (Z := s) ev_F (Or.inl (hsets _ (List.mem_of_getElem? (i := 7) rfl)))
  have hCH : CHv s own_EL s.vm s.heap := CHv.start (own_EW hw) (fun q hq => hcalls.1 q hq) (hsets _ (List.mem_of_getElem? (i := 2) rfl)) (own_h hw 19 rfl) (own_h hw 2 rfl)
  obtain ⟨n, o, h1, h2, h3, _, L, rfl, ⟨rfl, N⟩, hq⟩ := rm0 l s _ hw tables_1 i0 i1 i2 i3 i4 iC vF a_END s.heap s.heap.size (Nat.le_refl _) (Old.start s) S_C nz_C S_F rF S_END hCH p e ha hc hk s m _ below hf ((Spec.applies_iff_loose hf).mp happ).1 ⟨rfl, State.WarmedH.refl s, rfl⟩ trivial
  refine ⟨n, _, h1, h2, h3, hpost _ _ _ _ _ _ ⟨Cond.after_iff.mpr rfl, Cond.after_iff.mpr (eq_i res_at (Term.int_eval (1)) rfl), trivial⟩ ⟨hq.1, hq.2.1, hq.2.2.1, (hq.2.2.2.sift fun y hy => Or.inr (N y hy)).mono (by decide) (by decide)⟩⟩
theorem main_1_1 : Claimed_1_1 := comes_1 fun _ _ _ _ _ _ h hF => ⟨h.1, hF⟩
theorem main_1_2 : Claimed_1_2 := comes_1 fun _ _ _ _ _ _ h hF => ⟨h.2.1, hF⟩
end Jvm.Pilot.@@N@@
namespace Jvm.Pilot.@@N@@
open Jvm Jvm.ClassFile Sem Op Lib Jvm.Free Jvm.Stand Jvm.Pilot.@@N@@.Jvm.D
/-! MADE BY PROGRAM (witnessworld.py) out of the Statement's table words and the real class files: 26 classes; the members and pool entries that the words name. The judged class is class 1, her method 1. -/
namespace start1
open Jvm.ClassFile
def u (s : String) : CpInfo := .utf8 (stringToUtf16 s)
/-- a pool by its gaps: so many unusable entries, then the entry; so many at the end -/
def gap : Nat → List CpInfo → List CpInfo
  | 0, r => r
  | n + 1, r => .unusable :: gap n r
def poolList (es : List (Nat × CpInfo)) (last : Nat) : List CpInfo := es.foldr (fun e r => gap e.1 (e.2 :: r)) (gap last [])
def pool (es : List (Nat × CpInfo)) (last : Nat) : Array CpInfo := ⟨poolList es last⟩
def fileOf (pool : Array CpInfo) (this : Nat) (attrs : Array Attribute := #[]) (ms : Array MethodInfo := #[]) (fl : Nat := 33) (sup : Nat := 0) (ifs : Array Nat := #[]) (fds : Array FieldInfo := #[]) : ClassFile where
  minorVersion := 0
  majorVersion := 65
  constantPool := pool
  accessFlags := fl
  thisClass := this
  superClass := sup
  interfaces := ifs
  fields := fds
  methods := ms
  attributes := attrs
def plain (name : String) (sup : Option ClassId) : Class where
  name := name
  kind := .ordinary
  loader := none
  accessFlags := 33
  super := sup
  interfaces := #[]
  cf := none
  fields := #[]
  methods := #[]
  instanceTypes := #[]
  staticTypes := #[]
  resolved := #[]
  callSites := []
  init := .initialized
  statics := none
  mirror := none

def pool0 : Array CpInfo := pool [(5, u "<init>"), (0, u "()V"), (1, .class_ 10), (1, u "java/lang/Object")] 113

def k0c0 : Code := { maxStack := 0, maxLocals := 1, code := object_method_1_code, exceptionTable := #[], attributes := #[] }
def k0m0 : Method := { name := "<init>", desc := "()V", sig := { parameters := [], returnType := none }, accessFlags := 1, code := some k0c0 }
/-- java/lang/Object -/
def k0 : Class := { plain "java/lang/Object" none with
  accessFlags := 33
  interfaces := #[]
  cf := some (fileOf pool0 8 #[] #[{ accessFlags := 1, nameIndex := 5, descriptorIndex := 6, attributes := #[] }] 33 0 #[] #[])
  fields := #[]
  methods := #[k0m0]
  instanceTypes := #[]
  staticTypes := #[]
  resolved := Array.replicate 124 none
  statics := none }

def pool1 : Array CpInfo := pool [(2, .class_ 4), (1, u "java/lang/Object"), (0, u "<init>"), (0, u "()V"), (0, .class_ 8), (0, u "java/lang/String"), (0, .methodref 7 10), (0, .nameAndType 5 11), (0, u "([C)V"), (0, .integer 2147483647), (0, .class_ 14), (0, u "com/example/lookahead/lookahead/runtime/Token"), (0, .fieldref 16 17), (0, .class_ 18), (0, .nameAndType 19 20), (0, u "com/example/lookahead/lookahead/core/Terminal"), (0, u "END"), (0, u "Lcom/example/lookahead/lookahead/core/Terminal;"), (0, .methodref 13 22), (0, .nameAndType 5 23), (0, u "(Lcom/example/lookahead/lookahead/core/Terminal;Ljava/lang/String;IIII)V"), (0, .methodref 13 25), (0, .nameAndType 26 27), (0, u "text"), (0, u "()Ljava/lang/String;"), (0, .methodref 7 29), (0, .nameAndType 30 31), (0, u "length"), (0, u "()I"), (0, .methodref 33 34), (0, .class_ 35), (0, .nameAndType 36 37), (0, u "com/example/lookahead/lookahead/runtime/TokenTextPinLaw"), (0, u "charOk"), (0, u "(Ljava/lang/String;[CIII)Z"), (0, .methodref 7 39), (0, .nameAndType 40 41), (0, u "charAt"), (0, u "(I)C"), (2, u "law"), (0, u "(IIIII)Z")] 5

def k1m0 : Method := { name := "<init>", desc := "()V", sig := { parameters := [], returnType := none }, accessFlags := 1, code := none }
def k1c1 : Code := { maxStack := 8, maxLocals := 11, code := code, exceptionTable := #[], attributes := #[] }
def k1m1 : Method := { name := "law", desc := "(IIIII)Z", sig := { parameters := [.int, .int, .int, .int, .int], returnType := some .boolean }, accessFlags := 9, code := some k1c1 }
def k1c2 : Code := { maxStack := 4, maxLocals := 5, code := method_3_code, exceptionTable := #[], attributes := #[] }
def k1m2 : Method := { name := "charOk", desc := "(Ljava/lang/String;[CIII)Z", sig := { parameters := [(.object "java/lang/String"), (.array .char), .int, .int, .int], returnType := some .boolean }, accessFlags := 10, code := some k1c2 }
/-- com/example/lookahead/lookahead/runtime/TokenTextPinLaw -/
def k1 : Class := { plain "com/example/lookahead/lookahead/runtime/TokenTextPinLaw" (some 0) with
  accessFlags := 49
  interfaces := #[]
  cf := some (fileOf pool1 33 #[] #[{ accessFlags := 1, nameIndex := 5, descriptorIndex := 6, attributes := #[] }, { accessFlags := 9, nameIndex := 44, descriptorIndex := 45, attributes := #[] }, { accessFlags := 10, nameIndex := 36, descriptorIndex := 37, attributes := #[] }] 49 2 #[] #[])
  fields := #[]
  methods := #[k1m0, k1m1, k1m2]
  instanceTypes := #[]
  staticTypes := #[]
  resolved := Array.replicate 51 none
  statics := none }

def pool2 : Array CpInfo := pool [(1, .class_ 2), (0, u "java/io/Serializable"), (0, .class_ 4), (0, u "java/lang/Object")] 2

/-- java/io/Serializable -/
def k2 : Class := { plain "java/io/Serializable" (some 0) with
  accessFlags := 1537
  interfaces := #[]
  cf := some (fileOf pool2 1 #[] #[] 1537 3 #[] #[])
  fields := #[]
  methods := #[]
  instanceTypes := #[]
  staticTypes := #[]
  resolved := Array.replicate 7 none
  statics := none }

def pool3 : Array CpInfo := pool [(1, .class_ 2), (0, u "java/lang/Comparable"), (0, .class_ 4), (0, u "java/lang/Object")] 7

/-- java/lang/Comparable -/
def k3 : Class := { plain "java/lang/Comparable" (some 0) with
  accessFlags := 1537
  interfaces := #[]
  cf := some (fileOf pool3 1 #[] #[] 1537 3 #[] #[])
  fields := #[]
  methods := #[]
  instanceTypes := #[]
  staticTypes := #[]
  resolved := Array.replicate 12 none
  statics := none }

def pool4 : Array CpInfo := pool [(2, .class_ 4), (1, u "java/lang/CharSequence"), (42, .class_ 48), (0, u "java/lang/CharSequence$1CodePointIterator"), (10, .class_ 60), (0, u "java/lang/CharSequence$1CharIterator"), (5, .class_ 67), (0, u "java/lang/Object")] 63

/-- java/lang/CharSequence -/
def k4 : Class := { plain "java/lang/CharSequence" (some 0) with
  accessFlags := 1537
  interfaces := #[]
  cf := some (fileOf pool4 2 #[.nestMembers #[47, 59]] #[] 1537 66 #[] #[])
  fields := #[]
  methods := #[]
  instanceTypes := #[]
  staticTypes := #[]
  resolved := Array.replicate 131 none
  statics := none }

def pool5 : Array CpInfo := pool [(1, .class_ 2), (0, u "java/lang/constant/Constable"), (0, .class_ 4), (0, u "java/lang/Object")] 6

/-- java/lang/constant/Constable -/
def k5 : Class := { plain "java/lang/constant/Constable" (some 0) with
  accessFlags := 1537
  interfaces := #[]
  cf := some (fileOf pool5 1 #[] #[] 1537 3 #[] #[])
  fields := #[]
  methods := #[]
  instanceTypes := #[]
  staticTypes := #[]
  resolved := Array.replicate 11 none
  statics := none }

def pool6 : Array CpInfo := pool [(1, .class_ 2), (0, u "java/lang/constant/ConstantDesc"), (0, .class_ 4), (0, u "java/lang/Object")] 32

/-- java/lang/constant/ConstantDesc -/
def k6 : Class := { plain "java/lang/constant/ConstantDesc" (some 0) with
  accessFlags := 1537
  interfaces := #[]
  cf := some (fileOf pool6 1 #[] #[] 1537 3 #[] #[])
  fields := #[]
  methods := #[]
  instanceTypes := #[]
  staticTypes := #[]
  resolved := Array.replicate 37 none
  statics := none }

def pool7 : Array CpInfo := pool [(1, .methodref 2 3), (0, .class_ 4), (0, .nameAndType 5 6), (0, u "java/lang/Object"), (0, u "<init>"), (0, u "()V"), (2, .fieldref 10 11), (0, .class_ 12), (0, .nameAndType 13 14), (0, u "java/lang/String"), (0, u "value"), (0, u "[B"), (0, .fieldref 10 16), (0, .nameAndType 17 18), (0, u "coder"), (0, u "B"), (2, u "hash"), (0, u "I"), (2, u "hashIsZero"), (0, u "Z"), (0, .methodref 10 28), (0, .nameAndType 5 29), (0, u "([CIILjava/lang/Void;)V"), (8, .fieldref 10 39), (0, .nameAndType 40 26), (0, u "COMPACT_STRINGS"), (1, .class_ 44), (1, u "java/lang/StringUTF16"), (0, u "compress"), (1, .methodref 42 48), (0, .nameAndType 49 50), (0, u "coderFromArrayLen"), (0, u "([BI)B"), (56, .class_ 109), (1, u "java/lang/StringLatin1"), (32, u "()Z"), (34, .methodref 42 178), (0, .nameAndType 45 179), (0, u "([CII)[B"), (31, u "([BB)V"), (122, u "()I"), (0, .methodref 10 336), (0, .nameAndType 17 337), (0, u "()B"), (25, u "([BI)C"), (27, u "(II)V"), (35, u "(I)C"), (64, .methodref 10 493), (0, .nameAndType 494 142), (0, u "isLatin1"), (0, .methodref 107 496), (0, .nameAndType 497 363), (0, u "charAt"), (3, u "checkIndex"), (3, .methodref 10 506), (0, .nameAndType 507 334), (0, u "length"), (5, u "checkFromToIndex"), (7, .methodref 10 522), (0, .nameAndType 523 524), (0, u "checkBoundsBeginEnd"), (0, u "(III)V"), (50, .class_ 576), (0, u "java/lang/CharSequence"), (22, u "CASE_INSENSITIVE_ORDER"), (0, u "Ljava/util/Comparator;"), (82, u "substring"), (0, u "(II)Ljava/lang/String;"), (0, .methodref 107 686), (0, .nameAndType 687 688), (0, u "newString"), (0, u "([BII)Ljava/lang/String;"), (321, u "([C)V"), (42, .fieldref 1054 1055), (0, .class_ 1056), (0, .nameAndType 1057 1058), (0, u "jdk/internal/util/Preconditions"), (0, u "SIOOBE_FORMATTER"), (0, u "Ljava/util/function/BiFunction;"), (0, .methodref 1054 1060), (0, .nameAndType 501 1061), (0, u "(IILjava/util/function/BiFunction;)I"), (0, .methodref 1054 1063), (0, .nameAndType 513 1064), (0, u "(IIILjava/util/function/BiFunction;)I"), (36, u "serialPersistentFields"), (0, u "[Ljava/io/ObjectStreamField;"), (0, .class_ 1104), (0, u "java/lang/String$CaseInsensitiveComparator"), (1, .class_ 1107), (0, u "java/io/Serializable"), (0, .class_ 1109), (0, u "java/lang/Comparable"), (0, .class_ 1111), (0, u "java/lang/constant/Constable"), (0, .class_ 1113), (0, u "java/lang/constant/ConstantDesc"), (2, u "serialVersionUID"), (0, u "J"), (3, u "REPL"), (0, u "C"), (2, u "LATIN1"), (1, u "UTF16")] 323

def k7m0 : Method := { name := "<init>", desc := "()V", sig := { parameters := [], returnType := none }, accessFlags := 1, code := none }
def k7c1 : Code := { maxStack := 5, maxLocals := 2, code := jdk_42_method_3_code, exceptionTable := #[], attributes := #[] }
def k7m1 : Method := { name := "<init>", desc := "([C)V", sig := { parameters := [(.array .char)], returnType := none }, accessFlags := 1, code := some k7c1 }
def k7c2 : Code := { maxStack := 2, maxLocals := 1, code := jdk_42_method_54_code, exceptionTable := #[], attributes := #[] }
def k7m2 : Method := { name := "length", desc := "()I", sig := { parameters := [], returnType := some .int }, accessFlags := 1, code := some k7c2 }
def k7c3 : Code := { maxStack := 2, maxLocals := 2, code := jdk_42_method_56_code, exceptionTable := #[], attributes := #[] }
def k7m3 : Method := { name := "charAt", desc := "(I)C", sig := { parameters := [.int], returnType := some .char }, accessFlags := 1, code := some k7c3 }
def k7c4 : Code := { maxStack := 3, maxLocals := 5, code := jdk_42_method_92_code, exceptionTable := #[], attributes := #[] }
def k7m4 : Method := { name := "substring", desc := "(II)Ljava/lang/String;", sig := { parameters := [.int, .int], returnType := some (.object "java/lang/String") }, accessFlags := 1, code := some k7c4 }
def k7c5 : Code := { maxStack := 4, maxLocals := 6, code := jdk_42_method_149_code, exceptionTable := #[], attributes := #[] }
def k7m5 : Method := { name := "<init>", desc := "([CIILjava/lang/Void;)V", sig := { parameters := [(.array .char), .int, .int, (.object "java/lang/Void")], returnType := none }, accessFlags := 2, code := some k7c5 }
def k7c6 : Code := { maxStack := 2, maxLocals := 3, code := jdk_42_method_151_code, exceptionTable := #[], attributes := #[] }
def k7m6 : Method := { name := "<init>", desc := "([BB)V", sig := { parameters := [(.array .byte), .byte], returnType := none }, accessFlags := 0, code := some k7c6 }
def k7c7 : Code := { maxStack := 1, maxLocals := 1, code := jdk_42_method_152_code, exceptionTable := #[], attributes := #[] }
def k7m7 : Method := { name := "coder", desc := "()B", sig := { parameters := [], returnType := some .byte }, accessFlags := 0, code := some k7c7 }
def k7c8 : Code := { maxStack := 1, maxLocals := 1, code := jdk_42_method_154_code, exceptionTable := #[], attributes := #[] }
def k7m8 : Method := { name := "isLatin1", desc := "()Z", sig := { parameters := [], returnType := some .boolean }, accessFlags := 0, code := some k7c8 }
def k7c9 : Code := { maxStack := 3, maxLocals := 2, code := jdk_42_method_155_code, exceptionTable := #[], attributes := #[] }
def k7m9 : Method := { name := "checkIndex", desc := "(II)V", sig := { parameters := [.int, .int], returnType := none }, accessFlags := 8, code := some k7c9 }
def k7c10 : Code := { maxStack := 4, maxLocals := 3, code := jdk_42_method_158_code, exceptionTable := #[], attributes := #[] }
def k7m10 : Method := { name := "checkBoundsBeginEnd", desc := "(III)V", sig := { parameters := [.int, .int, .int], returnType := none }, accessFlags := 8, code := some k7c10 }
/-- java/lang/String -/
def k7 : Class := { plain "java/lang/String" (some 0) with
  accessFlags := 49
  interfaces := #[2, 3, 4, 5, 6]
  cf := some (fileOf pool7 10 #[.nestMembers #[1103]] #[{ accessFlags := 1, nameIndex := 5, descriptorIndex := 6, attributes := #[] }, { accessFlags := 1, nameIndex := 5, descriptorIndex := 1010, attributes := #[] }, { accessFlags := 1, nameIndex := 507, descriptorIndex := 334, attributes := #[] }, { accessFlags := 1, nameIndex := 497, descriptorIndex := 427, attributes := #[] }, { accessFlags := 1, nameIndex := 683, descriptorIndex := 684, attributes := #[] }, { accessFlags := 2, nameIndex := 5, descriptorIndex := 29, attributes := #[] }, { accessFlags := 0, nameIndex := 5, descriptorIndex := 211, attributes := #[] }, { accessFlags := 0, nameIndex := 17, descriptorIndex := 337, attributes := #[] }, { accessFlags := 0, nameIndex := 494, descriptorIndex := 142, attributes := #[] }, { accessFlags := 8, nameIndex := 501, descriptorIndex := 391, attributes := #[] }, { accessFlags := 8, nameIndex := 523, descriptorIndex := 524, attributes := #[] }] 49 2 #[1106, 1108, 575, 1110, 1112] #[{ accessFlags := 18, nameIndex := 13, descriptorIndex := 14, attributes := #[] }, { accessFlags := 18, nameIndex := 17, descriptorIndex := 18, attributes := #[] }, { accessFlags := 2, nameIndex := 21, descriptorIndex := 22, attributes := #[] }, { accessFlags := 2, nameIndex := 25, descriptorIndex := 26, attributes := #[] }, { accessFlags := 26, nameIndex := 1116, descriptorIndex := 1117, attributes := #[] }, { accessFlags := 24, nameIndex := 40, descriptorIndex := 26, attributes := #[] }, { accessFlags := 26, nameIndex := 1101, descriptorIndex := 1102, attributes := #[] }, { accessFlags := 26, nameIndex := 1121, descriptorIndex := 1122, attributes := #[] }, { accessFlags := 25, nameIndex := 599, descriptorIndex := 600, attributes := #[] }, { accessFlags := 24, nameIndex := 1125, descriptorIndex := 18, attributes := #[] }, { accessFlags := 24, nameIndex := 1127, descriptorIndex := 18, attributes := #[] }])
  fields := #[{ name := "value", type := (.array .byte), accessFlags := 18, slot := 0, constantValue := 0 }, { name := "coder", type := .byte, accessFlags := 18, slot := 1, constantValue := 0 }, { name := "hash", type := .int, accessFlags := 2, slot := 2, constantValue := 0 }, { name := "hashIsZero", type := .boolean, accessFlags := 2, slot := 3, constantValue := 0 }, { name := "serialVersionUID", type := .long, accessFlags := 26, slot := 0, constantValue := 0 }, { name := "COMPACT_STRINGS", type := .boolean, accessFlags := 24, slot := 1, constantValue := 0 }, { name := "serialPersistentFields", type := (.array (.object "java/io/ObjectStreamField")), accessFlags := 26, slot := 2, constantValue := 0 }, { name := "REPL", type := .char, accessFlags := 26, slot := 3, constantValue := 0 }, { name := "CASE_INSENSITIVE_ORDER", type := (.object "java/util/Comparator"), accessFlags := 25, slot := 4, constantValue := 0 }, { name := "LATIN1", type := .byte, accessFlags := 24, slot := 5, constantValue := 0 }, { name := "UTF16", type := .byte, accessFlags := 24, slot := 6, constantValue := 0 }]
  methods := #[k7m0, k7m1, k7m2, k7m3, k7m4, k7m5, k7m6, k7m7, k7m8, k7m9, k7m10]
  instanceTypes := #[(.array .byte), .byte, .int, .boolean]
  staticTypes := #[.long, .boolean, (.array (.object "java/io/ObjectStreamField")), .char, (.object "java/util/Comparator"), .byte, .byte]
  resolved := Array.replicate 1451 none
  statics := some 0 }

def pool8 : Array CpInfo := pool [(6, .class_ 8), (1, u "java/lang/Object"), (0, u "<init>"), (0, u "()V"), (1, .class_ 14), (1, u "java/lang/StringUTF16"), (31, u "$assertionsDisabled"), (0, u "Z"), (13, u "HI_BYTE_SHIFT"), (0, u "I"), (2, u "LO_BYTE_SHIFT"), (49, .methodref 12 116), (0, .nameAndType 117 118), (0, u "compress"), (0, u "([CI[BII)I"), (3, u "([CII)[B"), (138, u "coderFromArrayLen"), (0, u "([BI)B"), (106, .class_ 371), (1, u "java/lang/StringUTF16$LinesSpliterator"), (58, u "MAX_LENGTH"), (196, .class_ 628), (0, u "java/lang/StringUTF16$CodePointsSpliterator"), (0, .class_ 630), (0, u "java/lang/StringUTF16$CharsSpliterator")] 4

def k8m0 : Method := { name := "<init>", desc := "()V", sig := { parameters := [], returnType := none }, accessFlags := 0, code := none }
def k8c1 : Code := { maxStack := 2, maxLocals := 2, code := jdk_52_method_15_code, exceptionTable := #[], attributes := #[] }
def k8m1 : Method := { name := "coderFromArrayLen", desc := "([BI)B", sig := { parameters := [(.array .byte), .int], returnType := some .byte }, accessFlags := 8, code := some k8c1 }
def k8c2 : Code := { maxStack := 5, maxLocals := 6, code := jdk_52_method_16_code, exceptionTable := #[], attributes := #[] }
def k8m2 : Method := { name := "compress", desc := "([CII)[B", sig := { parameters := [(.array .char), .int, .int], returnType := some (.array .byte) }, accessFlags := 9, code := some k8c2 }
def k8c3 : Code := { maxStack := 3, maxLocals := 7, code := jdk_52_method_21_code, exceptionTable := #[], attributes := #[] }
def k8m3 : Method := { name := "compress", desc := "([CI[BII)I", sig := { parameters := [(.array .char), .int, (.array .byte), .int, .int], returnType := some .int }, accessFlags := 9, code := some k8c3 }
/-- java/lang/StringUTF16 -/
def k8 : Class := { plain "java/lang/StringUTF16" (some 0) with
  accessFlags := 48
  interfaces := #[]
  cf := some (fileOf pool8 12 #[.nestMembers #[627, 629, 369]] #[{ accessFlags := 0, nameIndex := 9, descriptorIndex := 10, attributes := #[] }, { accessFlags := 8, nameIndex := 261, descriptorIndex := 262, attributes := #[] }, { accessFlags := 9, nameIndex := 117, descriptorIndex := 122, attributes := #[] }, { accessFlags := 9, nameIndex := 117, descriptorIndex := 118, attributes := #[] }] 48 6 #[] #[{ accessFlags := 26, nameIndex := 61, descriptorIndex := 62, attributes := #[] }, { accessFlags := 26, nameIndex := 65, descriptorIndex := 62, attributes := #[] }, { accessFlags := 24, nameIndex := 430, descriptorIndex := 62, attributes := #[] }, { accessFlags := 4120, nameIndex := 46, descriptorIndex := 47, attributes := #[] }])
  fields := #[{ name := "HI_BYTE_SHIFT", type := .int, accessFlags := 26, slot := 0, constantValue := 0 }, { name := "LO_BYTE_SHIFT", type := .int, accessFlags := 26, slot := 1, constantValue := 0 }, { name := "MAX_LENGTH", type := .int, accessFlags := 24, slot := 2, constantValue := 0 }, { name := "$assertionsDisabled", type := .boolean, accessFlags := 4120, slot := 3, constantValue := 0 }]
  methods := #[k8m0, k8m1, k8m2, k8m3]
  instanceTypes := #[]
  staticTypes := #[.int, .int, .int, .boolean]
  resolved := Array.replicate 635 none
  statics := none }

def pool9 : Array CpInfo := pool [(1, .methodref 2 3), (0, .class_ 4), (0, .nameAndType 5 6), (0, u "java/lang/Object"), (0, u "<init>"), (0, u "()V"), (0, .fieldref 8 9), (0, .class_ 10), (0, .nameAndType 11 12), (0, u "com/example/lookahead/lookahead/runtime/Token"), (0, u "terminal"), (0, u "Lcom/example/lookahead/lookahead/core/Terminal;"), (0, .fieldref 8 14), (0, .nameAndType 15 16), (0, u "input"), (0, u "Ljava/lang/String;"), (0, .fieldref 8 18), (0, .nameAndType 19 20), (0, u "start"), (0, u "I"), (0, .fieldref 8 22), (0, .nameAndType 23 20), (0, u "end"), (0, .fieldref 8 25), (0, .nameAndType 26 20), (0, u "line"), (0, .fieldref 8 28), (0, .nameAndType 29 20), (0, u "column"), (0, .methodref 31 32), (0, .class_ 33), (0, .nameAndType 34 35), (0, u "java/lang/String"), (0, u "substring"), (0, u "(II)Ljava/lang/String;"), (0, u "(Lcom/example/lookahead/lookahead/core/Terminal;Ljava/lang/String;IIII)V"), (3, u "text"), (0, u "()Ljava/lang/String;")] 3

def k9c0 : Code := { maxStack := 2, maxLocals := 7, code := prog_64_method_1_code, exceptionTable := #[], attributes := #[] }
def k9m0 : Method := { name := "<init>", desc := "(Lcom/example/lookahead/lookahead/core/Terminal;Ljava/lang/String;IIII)V", sig := { parameters := [(.object "com/example/lookahead/lookahead/core/Terminal"), (.object "java/lang/String"), .int, .int, .int, .int], returnType := none }, accessFlags := 0, code := some k9c0 }
def k9c1 : Code := { maxStack := 3, maxLocals := 1, code := prog_64_method_3_code, exceptionTable := #[], attributes := #[] }
def k9m1 : Method := { name := "text", desc := "()Ljava/lang/String;", sig := { parameters := [], returnType := some (.object "java/lang/String") }, accessFlags := 1, code := some k9c1 }
/-- com/example/lookahead/lookahead/runtime/Token -/
def k9 : Class := { plain "com/example/lookahead/lookahead/runtime/Token" (some 0) with
  accessFlags := 49
  interfaces := #[]
  cf := some (fileOf pool9 8 #[] #[{ accessFlags := 0, nameIndex := 5, descriptorIndex := 36, attributes := #[] }, { accessFlags := 1, nameIndex := 40, descriptorIndex := 41, attributes := #[] }] 49 2 #[] #[{ accessFlags := 18, nameIndex := 11, descriptorIndex := 12, attributes := #[] }, { accessFlags := 18, nameIndex := 15, descriptorIndex := 16, attributes := #[] }, { accessFlags := 18, nameIndex := 19, descriptorIndex := 20, attributes := #[] }, { accessFlags := 18, nameIndex := 23, descriptorIndex := 20, attributes := #[] }, { accessFlags := 18, nameIndex := 26, descriptorIndex := 20, attributes := #[] }, { accessFlags := 18, nameIndex := 29, descriptorIndex := 20, attributes := #[] }])
  fields := #[{ name := "terminal", type := (.object "com/example/lookahead/lookahead/core/Terminal"), accessFlags := 18, slot := 0, constantValue := 0 }, { name := "input", type := (.object "java/lang/String"), accessFlags := 18, slot := 1, constantValue := 0 }, { name := "start", type := .int, accessFlags := 18, slot := 2, constantValue := 0 }, { name := "end", type := .int, accessFlags := 18, slot := 3, constantValue := 0 }, { name := "line", type := .int, accessFlags := 18, slot := 4, constantValue := 0 }, { name := "column", type := .int, accessFlags := 18, slot := 5, constantValue := 0 }]
  methods := #[k9m0, k9m1]
  instanceTypes := #[(.object "com/example/lookahead/lookahead/core/Terminal"), (.object "java/lang/String"), .int, .int, .int, .int]
  staticTypes := #[]
  resolved := Array.replicate 45 none
  statics := none }

def pool10 : Array CpInfo := pool [(2, .class_ 4), (1, u "java/lang/Object"), (0, u "<init>"), (0, u "()V"), (0, .class_ 8), (0, u "java/lang/Record")] 13

def k10m0 : Method := { name := "<init>", desc := "()V", sig := { parameters := [], returnType := none }, accessFlags := 4, code := none }
/-- java/lang/Record -/
def k10 : Class := { plain "java/lang/Record" (some 0) with
  accessFlags := 1057
  interfaces := #[]
  cf := some (fileOf pool10 7 #[] #[{ accessFlags := 4, nameIndex := 5, descriptorIndex := 6, attributes := #[] }] 1057 2 #[] #[])
  fields := #[]
  methods := #[k10m0]
  instanceTypes := #[]
  staticTypes := #[]
  resolved := Array.replicate 22 none
  statics := none }

def pool11 : Array CpInfo := pool [(1, .class_ 2), (0, u "com/example/lookahead/lookahead/core/Symbol"), (0, .class_ 4), (0, u "java/lang/Object")] 9

/-- com/example/lookahead/lookahead/core/Symbol -/
def k11 : Class := { plain "com/example/lookahead/lookahead/core/Symbol" (some 0) with
  accessFlags := 1537
  interfaces := #[]
  cf := some (fileOf pool11 1 #[] #[] 1537 3 #[] #[])
  fields := #[]
  methods := #[]
  instanceTypes := #[]
  staticTypes := #[]
  resolved := Array.replicate 14 none
  statics := none }

def pool12 : Array CpInfo := pool [(2, .class_ 4), (1, u "java/lang/Record"), (3, u "kind"), (7, u "text"), (14, .class_ 33), (1, u "com/example/lookahead/lookahead/core/Terminal$Kind"), (0, u "END"), (0, u "Lcom/example/lookahead/lookahead/core/Terminal$Kind;"), (9, .class_ 47), (1, u "com/example/lookahead/lookahead/core/Terminal"), (2, u "Ljava/lang/String;"), (88, u "Lcom/example/lookahead/lookahead/core/Terminal;"), (0, .class_ 141), (0, u "com/example/lookahead/lookahead/core/Symbol")] 36

/-- com/example/lookahead/lookahead/core/Terminal -/
def k12 : Class := { plain "com/example/lookahead/lookahead/core/Terminal" (some 10) with
  accessFlags := 49
  interfaces := #[11]
  cf := some (fileOf pool12 45 #[.nestMembers #[31]] #[] 49 2 #[140] #[{ accessFlags := 18, nameIndex := 8, descriptorIndex := 35, attributes := #[] }, { accessFlags := 18, nameIndex := 16, descriptorIndex := 50, attributes := #[] }, { accessFlags := 25, nameIndex := 34, descriptorIndex := 139, attributes := #[] }])
  fields := #[{ name := "kind", type := (.object "com/example/lookahead/lookahead/core/Terminal$Kind"), accessFlags := 18, slot := 0, constantValue := 0 }, { name := "text", type := (.object "java/lang/String"), accessFlags := 18, slot := 1, constantValue := 0 }, { name := "END", type := (.object "com/example/lookahead/lookahead/core/Terminal"), accessFlags := 25, slot := 0, constantValue := 0 }]
  methods := #[]
  instanceTypes := #[(.object "com/example/lookahead/lookahead/core/Terminal$Kind"), (.object "java/lang/String")]
  staticTypes := #[(.object "com/example/lookahead/lookahead/core/Terminal")]
  resolved := Array.replicate 178 none
  statics := some 1 }

def pool13 : Array CpInfo := pool [(2, .class_ 4), (1, u "java/lang/Object"), (0, u "<init>"), (0, u "()V"), (17, .class_ 26), (1, u "jdk/internal/util/Preconditions"), (6, u "checkIndex"), (13, u "checkFromToIndex"), (7, .class_ 56), (0, u "jdk/internal/util/Preconditions$4"), (57, .class_ 115), (0, u "jdk/internal/util/Preconditions$1"), (7, u "SIOOBE_FORMATTER"), (0, u "Ljava/util/function/BiFunction;"), (0, .class_ 126), (0, u "jdk/internal/util/Preconditions$2"), (3, u "AIOOBE_FORMATTER"), (0, .class_ 132), (0, u "jdk/internal/util/Preconditions$3"), (3, u "IOOBE_FORMATTER"), (41, u "(IILjava/util/function/BiFunction;)I"), (4, u "(IIILjava/util/function/BiFunction;)I")] 10

def k13m0 : Method := { name := "<init>", desc := "()V", sig := { parameters := [], returnType := none }, accessFlags := 1, code := none }
def k13c1 : Code := { maxStack := 3, maxLocals := 3, code := jdk_41_method_11_code, exceptionTable := #[], attributes := #[] }
def k13m1 : Method := { name := "checkIndex", desc := "(IILjava/util/function/BiFunction;)I", sig := { parameters := [.int, .int, (.object "java/util/function/BiFunction")], returnType := some .int }, accessFlags := 9, code := some k13c1 }
def k13c2 : Code := { maxStack := 4, maxLocals := 4, code := jdk_41_method_12_code, exceptionTable := #[], attributes := #[] }
def k13m2 : Method := { name := "checkFromToIndex", desc := "(IIILjava/util/function/BiFunction;)I", sig := { parameters := [.int, .int, .int, (.object "java/util/function/BiFunction")], returnType := some .int }, accessFlags := 9, code := some k13c2 }
/-- jdk/internal/util/Preconditions -/
def k13 : Class := { plain "jdk/internal/util/Preconditions" (some 0) with
  accessFlags := 33
  interfaces := #[]
  cf := some (fileOf pool13 24 #[.nestMembers #[55, 131, 125, 114]] #[{ accessFlags := 1, nameIndex := 5, descriptorIndex := 6, attributes := #[] }, { accessFlags := 9, nameIndex := 33, descriptorIndex := 178, attributes := #[] }, { accessFlags := 9, nameIndex := 47, descriptorIndex := 183, attributes := #[] }] 33 2 #[] #[{ accessFlags := 25, nameIndex := 123, descriptorIndex := 124, attributes := #[] }, { accessFlags := 25, nameIndex := 130, descriptorIndex := 124, attributes := #[] }, { accessFlags := 25, nameIndex := 136, descriptorIndex := 124, attributes := #[] }])
  fields := #[{ name := "SIOOBE_FORMATTER", type := (.object "java/util/function/BiFunction"), accessFlags := 25, slot := 0, constantValue := 0 }, { name := "AIOOBE_FORMATTER", type := (.object "java/util/function/BiFunction"), accessFlags := 25, slot := 1, constantValue := 0 }, { name := "IOOBE_FORMATTER", type := (.object "java/util/function/BiFunction"), accessFlags := 25, slot := 2, constantValue := 0 }]
  methods := #[k13m0, k13m1, k13m2]
  instanceTypes := #[]
  staticTypes := #[(.object "java/util/function/BiFunction"), (.object "java/util/function/BiFunction"), (.object "java/util/function/BiFunction")]
  resolved := Array.replicate 194 none
  statics := some 2 }

def pool14 : Array CpInfo := pool [(1, .class_ 2), (0, u "java/lang/String"), (1, .class_ 6), (1, u "java/lang/Object"), (0, u "<init>"), (0, u "()V"), (0, .methodref 1 10), (0, .nameAndType 11 12), (0, u "checkIndex"), (0, u "(II)V"), (1, .class_ 16), (1, u "java/lang/StringLatin1"), (36, u "([BI)C"), (58, .methodref 1 113), (0, .nameAndType 7 114), (0, u "([BB)V"), (6, u "$assertionsDisabled"), (0, u "Z"), (8, .class_ 133), (1, u "java/util/Arrays"), (17, .string 152), (0, u ""), (43, u "newString"), (0, u "([BII)Ljava/lang/String;"), (23, .class_ 223), (1, u "java/lang/StringLatin1$LinesSpliterator"), (8, .methodref 131 233), (0, .nameAndType 234 235), (0, u "copyOfRange"), (0, u "([BII)[B"), (16, u "charAt"), (137, .class_ 391), (0, u "java/lang/StringLatin1$CharsSpliterator")] 3

def k14m0 : Method := { name := "<init>", desc := "()V", sig := { parameters := [], returnType := none }, accessFlags := 0, code := none }
def k14c1 : Code := { maxStack := 2, maxLocals := 2, code := jdk_43_method_2_code, exceptionTable := #[], attributes := #[] }
def k14m1 : Method := { name := "charAt", desc := "([BI)C", sig := { parameters := [(.array .byte), .int], returnType := some .char }, accessFlags := 9, code := some k14c1 }
def k14c2 : Code := { maxStack := 6, maxLocals := 3, code := jdk_43_method_47_code, exceptionTable := #[], attributes := #[] }
def k14m2 : Method := { name := "newString", desc := "([BII)Ljava/lang/String;", sig := { parameters := [(.array .byte), .int, .int], returnType := some (.object "java/lang/String") }, accessFlags := 9, code := some k14c2 }
/-- java/lang/StringLatin1 -/
def k14 : Class := { plain "java/lang/StringLatin1" (some 0) with
  accessFlags := 48
  interfaces := #[]
  cf := some (fileOf pool14 14 #[.nestMembers #[390, 221]] #[{ accessFlags := 0, nameIndex := 7, descriptorIndex := 8, attributes := #[] }, { accessFlags := 9, nameIndex := 252, descriptorIndex := 53, attributes := #[] }, { accessFlags := 9, nameIndex := 196, descriptorIndex := 197, attributes := #[] }] 48 4 #[] #[{ accessFlags := 4120, nameIndex := 121, descriptorIndex := 122, attributes := #[] }])
  fields := #[{ name := "$assertionsDisabled", type := .boolean, accessFlags := 4120, slot := 0, constantValue := 0 }]
  methods := #[k14m0, k14m1, k14m2]
  instanceTypes := #[]
  staticTypes := #[.boolean]
  resolved := Array.replicate 395 none
  statics := none }

def pool15 : Array CpInfo := pool [(2, .class_ 4), (1, u "java/lang/Object"), (0, u "<init>"), (0, u "()V"), (7, .class_ 16), (1, u "java/util/Arrays"), (57, .class_ 76), (1, u "java/util/Arrays$NaturalOrder"), (36, .class_ 115), (1, u "java/util/Arrays$LegacyMergeSort"), (1, u "Z"), (21, u "copyOfRange"), (10, .methodref 151 152), (0, .class_ 153), (0, .nameAndType 154 155), (0, u "java/lang/System"), (0, u "arraycopy"), (0, u "(Ljava/lang/Object;ILjava/lang/Object;II)V"), (148, .methodref 305 306), (0, .class_ 307), (0, .nameAndType 308 309), (0, u "java/lang/Math"), (0, u "min"), (0, u "(II)I"), (29, .methodref 14 340), (0, .nameAndType 341 342), (0, u "copyOfRangeByte"), (0, u "([BII)[B"), (0, .methodref 14 344), (0, .nameAndType 345 346), (0, u "checkLength"), (0, u "(II)V"), (28, .class_ 376), (0, u "java/util/Arrays$ArrayList"), (68, u "$assertionsDisabled"), (269, u "MIN_ARRAY_SORT_GRAN"), (0, u "I"), (2, u "INSERTIONSORT_THRESHOLD"), (255, .class_ 976), (0, u "java/util/Arrays$ArrayItr")] 52

def k15m0 : Method := { name := "<init>", desc := "()V", sig := { parameters := [], returnType := none }, accessFlags := 2, code := none }
def k15c1 : Code := { maxStack := 4, maxLocals := 2, code := jdk_65_method_131_code, exceptionTable := #[], attributes := #[] }
def k15m1 : Method := { name := "checkLength", desc := "(II)V", sig := { parameters := [.int, .int], returnType := none }, accessFlags := 10, code := some k15c1 }
def k15c2 : Code := { maxStack := 3, maxLocals := 3, code := jdk_65_method_132_code, exceptionTable := #[], attributes := #[] }
def k15m2 : Method := { name := "copyOfRange", desc := "([BII)[B", sig := { parameters := [(.array .byte), .int, .int], returnType := some (.array .byte) }, accessFlags := 9, code := some k15c2 }
def k15c3 : Code := { maxStack := 6, maxLocals := 5, code := jdk_65_method_133_code, exceptionTable := #[], attributes := #[] }
def k15m3 : Method := { name := "copyOfRangeByte", desc := "([BII)[B", sig := { parameters := [(.array .byte), .int, .int], returnType := some (.array .byte) }, accessFlags := 10, code := some k15c3 }
/-- java/util/Arrays -/
def k15 : Class := { plain "java/util/Arrays" (some 0) with
  accessFlags := 49
  interfaces := #[]
  cf := some (fileOf pool15 14 #[.nestMembers #[975, 375, 113, 74]] #[{ accessFlags := 2, nameIndex := 5, descriptorIndex := 6, attributes := #[] }, { accessFlags := 10, nameIndex := 345, descriptorIndex := 346, attributes := #[] }, { accessFlags := 9, nameIndex := 139, descriptorIndex := 342, attributes := #[] }, { accessFlags := 10, nameIndex := 341, descriptorIndex := 342, attributes := #[] }] 49 2 #[] #[{ accessFlags := 26, nameIndex := 715, descriptorIndex := 716, attributes := #[] }, { accessFlags := 26, nameIndex := 719, descriptorIndex := 716, attributes := #[] }, { accessFlags := 4120, nameIndex := 445, descriptorIndex := 117, attributes := #[] }])
  fields := #[{ name := "MIN_ARRAY_SORT_GRAN", type := .int, accessFlags := 26, slot := 0, constantValue := 0 }, { name := "INSERTIONSORT_THRESHOLD", type := .int, accessFlags := 26, slot := 1, constantValue := 0 }, { name := "$assertionsDisabled", type := .boolean, accessFlags := 4120, slot := 2, constantValue := 0 }]
  methods := #[k15m0, k15m1, k15m2, k15m3]
  instanceTypes := #[]
  staticTypes := #[.int, .int, .boolean]
  resolved := Array.replicate 1029 none
  statics := none }

def pool16 : Array CpInfo := pool [(1, .class_ 2), (0, u "java/lang/Math"), (1, .class_ 6), (1, u "java/lang/Object"), (0, u "<init>"), (0, u "()V"), (89, .class_ 100), (1, u "java/lang/Math$RandomNumberGeneratorHolder"), (71, u "negativeZeroFloatBits"), (0, u "J"), (2, u "negativeZeroDoubleBits"), (24, u "min"), (43, u "$assertionsDisabled"), (0, u "Z"), (88, u "(II)I"), (2, u "twoToTheDoubleScaleDown"), (0, u "D"), (4, u "twoToTheDoubleScaleUp"), (9, u "E"), (3, u "PI"), (2, u "TAU"), (2, u "DEGREES_TO_RADIANS"), (0, u "RADIANS_TO_DEGREES")] 94

def k16m0 : Method := { name := "<init>", desc := "()V", sig := { parameters := [], returnType := none }, accessFlags := 2, code := none }
def k16c1 : Code := { maxStack := 2, maxLocals := 2, code := jdk_29_method_69_code, exceptionTable := #[], attributes := #[] }
def k16m1 : Method := { name := "min", desc := "(II)I", sig := { parameters := [.int, .int], returnType := some .int }, accessFlags := 9, code := some k16c1 }
/-- java/lang/Math -/
def k16 : Class := { plain "java/lang/Math" (some 0) with
  accessFlags := 49
  interfaces := #[]
  cf := some (fileOf pool16 1 #[.nestMembers #[98]] #[{ accessFlags := 2, nameIndex := 7, descriptorIndex := 8, attributes := #[] }, { accessFlags := 9, nameIndex := 201, descriptorIndex := 335, attributes := #[] }] 49 4 #[] #[{ accessFlags := 25, nameIndex := 354, descriptorIndex := 339, attributes := #[] }, { accessFlags := 25, nameIndex := 358, descriptorIndex := 339, attributes := #[] }, { accessFlags := 25, nameIndex := 361, descriptorIndex := 339, attributes := #[] }, { accessFlags := 26, nameIndex := 364, descriptorIndex := 339, attributes := #[] }, { accessFlags := 26, nameIndex := 365, descriptorIndex := 339, attributes := #[] }, { accessFlags := 26, nameIndex := 172, descriptorIndex := 173, attributes := #[] }, { accessFlags := 26, nameIndex := 176, descriptorIndex := 173, attributes := #[] }, { accessFlags := 8, nameIndex := 344, descriptorIndex := 339, attributes := #[] }, { accessFlags := 8, nameIndex := 338, descriptorIndex := 339, attributes := #[] }, { accessFlags := 4120, nameIndex := 245, descriptorIndex := 246, attributes := #[] }])
  fields := #[{ name := "E", type := .double, accessFlags := 25, slot := 0, constantValue := 0 }, { name := "PI", type := .double, accessFlags := 25, slot := 1, constantValue := 0 }, { name := "TAU", type := .double, accessFlags := 25, slot := 2, constantValue := 0 }, { name := "DEGREES_TO_RADIANS", type := .double, accessFlags := 26, slot := 3, constantValue := 0 }, { name := "RADIANS_TO_DEGREES", type := .double, accessFlags := 26, slot := 4, constantValue := 0 }, { name := "negativeZeroFloatBits", type := .long, accessFlags := 26, slot := 5, constantValue := 0 }, { name := "negativeZeroDoubleBits", type := .long, accessFlags := 26, slot := 6, constantValue := 0 }, { name := "twoToTheDoubleScaleUp", type := .double, accessFlags := 8, slot := 7, constantValue := 0 }, { name := "twoToTheDoubleScaleDown", type := .double, accessFlags := 8, slot := 8, constantValue := 0 }, { name := "$assertionsDisabled", type := .boolean, accessFlags := 4120, slot := 9, constantValue := 0 }]
  methods := #[k16m0, k16m1]
  instanceTypes := #[]
  staticTypes := #[.double, .double, .double, .double, .double, .long, .long, .double, .double, .boolean]
  resolved := Array.replicate 460 none
  statics := none }

def pool17 : Array CpInfo := pool [(2, .class_ 4), (1, u "java/lang/Object"), (0, u "<init>"), (0, u "()V"), (1, .class_ 10), (1, u "java/lang/System"), (0, u "allowSecurityManager"), (0, u "I"), (16, u "cons"), (0, u "Ljava/io/Console;"), (77, .class_ 110), (1, u "java/lang/System$CallersHolder"), (43, u "initialErrStream"), (0, u "Ljava/io/PrintStream;"), (19, u "security"), (0, u "Ljava/lang/SecurityManager;"), (31, .class_ 209), (0, u "java/lang/System$1"), (7, u "props"), (0, u "Ljava/util/Properties;"), (2, u "lineSeparator"), (0, u "Ljava/lang/String;"), (96, .class_ 321), (1, u "java/lang/System$LoggerFinder"), (5, .class_ 328), (0, u "java/lang/System$Logger"), (67, u "err"), (2, u "out"), (91, u "notSupportedJnuEncoding"), (15, u "in"), (17, u "initialIn"), (0, u "Ljava/io/InputStream;"), (35, u "bootLayer"), (0, u "Ljava/lang/ModuleLayer;"), (99, .class_ 664), (0, u "java/lang/System$2"), (9, u "NEVER"), (2, u "MAYBE"), (49, u "arraycopy"), (0, u "(Ljava/lang/Object;ILjava/lang/Object;II)V"), (72, .class_ 802), (0, u "java/lang/System$Logger$Level")] 31

def k17m0 : Method := { name := "<init>", desc := "()V", sig := { parameters := [], returnType := none }, accessFlags := 2, code := none }
def k17m1 : Method := { name := "arraycopy", desc := "(Ljava/lang/Object;ILjava/lang/Object;II)V", sig := { parameters := [(.object "java/lang/Object"), .int, (.object "java/lang/Object"), .int, .int], returnType := none }, accessFlags := 265, code := none }
/-- java/lang/System -/
def k17 : Class := { plain "java/lang/System" (some 0) with
  accessFlags := 49
  interfaces := #[]
  cf := some (fileOf pool17 8 #[.nestMembers #[319, 327, 801, 108, 663, 208]] #[{ accessFlags := 2, nameIndex := 5, descriptorIndex := 6, attributes := #[] }, { accessFlags := 265, nameIndex := 727, descriptorIndex := 728, attributes := #[] }] 49 2 #[] #[{ accessFlags := 25, nameIndex := 507, descriptorIndex := 526, attributes := #[] }, { accessFlags := 25, nameIndex := 399, descriptorIndex := 155, attributes := #[] }, { accessFlags := 25, nameIndex := 396, descriptorIndex := 155, attributes := #[] }, { accessFlags := 10, nameIndex := 525, descriptorIndex := 526, attributes := #[] }, { accessFlags := 26, nameIndex := 674, descriptorIndex := 12, attributes := #[] }, { accessFlags := 26, nameIndex := 677, descriptorIndex := 12, attributes := #[] }, { accessFlags := 10, nameIndex := 11, descriptorIndex := 12, attributes := #[] }, { accessFlags := 74, nameIndex := 175, descriptorIndex := 176, attributes := #[] }, { accessFlags := 10, nameIndex := 491, descriptorIndex := 222, attributes := #[] }, { accessFlags := 74, nameIndex := 29, descriptorIndex := 30, attributes := #[] }, { accessFlags := 74, nameIndex := 154, descriptorIndex := 155, attributes := #[] }, { accessFlags := 10, nameIndex := 217, descriptorIndex := 218, attributes := #[] }, { accessFlags := 10, nameIndex := 221, descriptorIndex := 222, attributes := #[] }, { accessFlags := 8, nameIndex := 562, descriptorIndex := 563, attributes := #[] }])
  fields := #[{ name := "in", type := (.object "java/io/InputStream"), accessFlags := 25, slot := 0, constantValue := 0 }, { name := "out", type := (.object "java/io/PrintStream"), accessFlags := 25, slot := 1, constantValue := 0 }, { name := "err", type := (.object "java/io/PrintStream"), accessFlags := 25, slot := 2, constantValue := 0 }, { name := "initialIn", type := (.object "java/io/InputStream"), accessFlags := 10, slot := 3, constantValue := 0 }, { name := "NEVER", type := .int, accessFlags := 26, slot := 4, constantValue := 0 }, { name := "MAYBE", type := .int, accessFlags := 26, slot := 5, constantValue := 0 }, { name := "allowSecurityManager", type := .int, accessFlags := 10, slot := 6, constantValue := 0 }, { name := "security", type := (.object "java/lang/SecurityManager"), accessFlags := 74, slot := 7, constantValue := 0 }, { name := "notSupportedJnuEncoding", type := (.object "java/lang/String"), accessFlags := 10, slot := 8, constantValue := 0 }, { name := "cons", type := (.object "java/io/Console"), accessFlags := 74, slot := 9, constantValue := 0 }, { name := "initialErrStream", type := (.object "java/io/PrintStream"), accessFlags := 74, slot := 10, constantValue := 0 }, { name := "props", type := (.object "java/util/Properties"), accessFlags := 10, slot := 11, constantValue := 0 }, { name := "lineSeparator", type := (.object "java/lang/String"), accessFlags := 10, slot := 12, constantValue := 0 }, { name := "bootLayer", type := (.object "java/lang/ModuleLayer"), accessFlags := 8, slot := 13, constantValue := 0 }]
  methods := #[k17m0, k17m1]
  instanceTypes := #[]
  staticTypes := #[(.object "java/io/InputStream"), (.object "java/io/PrintStream"), (.object "java/io/PrintStream"), (.object "java/io/InputStream"), .int, .int, .int, (.object "java/lang/SecurityManager"), (.object "java/lang/String"), (.object "java/io/Console"), (.object "java/io/PrintStream"), (.object "java/util/Properties"), (.object "java/lang/String"), (.object "java/lang/ModuleLayer")]
  resolved := Array.replicate 834 none
  statics := none }

def pool18 : Array CpInfo := pool [(9, u "<init>"), (6, .class_ 18), (1, u "java/lang/Object"), (0, u "()V"), (1, .class_ 23), (1, u "jdk/internal/util/ArraysSupport"), (0, u "LOG2_ARRAY_LONG_INDEX_SCALE"), (0, u "I"), (2, u "U"), (0, u "Ljdk/internal/misc/Unsafe;"), (8, u "BIG_ENDIAN"), (0, u "Z"), (8, u "LOG2_BYTE_BIT_SIZE"), (4, u "LOG2_ARRAY_INT_INDEX_SCALE"), (54, u "JLA"), (0, u "Ljdk/internal/access/JavaLangAccess;"), (11, u "LOG2_ARRAY_BOOLEAN_INDEX_SCALE"), (9, u "LOG2_ARRAY_BYTE_INDEX_SCALE"), (5, u "LOG2_ARRAY_CHAR_INDEX_SCALE"), (5, u "LOG2_ARRAY_SHORT_INDEX_SCALE"), (18, u "LOG2_ARRAY_FLOAT_INDEX_SCALE"), (24, u "LOG2_ARRAY_DOUBLE_INDEX_SCALE"), (89, u "T_BOOLEAN"), (2, u "T_CHAR"), (1, u "T_FLOAT"), (1, u "T_DOUBLE"), (1, u "T_BYTE"), (1, u "T_SHORT"), (1, u "T_INT"), (1, u "T_LONG"), (1, u "SOFT_MAX_ARRAY_LENGTH")] 83

def k18m0 : Method := { name := "<init>", desc := "()V", sig := { parameters := [], returnType := none }, accessFlags := 2, code := none }
/-- jdk/internal/util/ArraysSupport -/
def k18 : Class := { plain "jdk/internal/util/ArraysSupport" (some 0) with
  accessFlags := 33
  interfaces := #[]
  cf := some (fileOf pool18 21 #[] #[{ accessFlags := 2, nameIndex := 9, descriptorIndex := 19, attributes := #[] }] 33 16 #[] #[{ accessFlags := 24, nameIndex := 28, descriptorIndex := 29, attributes := #[] }, { accessFlags := 26, nameIndex := 38, descriptorIndex := 39, attributes := #[] }, { accessFlags := 25, nameIndex := 121, descriptorIndex := 25, attributes := #[] }, { accessFlags := 25, nameIndex := 131, descriptorIndex := 25, attributes := #[] }, { accessFlags := 25, nameIndex := 137, descriptorIndex := 25, attributes := #[] }, { accessFlags := 25, nameIndex := 143, descriptorIndex := 25, attributes := #[] }, { accessFlags := 25, nameIndex := 53, descriptorIndex := 25, attributes := #[] }, { accessFlags := 25, nameIndex := 24, descriptorIndex := 25, attributes := #[] }, { accessFlags := 25, nameIndex := 162, descriptorIndex := 25, attributes := #[] }, { accessFlags := 25, nameIndex := 187, descriptorIndex := 25, attributes := #[] }, { accessFlags := 26, nameIndex := 48, descriptorIndex := 25, attributes := #[] }, { accessFlags := 25, nameIndex := 277, descriptorIndex := 25, attributes := #[] }, { accessFlags := 25, nameIndex := 280, descriptorIndex := 25, attributes := #[] }, { accessFlags := 25, nameIndex := 282, descriptorIndex := 25, attributes := #[] }, { accessFlags := 25, nameIndex := 284, descriptorIndex := 25, attributes := #[] }, { accessFlags := 25, nameIndex := 286, descriptorIndex := 25, attributes := #[] }, { accessFlags := 25, nameIndex := 288, descriptorIndex := 25, attributes := #[] }, { accessFlags := 25, nameIndex := 290, descriptorIndex := 25, attributes := #[] }, { accessFlags := 25, nameIndex := 292, descriptorIndex := 25, attributes := #[] }, { accessFlags := 26, nameIndex := 108, descriptorIndex := 109, attributes := #[] }, { accessFlags := 25, nameIndex := 294, descriptorIndex := 25, attributes := #[] }])
  fields := #[{ name := "U", type := (.object "jdk/internal/misc/Unsafe"), accessFlags := 24, slot := 0, constantValue := 0 }, { name := "BIG_ENDIAN", type := .boolean, accessFlags := 26, slot := 1, constantValue := 0 }, { name := "LOG2_ARRAY_BOOLEAN_INDEX_SCALE", type := .int, accessFlags := 25, slot := 2, constantValue := 0 }, { name := "LOG2_ARRAY_BYTE_INDEX_SCALE", type := .int, accessFlags := 25, slot := 3, constantValue := 0 }, { name := "LOG2_ARRAY_CHAR_INDEX_SCALE", type := .int, accessFlags := 25, slot := 4, constantValue := 0 }, { name := "LOG2_ARRAY_SHORT_INDEX_SCALE", type := .int, accessFlags := 25, slot := 5, constantValue := 0 }, { name := "LOG2_ARRAY_INT_INDEX_SCALE", type := .int, accessFlags := 25, slot := 6, constantValue := 0 }, { name := "LOG2_ARRAY_LONG_INDEX_SCALE", type := .int, accessFlags := 25, slot := 7, constantValue := 0 }, { name := "LOG2_ARRAY_FLOAT_INDEX_SCALE", type := .int, accessFlags := 25, slot := 8, constantValue := 0 }, { name := "LOG2_ARRAY_DOUBLE_INDEX_SCALE", type := .int, accessFlags := 25, slot := 9, constantValue := 0 }, { name := "LOG2_BYTE_BIT_SIZE", type := .int, accessFlags := 26, slot := 10, constantValue := 0 }, { name := "T_BOOLEAN", type := .int, accessFlags := 25, slot := 11, constantValue := 0 }, { name := "T_CHAR", type := .int, accessFlags := 25, slot := 12, constantValue := 0 }, { name := "T_FLOAT", type := .int, accessFlags := 25, slot := 13, constantValue := 0 }, { name := "T_DOUBLE", type := .int, accessFlags := 25, slot := 14, constantValue := 0 }, { name := "T_BYTE", type := .int, accessFlags := 25, slot := 15, constantValue := 0 }, { name := "T_SHORT", type := .int, accessFlags := 25, slot := 16, constantValue := 0 }, { name := "T_INT", type := .int, accessFlags := 25, slot := 17, constantValue := 0 }, { name := "T_LONG", type := .int, accessFlags := 25, slot := 18, constantValue := 0 }, { name := "JLA", type := (.object "jdk/internal/access/JavaLangAccess"), accessFlags := 26, slot := 19, constantValue := 0 }, { name := "SOFT_MAX_ARRAY_LENGTH", type := .int, accessFlags := 25, slot := 20, constantValue := 0 }]
  methods := #[k18m0]
  instanceTypes := #[]
  staticTypes := #[(.object "jdk/internal/misc/Unsafe"), .boolean, .int, .int, .int, .int, .int, .int, .int, .int, .int, .int, .int, .int, .int, .int, .int, .int, .int, (.object "jdk/internal/access/JavaLangAccess"), .int]
  resolved := Array.replicate 378 none
  statics := none }

def pool19 : Array CpInfo := pool [(1, u "java/lang/Cloneable"), (0, .class_ 1), (0, u "java/lang/Object"), (0, .class_ 3)] 3

/-- java/lang/Cloneable -/
def k19 : Class := { plain "java/lang/Cloneable" (some 0) with
  accessFlags := 1537
  interfaces := #[]
  cf := some (fileOf pool19 2 #[] #[] 1537 4 #[] #[])
  fields := #[]
  methods := #[]
  instanceTypes := #[]
  staticTypes := #[]
  resolved := Array.replicate 8 none
  statics := none }

/-- the primitive byte -/
def k20 : Class := { plain "byte" none with kind := .primitive 'B', accessFlags := 0x411 }
/-- [B -/
def k21 : Class := { plain "[B" (some 0) with kind := .array 20 .byte, interfaces := #[19, 2], accessFlags := 1041 }

/-- the primitive char -/
def k22 : Class := { plain "char" none with kind := .primitive 'C', accessFlags := 0x411 }
/-- [C -/
def k23 : Class := { plain "[C" (some 0) with kind := .array 22 .char, interfaces := #[19, 2], accessFlags := 1041 }

/-- the primitive int -/
def k24 : Class := { plain "int" none with kind := .primitive 'I', accessFlags := 0x411 }
/-- [I -/
def k25 : Class := { plain "[I" (some 0) with kind := .array 24 .int, interfaces := #[19, 2], accessFlags := 1041 }

def heap : Heap := #[{ cls := 7, slots := #[.long 0, .int 1, .null, .int 0, .null, .int 0, .int 0], vm := .statics 7 },
  { cls := 12, slots := #[.ref 3], vm := .statics 12 },
  { cls := 13, slots := #[.null, .null, .null], vm := .statics 13 },
  { cls := 12, slots := #[.null, .null], vm := .none }]
def classes : Array Class := #[k0, k1, k2, k3, k4, k5, k6, k7, k8, k9, k10, k11, k12, k13, k14, k15, k16, k17, k18, k19, k20, k21, k22, k23, k24, k25]
def interned : List (Array UInt16 × Addr) := []
def slotsUsed : Nat := 13
def theMethod : MethodId := ⟨1, 1⟩
def args0 : Array Value := #[.int 5, .int 1, .int 7, .int 3, .int 2]
def aboutOver (below : List Frame) : State where
  vm := { classes := classes, interned := interned.toArray }
  heap := heap
  slotsUsed := slotsUsed
  threads := #[{ frames := .invoking theMethod args0 :: below }]
def below0 : List Frame := [.native { method := ⟨0, 0⟩, args := #[] }]
def about1 : State := aboutOver below0
def p0 : Program := .bare "" "" ""
def e0 : Env := launch0.env 0 0 0
theorem w_frames : about1.frames = Frame.invoking theMethod args0 :: below0 := rfl
set_option maxRecDepth 65536 in
theorem w_args : argsFit about1.vm theMethod args0 = true := by decide +kernel
set_option maxRecDepth 65536 in
theorem w_heap : heapFits about1 = true := by decide +kernel
set_option maxRecDepth 65536 in
theorem w_runnable : about1.curStatus? = some .runnable := by decide +kernel
set_option maxRecDepth 65536 in
theorem w_alone : about1.alone = true := by decide +kernel
set_option maxRecDepth 65536 in
theorem w_named : about1.methodNamed? x = some theMethod := by decide +kernel
set_option maxRecDepth 65536 in
theorem w_hears : about1.hears theMethod below0 = true := by decide +kernel
set_option maxRecDepth 65536 in
theorem w_ripe : about1.ripe theMethod args0 below0 = true := by decide +kernel
theorem w_running : about1.status = .running := rfl
set_option maxRecDepth 65536 in
theorem w_room : about1.hasRoom e0.platform room_1 = true :=
  launch0.hasRoom_least _ room_1 (by decide +kernel) (by decide +kernel) (by decide +kernel) (by decide +kernel) (by decide +kernel) (by decide +kernel)
theorem allAtoms_all (ts : List Jvm.Cond) (a : Array Jvm.Value) (st : Jvm.State) : (allAtoms ts).before a st = ts.all (fun c => c.before a st) := by
  induction ts with
  | nil => rfl
  | cons c t ih =>
    show (Jvm.Cond.and c (allAtoms t)).before a st = _
    rw [Jvm.Cond.before_and, ih, List.all_cons]
def words1 : List Jvm.Cond := Jvm.Cond.code x code maxLocals ret :: tables_1
/-- a 'code' word, met by the world's own term for the bytes: nothing is compared byte by byte -/
theorem code_word {y : MethodName} {bytes : ByteArray} {mx : Nat} {rt : Option FieldType} {a : Array Value} {s : State} {m : MethodId} {meth : Method} {c : Code} (h1 : s.methodNamed? y = some m) (h2 : s.vm.method? m = some meth) (h3 : meth.code = some c) (h4 : c.code = bytes)
    (h5 : (c.maxLocals == mx && c.exceptionTable.isEmpty && decide (c.maxStack ≤ mostOperands) && decide (meth.sig.returnType = rt) && !meth.locks && decide (parseMethodDescriptor y.desc = some meth.sig)) = true) : (Jvm.Cond.code y bytes mx rt).before a s = true := by
  simp only [Bool.and_eq_true, beq_iff_eq, Bool.not_eq_true', decide_eq_true_eq] at h5
  obtain ⟨⟨⟨⟨⟨g1, g2⟩, g3⟩, g4⟩, g5⟩, g6⟩ := h5
  simp [Cond.before, Cond.holds, Cond.value, h1, h2, h3, h4, g1, g2, g3, g4, g5, g6]
def isCode : Jvm.Cond → Bool
  | .code _ _ _ _ => true
  | _ => false
theorem all_split {L : List Jvm.Cond} {P : Jvm.Cond → Bool} (h1 : L.all (fun c => isCode c || P c) = true) (h2 : ∀ c ∈ L.filter isCode, P c = true) : L.all P = true := by
  refine List.all_eq_true.mpr fun c hc => ?_
  have h := List.all_eq_true.mp h1 c hc
  rcases Bool.eq_false_or_eq_true (isCode c) with hi | hi
  · exact h2 c (List.mem_filter.mpr ⟨hc, hi⟩)
  · simpa [hi] using h
set_option maxRecDepth 65536 in
theorem w_c0 : (Jvm.Cond.code x code maxLocals ret).before args0 about1 = true := code_word (m := ⟨1, 1⟩) (meth := k1m1) (c := k1c1) (by decide +kernel) rfl rfl rfl (by decide +kernel)
set_option maxRecDepth 65536 in
theorem w_c1 : (Jvm.Cond.code ({ cls := "java/lang/String", name := "<init>", desc := "([C)V" } : Jvm.MethodName) jdk_42_method_3_code (2 : Nat) (Option.none : Option Jvm.ClassFile.FieldType)).before args0 about1 = true := code_word (m := ⟨7, 1⟩) (meth := k7m1) (c := k7c1) (by decide +kernel) rfl rfl rfl (by decide +kernel)
set_option maxRecDepth 65536 in
theorem w_c2 : (Jvm.Cond.code ({ cls := "java/lang/String", name := "<init>", desc := "([CIILjava/lang/Void;)V" } : Jvm.MethodName) jdk_42_method_149_code (6 : Nat) (Option.none : Option Jvm.ClassFile.FieldType)).before args0 about1 = true := code_word (m := ⟨7, 5⟩) (meth := k7m5) (c := k7c5) (by decide +kernel) rfl rfl rfl (by decide +kernel)
set_option maxRecDepth 65536 in
theorem w_c3 : (Jvm.Cond.code ({ cls := "java/lang/Object", name := "<init>", desc := "()V" } : Jvm.MethodName) object_method_1_code (1 : Nat) (Option.none : Option Jvm.ClassFile.FieldType)).before args0 about1 = true := code_word (m := ⟨0, 0⟩) (meth := k0m0) (c := k0c0) (by decide +kernel) rfl rfl rfl (by decide +kernel)
set_option maxRecDepth 65536 in
theorem w_c4 : (Jvm.Cond.code ({ cls := "java/lang/StringUTF16", name := "compress", desc := "([CII)[B" } : Jvm.MethodName) jdk_52_method_16_code (6 : Nat) (Option.some (Jvm.ClassFile.FieldType.array Jvm.ClassFile.FieldType.byte))).before args0 about1 = true := code_word (m := ⟨8, 2⟩) (meth := k8m2) (c := k8c2) (by decide +kernel) rfl rfl rfl (by decide +kernel)
set_option maxRecDepth 65536 in
theorem w_c5 : (Jvm.Cond.code ({ cls := "java/lang/StringUTF16", name := "compress", desc := "([CI[BII)I" } : Jvm.MethodName) jdk_52_method_21_code (7 : Nat) (Option.some Jvm.ClassFile.FieldType.int)).before args0 about1 = true := code_word (m := ⟨8, 3⟩) (meth := k8m3) (c := k8c3) (by decide +kernel) rfl rfl rfl (by decide +kernel)
set_option maxRecDepth 65536 in
theorem w_c6 : (Jvm.Cond.code ({ cls := "java/lang/StringUTF16", name := "coderFromArrayLen", desc := "([BI)B" } : Jvm.MethodName) jdk_52_method_15_code (2 : Nat) (Option.some Jvm.ClassFile.FieldType.byte)).before args0 about1 = true := code_word (m := ⟨8, 1⟩) (meth := k8m1) (c := k8c1) (by decide +kernel) rfl rfl rfl (by decide +kernel)
set_option maxRecDepth 65536 in
theorem w_c7 : (Jvm.Cond.code ({ cls := "com/example/lookahead/lookahead/runtime/Token", name := "<init>", desc := "(Lcom/example/lookahead/lookahead/core/Terminal;Ljava/lang/String;IIII)V" } : Jvm.MethodName) prog_64_method_1_code (7 : Nat) (Option.none : Option Jvm.ClassFile.FieldType)).before args0 about1 = true := code_word (m := ⟨9, 0⟩) (meth := k9m0) (c := k9c0) (by decide +kernel) rfl rfl rfl (by decide +kernel)
set_option maxRecDepth 65536 in
theorem w_c8 : (Jvm.Cond.code ({ cls := "com/example/lookahead/lookahead/runtime/Token", name := "text", desc := "()Ljava/lang/String;" } : Jvm.MethodName) prog_64_method_3_code (1 : Nat) (Option.some (Jvm.ClassFile.FieldType.object "java/lang/String"))).before args0 about1 = true := code_word (m := ⟨9, 1⟩) (meth := k9m1) (c := k9c1) (by decide +kernel) rfl rfl rfl (by decide +kernel)
set_option maxRecDepth 65536 in
theorem w_c9 : (Jvm.Cond.code ({ cls := "java/lang/String", name := "substring", desc := "(II)Ljava/lang/String;" } : Jvm.MethodName) jdk_42_method_92_code (5 : Nat) (Option.some (Jvm.ClassFile.FieldType.object "java/lang/String"))).before args0 about1 = true := code_word (m := ⟨7, 4⟩) (meth := k7m4) (c := k7c4) (by decide +kernel) rfl rfl rfl (by decide +kernel)
set_option maxRecDepth 65536 in
theorem w_c10 : (Jvm.Cond.code ({ cls := "java/lang/String", name := "length", desc := "()I" } : Jvm.MethodName) jdk_42_method_54_code (1 : Nat) (Option.some Jvm.ClassFile.FieldType.int)).before args0 about1 = true := code_word (m := ⟨7, 2⟩) (meth := k7m2) (c := k7c2) (by decide +kernel) rfl rfl rfl (by decide +kernel)
set_option maxRecDepth 65536 in
theorem w_c11 : (Jvm.Cond.code ({ cls := "java/lang/String", name := "coder", desc := "()B" } : Jvm.MethodName) jdk_42_method_152_code (1 : Nat) (Option.some Jvm.ClassFile.FieldType.byte)).before args0 about1 = true := code_word (m := ⟨7, 7⟩) (meth := k7m7) (c := k7c7) (by decide +kernel) rfl rfl rfl (by decide +kernel)
set_option maxRecDepth 65536 in
theorem w_c12 : (Jvm.Cond.code ({ cls := "java/lang/String", name := "checkBoundsBeginEnd", desc := "(III)V" } : Jvm.MethodName) jdk_42_method_158_code (3 : Nat) (Option.none : Option Jvm.ClassFile.FieldType)).before args0 about1 = true := code_word (m := ⟨7, 10⟩) (meth := k7m10) (c := k7c10) (by decide +kernel) rfl rfl rfl (by decide +kernel)
set_option maxRecDepth 65536 in
theorem w_c13 : (Jvm.Cond.code ({ cls := "jdk/internal/util/Preconditions", name := "checkFromToIndex", desc := "(IIILjava/util/function/BiFunction;)I" } : Jvm.MethodName) jdk_41_method_12_code (4 : Nat) (Option.some Jvm.ClassFile.FieldType.int)).before args0 about1 = true := code_word (m := ⟨13, 2⟩) (meth := k13m2) (c := k13c2) (by decide +kernel) rfl rfl rfl (by decide +kernel)
set_option maxRecDepth 65536 in
theorem w_c14 : (Jvm.Cond.code ({ cls := "java/lang/String", name := "isLatin1", desc := "()Z" } : Jvm.MethodName) jdk_42_method_154_code (1 : Nat) (Option.some Jvm.ClassFile.FieldType.boolean)).before args0 about1 = true := code_word (m := ⟨7, 8⟩) (meth := k7m8) (c := k7c8) (by decide +kernel) rfl rfl rfl (by decide +kernel)
set_option maxRecDepth 65536 in
theorem w_c15 : (Jvm.Cond.code ({ cls := "java/lang/StringLatin1", name := "newString", desc := "([BII)Ljava/lang/String;" } : Jvm.MethodName) jdk_43_method_47_code (3 : Nat) (Option.some (Jvm.ClassFile.FieldType.object "java/lang/String"))).before args0 about1 = true := code_word (m := ⟨14, 2⟩) (meth := k14m2) (c := k14c2) (by decide +kernel) rfl rfl rfl (by decide +kernel)
set_option maxRecDepth 65536 in
theorem w_c16 : (Jvm.Cond.code ({ cls := "com/example/lookahead/lookahead/runtime/TokenTextPinLaw", name := "charOk", desc := "(Ljava/lang/String;[CIII)Z" } : Jvm.MethodName) method_3_code (5 : Nat) (Option.some Jvm.ClassFile.FieldType.boolean)).before args0 about1 = true := code_word (m := ⟨1, 2⟩) (meth := k1m2) (c := k1c2) (by decide +kernel) rfl rfl rfl (by decide +kernel)
set_option maxRecDepth 65536 in
theorem w_c17 : (Jvm.Cond.code ({ cls := "java/util/Arrays", name := "copyOfRange", desc := "([BII)[B" } : Jvm.MethodName) jdk_65_method_132_code (3 : Nat) (Option.some (Jvm.ClassFile.FieldType.array Jvm.ClassFile.FieldType.byte))).before args0 about1 = true := code_word (m := ⟨15, 2⟩) (meth := k15m2) (c := k15c2) (by decide +kernel) rfl rfl rfl (by decide +kernel)
set_option maxRecDepth 65536 in
theorem w_c18 : (Jvm.Cond.code ({ cls := "java/util/Arrays", name := "copyOfRangeByte", desc := "([BII)[B" } : Jvm.MethodName) jdk_65_method_133_code (5 : Nat) (Option.some (Jvm.ClassFile.FieldType.array Jvm.ClassFile.FieldType.byte))).before args0 about1 = true := code_word (m := ⟨15, 3⟩) (meth := k15m3) (c := k15c3) (by decide +kernel) rfl rfl rfl (by decide +kernel)
set_option maxRecDepth 65536 in
theorem w_c19 : (Jvm.Cond.code ({ cls := "java/util/Arrays", name := "checkLength", desc := "(II)V" } : Jvm.MethodName) jdk_65_method_131_code (2 : Nat) (Option.none : Option Jvm.ClassFile.FieldType)).before args0 about1 = true := code_word (m := ⟨15, 1⟩) (meth := k15m1) (c := k15c1) (by decide +kernel) rfl rfl rfl (by decide +kernel)
set_option maxRecDepth 65536 in
theorem w_c20 : (Jvm.Cond.code ({ cls := "java/lang/Math", name := "min", desc := "(II)I" } : Jvm.MethodName) jdk_29_method_69_code (2 : Nat) (Option.some Jvm.ClassFile.FieldType.int)).before args0 about1 = true := code_word (m := ⟨16, 1⟩) (meth := k16m1) (c := k16c1) (by decide +kernel) rfl rfl rfl (by decide +kernel)
set_option maxRecDepth 65536 in
theorem w_c21 : (Jvm.Cond.code ({ cls := "java/lang/String", name := "<init>", desc := "([BB)V" } : Jvm.MethodName) jdk_42_method_151_code (3 : Nat) (Option.none : Option Jvm.ClassFile.FieldType)).before args0 about1 = true := code_word (m := ⟨7, 6⟩) (meth := k7m6) (c := k7c6) (by decide +kernel) rfl rfl rfl (by decide +kernel)
set_option maxRecDepth 65536 in
theorem w_c22 : (Jvm.Cond.code ({ cls := "java/lang/String", name := "charAt", desc := "(I)C" } : Jvm.MethodName) jdk_42_method_56_code (2 : Nat) (Option.some Jvm.ClassFile.FieldType.char)).before args0 about1 = true := code_word (m := ⟨7, 3⟩) (meth := k7m3) (c := k7c3) (by decide +kernel) rfl rfl rfl (by decide +kernel)
set_option maxRecDepth 65536 in
theorem w_c23 : (Jvm.Cond.code ({ cls := "java/lang/StringLatin1", name := "charAt", desc := "([BI)C" } : Jvm.MethodName) jdk_43_method_2_code (2 : Nat) (Option.some Jvm.ClassFile.FieldType.char)).before args0 about1 = true := code_word (m := ⟨14, 1⟩) (meth := k14m1) (c := k14c1) (by decide +kernel) rfl rfl rfl (by decide +kernel)
set_option maxRecDepth 65536 in
theorem w_c24 : (Jvm.Cond.code ({ cls := "java/lang/String", name := "checkIndex", desc := "(II)V" } : Jvm.MethodName) jdk_42_method_155_code (2 : Nat) (Option.none : Option Jvm.ClassFile.FieldType)).before args0 about1 = true := code_word (m := ⟨7, 9⟩) (meth := k7m9) (c := k7c9) (by decide +kernel) rfl rfl rfl (by decide +kernel)
set_option maxRecDepth 65536 in
theorem w_c25 : (Jvm.Cond.code ({ cls := "jdk/internal/util/Preconditions", name := "checkIndex", desc := "(IILjava/util/function/BiFunction;)I" } : Jvm.MethodName) jdk_41_method_11_code (3 : Nat) (Option.some Jvm.ClassFile.FieldType.int)).before args0 about1 = true := code_word (m := ⟨13, 1⟩) (meth := k13m1) (c := k13c1) (by decide +kernel) rfl rfl rfl (by decide +kernel)
def codes1 : List Jvm.Cond := [Jvm.Cond.code x code maxLocals ret, Jvm.Cond.code ({ cls := "java/lang/String", name := "<init>", desc := "([C)V" } : Jvm.MethodName) jdk_42_method_3_code (2 : Nat) (Option.none : Option Jvm.ClassFile.FieldType), Jvm.Cond.code ({ cls := "java/lang/String", name := "<init>", desc := "([CIILjava/lang/Void;)V" } : Jvm.MethodName) jdk_42_method_149_code (6 : Nat) (Option.none : Option Jvm.ClassFile.FieldType), Jvm.Cond.code ({ cls := "java/lang/Object", name := "<init>", desc := "()V" } : Jvm.MethodName) object_method_1_code (1 : Nat) (Option.none : Option Jvm.ClassFile.FieldType), Jvm.Cond.code ({ cls := "java/lang/StringUTF16", name := "compress", desc := "([CII)[B" } : Jvm.MethodName) jdk_52_method_16_code (6 : Nat) (Option.some (Jvm.ClassFile.FieldType.array Jvm.ClassFile.FieldType.byte)), Jvm.Cond.code ({ cls := "java/lang/StringUTF16", name := "compress", desc := "([CI[BII)I" } : Jvm.MethodName) jdk_52_method_21_code (7 : Nat) (Option.some Jvm.ClassFile.FieldType.int), Jvm.Cond.code ({ cls := "java/lang/StringUTF16", name := "coderFromArrayLen", desc := "([BI)B" } : Jvm.MethodName) jdk_52_method_15_code (2 : Nat) (Option.some Jvm.ClassFile.FieldType.byte), Jvm.Cond.code ({ cls := "com/example/lookahead/lookahead/runtime/Token", name := "<init>", desc := "(Lcom/example/lookahead/lookahead/core/Terminal;Ljava/lang/String;IIII)V" } : Jvm.MethodName) prog_64_method_1_code (7 : Nat) (Option.none : Option Jvm.ClassFile.FieldType), Jvm.Cond.code ({ cls := "com/example/lookahead/lookahead/runtime/Token", name := "text", desc := "()Ljava/lang/String;" } : Jvm.MethodName) prog_64_method_3_code (1 : Nat) (Option.some (Jvm.ClassFile.FieldType.object "java/lang/String")), Jvm.Cond.code ({ cls := "java/lang/String", name := "substring", desc := "(II)Ljava/lang/String;" } : Jvm.MethodName) jdk_42_method_92_code (5 : Nat) (Option.some (Jvm.ClassFile.FieldType.object "java/lang/String")), Jvm.Cond.code ({ cls := "java/lang/String", name := "length", desc := "()I" } : Jvm.MethodName) jdk_42_method_54_code (1 : Nat) (Option.some Jvm.ClassFile.FieldType.int), Jvm.Cond.code ({ cls := "java/lang/String", name := "coder", desc := "()B" } : Jvm.MethodName) jdk_42_method_152_code (1 : Nat) (Option.some Jvm.ClassFile.FieldType.byte), Jvm.Cond.code ({ cls := "java/lang/String", name := "checkBoundsBeginEnd", desc := "(III)V" } : Jvm.MethodName) jdk_42_method_158_code (3 : Nat) (Option.none : Option Jvm.ClassFile.FieldType), Jvm.Cond.code ({ cls := "jdk/internal/util/Preconditions", name := "checkFromToIndex", desc := "(IIILjava/util/function/BiFunction;)I" } : Jvm.MethodName) jdk_41_method_12_code (4 : Nat) (Option.some Jvm.ClassFile.FieldType.int), Jvm.Cond.code ({ cls := "java/lang/String", name := "isLatin1", desc := "()Z" } : Jvm.MethodName) jdk_42_method_154_code (1 : Nat) (Option.some Jvm.ClassFile.FieldType.boolean), Jvm.Cond.code ({ cls := "java/lang/StringLatin1", name := "newString", desc := "([BII)Ljava/lang/String;" } : Jvm.MethodName) jdk_43_method_47_code (3 : Nat) (Option.some (Jvm.ClassFile.FieldType.object "java/lang/String")), Jvm.Cond.code ({ cls := "com/example/lookahead/lookahead/runtime/TokenTextPinLaw", name := "charOk", desc := "(Ljava/lang/String;[CIII)Z" } : Jvm.MethodName) method_3_code (5 : Nat) (Option.some Jvm.ClassFile.FieldType.boolean), Jvm.Cond.code ({ cls := "java/util/Arrays", name := "copyOfRange", desc := "([BII)[B" } : Jvm.MethodName) jdk_65_method_132_code (3 : Nat) (Option.some (Jvm.ClassFile.FieldType.array Jvm.ClassFile.FieldType.byte)), Jvm.Cond.code ({ cls := "java/util/Arrays", name := "copyOfRangeByte", desc := "([BII)[B" } : Jvm.MethodName) jdk_65_method_133_code (5 : Nat) (Option.some (Jvm.ClassFile.FieldType.array Jvm.ClassFile.FieldType.byte)), Jvm.Cond.code ({ cls := "java/util/Arrays", name := "checkLength", desc := "(II)V" } : Jvm.MethodName) jdk_65_method_131_code (2 : Nat) (Option.none : Option Jvm.ClassFile.FieldType), Jvm.Cond.code ({ cls := "java/lang/Math", name := "min", desc := "(II)I" } : Jvm.MethodName) jdk_29_method_69_code (2 : Nat) (Option.some Jvm.ClassFile.FieldType.int), Jvm.Cond.code ({ cls := "java/lang/String", name := "<init>", desc := "([BB)V" } : Jvm.MethodName) jdk_42_method_151_code (3 : Nat) (Option.none : Option Jvm.ClassFile.FieldType), Jvm.Cond.code ({ cls := "java/lang/String", name := "charAt", desc := "(I)C" } : Jvm.MethodName) jdk_42_method_56_code (2 : Nat) (Option.some Jvm.ClassFile.FieldType.char), Jvm.Cond.code ({ cls := "java/lang/StringLatin1", name := "charAt", desc := "([BI)C" } : Jvm.MethodName) jdk_43_method_2_code (2 : Nat) (Option.some Jvm.ClassFile.FieldType.char), Jvm.Cond.code ({ cls := "java/lang/String", name := "checkIndex", desc := "(II)V" } : Jvm.MethodName) jdk_42_method_155_code (2 : Nat) (Option.none : Option Jvm.ClassFile.FieldType), Jvm.Cond.code ({ cls := "jdk/internal/util/Preconditions", name := "checkIndex", desc := "(IILjava/util/function/BiFunction;)I" } : Jvm.MethodName) jdk_41_method_11_code (3 : Nat) (Option.some Jvm.ClassFile.FieldType.int)]
set_option maxRecDepth 65536 in
theorem codes_eq : words1.filter isCode = codes1 := rfl
theorem w_codes : ∀ c ∈ words1.filter isCode, c.before args0 about1 = true := by
  rw [codes_eq]
  intro c hc
  simp only [codes1, List.mem_cons, List.not_mem_nil, or_false] at hc
  rcases hc with rfl | rfl | rfl | rfl | rfl | rfl | rfl | rfl | rfl | rfl | rfl | rfl | rfl | rfl | rfl | rfl | rfl | rfl | rfl | rfl | rfl | rfl | rfl | rfl | rfl | rfl
  · exact w_c0
  · exact w_c1
  · exact w_c2
  · exact w_c3
  · exact w_c4
  · exact w_c5
  · exact w_c6
  · exact w_c7
  · exact w_c8
  · exact w_c9
  · exact w_c10
  · exact w_c11
  · exact w_c12
  · exact w_c13
  · exact w_c14
  · exact w_c15
  · exact w_c16
  · exact w_c17
  · exact w_c18
  · exact w_c19
  · exact w_c20
  · exact w_c21
  · exact w_c22
  · exact w_c23
  · exact w_c24
  · exact w_c25
set_option maxRecDepth 65536 in
theorem w_t1 : (words1.take 24).all (fun c => isCode c || c.before args0 about1) = true := by decide +kernel
set_option maxRecDepth 65536 in
theorem w_t2 : ((words1.drop 24).take 24).all (fun c => isCode c || c.before args0 about1) = true := by decide +kernel
set_option maxRecDepth 65536 in
theorem w_t3 : (((words1.drop 24).drop 24).take 24).all (fun c => isCode c || c.before args0 about1) = true := by decide +kernel
set_option maxRecDepth 65536 in
theorem w_t4 : ((((words1.drop 24).drop 24).drop 24).take 24).all (fun c => isCode c || c.before args0 about1) = true := by decide +kernel
set_option maxRecDepth 65536 in
theorem w_t5 : (((((words1.drop 24).drop 24).drop 24).drop 24).take 24).all (fun c => isCode c || c.before args0 about1) = true := by decide +kernel
set_option maxRecDepth 65536 in
theorem w_t6 : (((((words1.drop 24).drop 24).drop 24).drop 24).drop 24).all (fun c => isCode c || c.before args0 about1) = true := by decide +kernel
theorem w_tables : (allAtoms (Jvm.Cond.code x code maxLocals ret :: tables_1)).before args0 about1 = true := by
  rw [allAtoms_all]
  show words1.all (fun c => c.before args0 about1) = true
  refine all_split ?_ w_codes
  rw [← List.take_append_drop 24 words1, List.all_append, w_t1, ← List.take_append_drop 24 (words1.drop 24), List.all_append, w_t2, ← List.take_append_drop 24 ((words1.drop 24).drop 24), List.all_append, w_t3, ← List.take_append_drop 24 (((words1.drop 24).drop 24).drop 24), List.all_append, w_t4, ← List.take_append_drop 24 ((((words1.drop 24).drop 24).drop 24).drop 24), List.all_append, w_t5, w_t6]
  rfl
set_option maxRecDepth 65536 in
theorem w_rest : rest_1_c.before args0 about1 = true := by decide +kernel
set_option maxRecDepth 65536 in
theorem w_case : (Jvm.Cond.and given_1 narrow_1).before args0 about1 = true := by decide +kernel
set_option maxRecDepth 65536 in
theorem w_consts : constsHeld consts_1 about1 := Jvm.Lit.constsHeldB_iff.mp (by decide +kernel)
theorem w_applies : (headSpec (Jvm.Cond.code x code maxLocals ret :: tables_1) room_1).applies x e0.platform about1 = true :=
  (Spec.applies_iff w_frames).mpr ⟨w_running, w_runnable, w_alone, w_named, w_hears, w_ripe, w_room, w_tables⟩
theorem atStart : AtStart classFile x code maxLocals ret World_1 tables_1 room_1 Calls_1 rest_1 Pre_1 launch0 p0 e0 about1 theMethod args0 below0 :=
  ⟨lists_1, trivial, launch0.admits_env _ _ _, launch0.least_env, fairChoices_fair.cas, fairChoices_fair.clock, w_frames, w_args, w_heap, w_applies, ⟨w_consts, trivial⟩, w_rest, w_case⟩
end start1
theorem witness_1 : WitnessClaimed_1 := ⟨start1.p0, start1.e0, start1.about1, start1.theMethod, start1.args0, start1.below0, start1.atStart⟩
end Jvm.Pilot.@@N@@
