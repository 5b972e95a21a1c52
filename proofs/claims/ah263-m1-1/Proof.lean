import JvmDerived
import JvmDerived.Pilot.@@N@@Statement
import JvmDerived.Pilot.@@N@@Code
set_option linter.unusedVariables false
set_option linter.unusedSimpArgs false
namespace Jvm.RoadKit
open Sem ClassFile Op Lib Jvm.Stand Jvm.Free Jvm.LawKit
section Own
variable {p : Program} {l : Launch} {e : Env} {R : Room} {s : State} {m : MethodId} {args : Array Value} {below : List Frame} {meth : Method} {c : Code} {T : State} {locs : List Loc} {cells slots : Nat} {Z : State} {h : Heap} {a : Addr} {k : ClassId} {n j : Int32} {vs : List Value} {dv : Value} {ty : FieldType}
theorem own_retI (X : Stand p l e R s m args below meth c T locs cells slots) (hx : p.tables.exec = Jvm.exec) {pc : Nat} {Ls : Array Slot} {z : Int32} {rest : List Value} (hret : meth.sig.returnType = some .int) (hd : decode c.code pc = .ok (.ireturn, 1)) {fs : List Frame}
    (hl : ∀ (f : JFrame) (acts : List Action), f.method = m → f.locked = none → f.entered = [] → (doReturn e (T.setTop f) acts (some (.int z))).1 = T.setFrames fs) : Steps p.tables e below (T.setTop (mkF m pc Ls (.int z :: rest))) (T.setFrames fs) :=
  retOut X hx hret rfl (Or.inl ⟨rfl, Or.inl rfl, _, rfl⟩) hd hl
/-- the run from st ends as the contract says -/
def own_Ends (p : Program) (e : Env) (below : List Frame) (s : State) (C S : Nat) (Q : Option Value → Heap → List Loc → Prop) (st : State) : Prop :=
  ∃ s₂ o, Steps p.tables e below st s₂ ∧ s₂.status = .running ∧ Ended s₂ below o ∧ ∃ v L, o = .returned v ∧ Q v s₂.heap L ∧ FrameEnd s o s₂ L C S
theorem own_step {C S : Nat} {Q : Option Value → Heap → List Loc → Prop} {st st' : State} (f : ∀ t, Steps p.tables e below st' t → Steps p.tables e below st t) (h : own_Ends p e below s C S Q st') : own_Ends p e below s C S Q st := by
  obtain ⟨s2, o, h1, h2⟩ := h
  exact ⟨s2, o, f _ h1, h2⟩
theorem own_sstep {st st' t : State} (f : ∀ t, Steps p.tables e below st' t → Steps p.tables e below st t) (h : Steps p.tables e below st' t) : Steps p.tables e below st t := f _ h
theorem own_ret (X : Stand p l e R s m args below meth c T locs cells slots) (hlocks : meth.locks = false) {C S : Nat} {Q : Option Value → Heap → List Loc → Prop} {g : JFrame} (v : Option Value) (hv : meth.sig.returnType = none → v = none)
    (st : ∀ fs, (∀ (f : JFrame) (acts : List Action), f.method = m → f.locked = none → f.entered = [] → (doReturn e (T.setTop f) acts v).1 = T.setFrames fs) → Steps p.tables e below (T.setTop g) (T.setFrames fs))
    (hQ : Q v T.heap locs) (hc : cells ≤ C) (hs : slots ≤ S) : own_Ends p e below s C S Q (T.setTop g) := by
  obtain ⟨fs, hr, hrun, hended, hW, hsame⟩ := X.leave (v := v) hv
  exact ⟨_, _, st fs hr, hrun, hended, _, _, rfl, hQ, ⟨_, rfl⟩, hW, hsame.mono hc hs⟩
theorem own_b1 {P : Prop} [Decidable P] (hp : P) : ¬ ((if P then (1 : Int32) else (0 : Int32)) = 0) := by rw [if_pos hp]; decide
theorem own_b1n {P : Prop} [Decidable P] (hp : ¬ P) : ¬ ((if P then (0 : Int32) else (1 : Int32)) = 0) := by rw [if_neg hp]; decide
theorem own_nar01 {P : Prop} [Decidable P] : nar .boolean (if P then (0 : Int32) else (1 : Int32)) = if P then (0 : Int32) else (1 : Int32) := by split <;> rfl
theorem own_nar10 {P : Prop} [Decidable P] : nar .boolean (if P then (1 : Int32) else (0 : Int32)) = if P then (1 : Int32) else (0 : Int32) := by split <;> rfl
theorem own_lrem {tb : Tables} [Ours tb] {target : State} {g : JFrame} (ha : At T m c below) (hx : tb.exec = Jvm.exec) (hg : g.method = m) {x y : Int64} {rest : List Value} (hd : decode c.code g.pc = .ok (.lrem, 1)) (hs : g.stack = .long y :: .long x :: rest) (hy : y ≠ 0) (hr : Steps tb e below (T.setTop { g with pc := g.pc + 1, stack := .long (x % y) :: rest }) target) : Steps tb e below (T.setTop g) target :=
  XS.lrem ha hx hg hd hs hy (by rw [lrem_mod]; exact hr)
theorem own_len (X : Stand p l e R s m args below meth c T locs cells slots) (hx : p.tables.exec = Jvm.exec) (hZ : Z.Warmed39 s.vm) (eT : T.heap = h) (A : Arv Z h a k ty n vs dv) {g : JFrame} (hg : g.method = m) {rest : List Value} (hs : g.stack = .ref a :: rest) (hd : decode c.code g.pc = .ok (.arraylength, 1)) :
    ∀ target, Steps p.tables e below (T.setTop { g with pc := g.pc + 1, stack := .int n :: rest }) target → Steps p.tables e below (T.setTop g) target := by
  obtain ⟨cl, Ar, -, S, N, -, -⟩ := A
  intro t k
  refine X.arraylength hx (by rw [eT]; exact Ar.1) (State.isArrayOf_alike hZ.alike Ar.2.1) hg hs hd t ?_
  rw [len_of S N]; exact k
theorem own_ldI (X : Stand p l e R s m args below meth c T locs cells slots) (hx : p.tables.exec = Jvm.exec) (hZ : Z.Warmed39 s.vm) (eT : T.heap = h) (A : Arv Z h a k .int n vs dv) {j : Int32} {v : Value} (hj : ¬ j < 0 ∧ j < n) (hv : vs.getD j.toNatClampNeg dv = v) {g : JFrame} (hg : g.method = m) {rest : List Value} (hs : g.stack = .int j :: .ref a :: rest) (hd : decode c.code g.pc = .ok (.iaload, 1)) :
    ∀ target, Steps p.tables e below (T.setTop { g with pc := g.pc + 1, stack := v :: rest }) target → Steps p.tables e below (T.setTop g) target := by
  obtain ⟨cl, Ar, -, S, N, H, -⟩ := A
  intro t k
  exact X.iaload hx (by rw [eT]; exact Ar.1) (State.isArrayOf_alike hZ.alike Ar.2.1) Ar.2.2 (inb_of S hj) (H.at (inb_of S hj) hv) hg hs hd t k
theorem own_ldJ (X : Stand p l e R s m args below meth c T locs cells slots) (hx : p.tables.exec = Jvm.exec) (hZ : Z.Warmed39 s.vm) (eT : T.heap = h) (A : Arv Z h a k .long n vs dv) {j : Int32} {v : Value} (hj : ¬ j < 0 ∧ j < n) (hv : vs.getD j.toNatClampNeg dv = v) {g : JFrame} (hg : g.method = m) {rest : List Value} (hs : g.stack = .int j :: .ref a :: rest) (hd : decode c.code g.pc = .ok (.laload, 1)) :
    ∀ target, Steps p.tables e below (T.setTop { g with pc := g.pc + 1, stack := v :: rest }) target → Steps p.tables e below (T.setTop g) target := by
  obtain ⟨cl, Ar, -, S, N, H, -⟩ := A
  intro t k
  exact X.laload hx (by rw [eT]; exact Ar.1) (State.isArrayOf_alike hZ.alike Ar.2.1) Ar.2.2 (inb_of S hj) (H.at (inb_of S hj) hv) hg hs hd t k
theorem own_ldC (X : Stand p l e R s m args below meth c T locs cells slots) (hx : p.tables.exec = Jvm.exec) (hZ : Z.Warmed39 s.vm) (eT : T.heap = h) (A : Arv Z h a k .char n vs dv) {j : Int32} {v : Value} (hj : ¬ j < 0 ∧ j < n) (hv : vs.getD j.toNatClampNeg dv = v) {g : JFrame} (hg : g.method = m) {rest : List Value} (hs : g.stack = .int j :: .ref a :: rest) (hd : decode c.code g.pc = .ok (.caload, 1)) :
    ∀ target, Steps p.tables e below (T.setTop { g with pc := g.pc + 1, stack := v :: rest }) target → Steps p.tables e below (T.setTop g) target := by
  obtain ⟨cl, Ar, -, S, N, H, -⟩ := A
  intro t k
  exact X.caload hx (by rw [eT]; exact Ar.1) (State.isArrayOf_alike hZ.alike Ar.2.1) Ar.2.2 (inb_of S hj) (H.at (inb_of S hj) hv) hg hs hd t k
theorem own_ldB (X : Stand p l e R s m args below meth c T locs cells slots) (hx : p.tables.exec = Jvm.exec) (hZ : Z.Warmed39 s.vm) (eT : T.heap = h) (A : Arv Z h a k .byte n vs dv) {j : Int32} {v : Value} (hj : ¬ j < 0 ∧ j < n) (hv : vs.getD j.toNatClampNeg dv = v) {g : JFrame} (hg : g.method = m) {rest : List Value} (hs : g.stack = .int j :: .ref a :: rest) (hd : decode c.code g.pc = .ok (.baload, 1)) :
    ∀ target, Steps p.tables e below (T.setTop { g with pc := g.pc + 1, stack := v :: rest }) target → Steps p.tables e below (T.setTop g) target := by
  obtain ⟨cl, Ar, -, S, N, H, -⟩ := A
  intro t k
  exact X.baloadBytes hx (by rw [eT]; exact Ar.1) (State.isArrayOf_alike hZ.alike Ar.2.1) Ar.2.2 (inb_of S hj) (H.at (inb_of S hj) hv) hg hs hd t k
theorem own_stI (X : Stand p l e R s m args below meth c T locs cells slots) (hx : p.tables.exec = Jvm.exec) (hZ : Z.Warmed39 s.vm) (eT : T.heap = h) (A : Arv Z h a k .int n vs dv) {j x : Int32} {i : Nat} (hj : ¬ j < 0 ∧ j < n) (hi : j.toNatClampNeg = i) (hl : i < vs.length) {g : JFrame} (hg : g.method = m) {rest : List Value} (hs : g.stack = .int x :: .int j :: .ref a :: rest) (hd : decode c.code g.pc = .ok (.iastore, 1)) :
    ∃ T' h', Stand p l e R s m args below meth c T' (locs ++ [⟨a, j.toNatClampNeg⟩]) cells slots ∧ T'.heap = h' ∧ Wr h h' a j.toNatClampNeg (.int x) ∧ Arv Z h' a k .int n (vs.set i (.int x)) dv ∧ ∀ target, Steps p.tables e below (T'.setTop { g with pc := g.pc + 1, stack := rest }) target → Steps p.tables e below (T.setTop g) target := by
  obtain ⟨cl, Ar, q, S, N, H, G⟩ := A
  obtain ⟨T', h', X', e', W, st⟩ := stI X hx hZ eT Ar (inb_of S hj) hg hs hd
  exact ⟨T', h', X', e', W, Arv.set Ar q S N H G rfl W i hi hl, st⟩
theorem own_stJ (X : Stand p l e R s m args below meth c T locs cells slots) (hx : p.tables.exec = Jvm.exec) (hZ : Z.Warmed39 s.vm) (eT : T.heap = h) (A : Arv Z h a k .long n vs dv) {j : Int32} {x : Int64} {i : Nat} (hj : ¬ j < 0 ∧ j < n) (hi : j.toNatClampNeg = i) (hl : i < vs.length) {g : JFrame} (hg : g.method = m) {rest : List Value} (hs : g.stack = .long x :: .int j :: .ref a :: rest) (hd : decode c.code g.pc = .ok (.lastore, 1)) :
    ∃ T' h', Stand p l e R s m args below meth c T' (locs ++ [⟨a, j.toNatClampNeg⟩]) cells slots ∧ T'.heap = h' ∧ Wr h h' a j.toNatClampNeg (.long x) ∧ Arv Z h' a k .long n (vs.set i (.long x)) dv ∧ ∀ target, Steps p.tables e below (T'.setTop { g with pc := g.pc + 1, stack := rest }) target → Steps p.tables e below (T.setTop g) target := by
  obtain ⟨cl, Ar, q, S, N, H, G⟩ := A
  obtain ⟨T', h', X', e', W, st⟩ := stJ X hx hZ eT Ar (inb_of S hj) hg hs hd
  exact ⟨T', h', X', e', W, Arv.set Ar q S N H G rfl W i hi hl, st⟩
theorem own_stB (X : Stand p l e R s m args below meth c T locs cells slots) (hx : p.tables.exec = Jvm.exec) (hZ : Z.Warmed39 s.vm) (eT : T.heap = h) (A : Arv Z h a k .byte n vs dv) {j x : Int32} {i : Nat} (hj : ¬ j < 0 ∧ j < n) (hi : j.toNatClampNeg = i) (hl : i < vs.length) {g : JFrame} (hg : g.method = m) {rest : List Value} (hs : g.stack = .int x :: .int j :: .ref a :: rest) (hd : decode c.code g.pc = .ok (.bastore, 1)) :
    ∃ T' h', Stand p l e R s m args below meth c T' (locs ++ [⟨a, j.toNatClampNeg⟩]) cells slots ∧ T'.heap = h' ∧ Wr h h' a j.toNatClampNeg (.int x.toInt8.toInt32) ∧ Arv Z h' a k .byte n (vs.set i (.int x.toInt8.toInt32)) dv ∧ ∀ target, Steps p.tables e below (T'.setTop { g with pc := g.pc + 1, stack := rest }) target → Steps p.tables e below (T.setTop g) target := by
  obtain ⟨cl, Ar, q, S, N, H, G⟩ := A
  obtain ⟨T', h', X', e', W, st⟩ := stB X hx hZ eT Ar (inb_of S hj) hg hs hd
  exact ⟨T', h', X', e', W, Arv.set Ar q S N H G (fits_nar_byte x) W i hi hl, st⟩
theorem own_stC (X : Stand p l e R s m args below meth c T locs cells slots) (hx : p.tables.exec = Jvm.exec) (hZ : Z.Warmed39 s.vm) (eT : T.heap = h) (A : Arv Z h a k .char n vs dv) {j x : Int32} {i : Nat} (hj : ¬ j < 0 ∧ j < n) (hi : j.toNatClampNeg = i) (hl : i < vs.length) {g : JFrame} (hg : g.method = m) {rest : List Value} (hs : g.stack = .int x :: .int j :: .ref a :: rest) (hd : decode c.code g.pc = .ok (.castore, 1)) :
    ∃ T' h', Stand p l e R s m args below meth c T' (locs ++ [⟨a, j.toNatClampNeg⟩]) cells slots ∧ T'.heap = h' ∧ Wr h h' a j.toNatClampNeg (.int x.toUInt32.toUInt16.toUInt32.toInt32) ∧ Arv Z h' a k .char n (vs.set i (.int x.toUInt32.toUInt16.toUInt32.toInt32)) dv ∧ ∀ target, Steps p.tables e below (T'.setTop { g with pc := g.pc + 1, stack := rest }) target → Steps p.tables e below (T.setTop g) target := by
  obtain ⟨cl, Ar, q, S, N, H, G⟩ := A
  obtain ⟨T', h', X', e', W, st⟩ := stC X hx hZ eT Ar (inb_of S hj) hg hs hd
  exact ⟨T', h', X', e', W, Arv.set Ar q S N H G (fits_nar_char x) W i hi hl, st⟩
theorem own_eqI {t : Term} {q : Int32} (hq : (Jvm.Cond.eq t (.int q)).value args s none s [] = some true) : t.eval args s none [] s = some (.int q) := by
  obtain ⟨x, y, ha, hb, k1, k2⟩ := cmp_v (Or.inl hq)
  rw [Term.int_eval] at hb
  cases hb
  obtain ⟨z, rfl⟩ := k2
  simp [Cond.value, ha, Term.eval] at hq
  rw [ha, hq]
theorem own_eqR {t u : Term} {b : Addr} (hq : (Jvm.Cond.eq t u).value args s none s [] = some true) (hu : u.eval args s none [] s = some (.ref b)) : t.eval args s none [] s = some (.ref b) := by
  obtain ⟨x, y, ha, hb, k1, k2⟩ := cmp_v (Or.inl hq)
  cases hu.symm.trans hb
  have q := gotT (eq_R ha hb k2.2 rfl) hq
  rw [ha, q]
theorem own_lenA {t : Term} {cl : Cell} {q : Int32} (ht : t.eval args s none [] s = some (.ref a)) (A : Arr s s.heap a cl ty) (hq : (Term.length t).eval args s none [] s = some (.int q)) : cl.slots.size < 2 ^ 31 ∧ cl.slots.size.toInt32 = q := by
  have ha := Arr.fin (U := s) (Vm.Alike.refl _) A
  by_cases hl : cl.slots.size < 2 ^ 31
  · rw [len_f ht ha hl] at hq
    exact ⟨hl, Value.int.inj (Option.some.inj hq)⟩
  · simp [Term.eval, ht, ha, hl] at hq
theorem own_ldR (X : Stand p l e R s m args below meth c T locs cells slots) (hx : p.tables.exec = Jvm.exec) (hZ : Z.Warmed39 s.vm) (eT : T.heap = h) (A : Arv Z h a k ty n vs dv) (hr : ty.isReference = true) {j : Int32} {v : Value} (hj : ¬ j < 0 ∧ j < n) (hv : vs.getD j.toNatClampNeg dv = v) {g : JFrame} (hg : g.method = m) {rest : List Value} (hs : g.stack = .int j :: .ref a :: rest) (hd : decode c.code g.pc = .ok (.aaload, 1)) :
    ∀ target, Steps p.tables e below (T.setTop { g with pc := g.pc + 1, stack := v :: rest }) target → Steps p.tables e below (T.setTop g) target := by
  obtain ⟨cl, Ar, -, S, N, H, -⟩ := A
  intro t k
  exact X.aaload hx (by rw [eT]; exact Ar.1) (State.isArrayOf_alike hZ.alike Ar.2.1) hr Ar.2.2 (inb_of S hj) (H.at (inb_of S hj) hv) hg hs hd t k
theorem own_nf {y y' : MethodName} (hc : y'.cls = y.cls) (w : (Jvm.Cond.instanceMethod y).before args s = true) (hn : NotFace s y) : NotFace s y' := fun r0 h0 => by
  obtain ⟨mk, methM, hnamed, -⟩ := Cond.instanceMethod_spec w
  obtain ⟨kr, h1, h2⟩ := hn mk hnamed
  have q1 := findClass_of_methodNamed hnamed
  have q2 := findClass_of_methodNamed h0
  rw [hc] at q2
  have q3 : mk.cls = r0.cls := Option.some.inj (q1.symm.trans q2)
  exact ⟨kr, q3 ▸ h1, h2⟩
theorem own_selp {y : MethodName} (w : (Jvm.Cond.instanceMethod y).before args s = true) (hn : NotFace s y) (hp : s.PrivateAt y) (hy : y.cls ≠ "java/lang/invoke/MethodHandle" ∧ y.cls ≠ "java/lang/invoke/VarHandle") : (Jvm.Cond.selects y.cls y y).before args s = true := by
  obtain ⟨mk, methM, hnamed, -⟩ := Cond.instanceMethod_spec w
  obtain ⟨kr, h1, h2⟩ := hn mk hnamed
  exact selects_self_of_private (findClass_of_methodNamed hnamed) h1 h2 hp w hy
theorem own_same {y : MethodName} (w : (Jvm.Cond.instanceMethod y).before args s = true) (hn : NotFace s y) (hy : y.cls ≠ "java/lang/invoke/MethodHandle" ∧ y.cls ≠ "java/lang/invoke/VarHandle") : (Jvm.Cond.sameMethod y.cls y.cls y.name y.desc).before args s = true := by
  obtain ⟨mk, methM, hnamed, -⟩ := Cond.instanceMethod_spec w
  obtain ⟨kr, h1, h2⟩ := hn mk hnamed
  have q1 := findClass_of_methodNamed hnamed
  have q2 := State.methodFound?_of_named hnamed hy
  have q3 : s.methodNamed? ⟨y.cls, y.name, y.desc⟩ = some mk := hnamed
  simp [Cond.before, Cond.holds, Cond.value, q1, q2, q3, h1, h2]
theorem own_stR (X : Stand p l e R s m args below meth c T locs cells slots) (hx : p.tables.exec = Jvm.exec) (hZ : Z.Warmed39 s.vm) (eT : T.heap = h) (A : Arv Z h a k ty n vs dv) (hr : ty.isReference = true) {j : Int32} {v : Value} {i : Nat} (F : Sto Z h a v) (hf : fits ty v = true) (hj : ¬ j < 0 ∧ j < n) (hi : j.toNatClampNeg = i) (hl : i < vs.length) {g : JFrame} (hg : g.method = m) {rest : List Value} (hs : g.stack = v :: .int j :: .ref a :: rest) (hd : decode c.code g.pc = .ok (.aastore, 1)) :
    ∃ T' h', Stand p l e R s m args below meth c T' (locs ++ [⟨a, j.toNatClampNeg⟩]) cells slots ∧ T'.heap = h' ∧ Wr h h' a j.toNatClampNeg v ∧ Arv Z h' a k ty n (vs.set i v) dv ∧ ∀ target, Steps p.tables e below (T'.setTop { g with pc := g.pc + 1, stack := rest }) target → Steps p.tables e below (T.setTop g) target := by
  obtain ⟨cl, Ar, q, S, N, H, G⟩ := A
  obtain ⟨T', h', X', e', W, st⟩ := stR X hx hZ eT Ar (inb_of S hj) hr F hg hs hd
  exact ⟨T', h', X', e', W, Arv.set Ar q S N H G hf W i hi hl, st⟩
theorem own_stoA {y : Addr} {C : String} {t0 : FieldType} (A : Arv Z h a k t0 n vs dv) (O : OvrA Z k ty C) (I : Ins Z h y C true) : Sto Z h a (.ref y) := by
  obtain ⟨cl, Ar, q, -⟩ := A
  exact Sto.ofVA Ar q O I
theorem own_stoV {y : Addr} {C : String} {t0 : FieldType} (A : Arv Z h a k t0 n vs dv) (O : Ovr Z k C) (I : Ins Z h y C true) : Sto Z h a (.ref y) := by
  obtain ⟨cl, Ar, q, -⟩ := A
  exact Sto.ofV Ar q O I
theorem own_getD_cp (vs vd : List Value) (dv dd : Value) (sp dp nn i : Nat) : ((vd ++ List.replicate (dp + nn) dd).take dp ++ ((List.range nn).map fun i => vs.getD (sp + i) dv) ++ (vd ++ List.replicate (dp + nn) dd).drop (dp + nn)).getD i dd = if dp ≤ i ∧ i < dp + nn then vs.getD (sp + (i - dp)) dv else vd.getD i dd := by
  have hlen : dp ≤ (vd ++ List.replicate (dp + nn) dd).length := by simp; omega
  have hpad := pad_rep vd dd (dp + nn) i
  by_cases h1 : i < dp
  · rw [if_neg (by omega), ← hpad]
    have e1 : ((vd ++ List.replicate (dp + nn) dd).take dp).length = dp := by rw [List.length_take]; omega
    rw [List.getD_eq_getElem?_getD, List.append_assoc, List.getElem?_append_left (by rw [e1]; exact h1), List.getElem?_take, if_pos h1, List.getD_eq_getElem?_getD]
  · by_cases h2 : i < dp + nn
    · rw [if_pos ⟨by omega, h2⟩]
      have e1 : ((vd ++ List.replicate (dp + nn) dd).take dp).length = dp := by rw [List.length_take]; omega
      rw [List.getD_eq_getElem?_getD, List.append_assoc, List.getElem?_append_right (by rw [e1]; omega), e1, List.getElem?_append_left (by simp; omega)]
      simp [show i - dp < nn by omega]
    · rw [if_neg (by omega), ← hpad]
      have e1 : ((vd ++ List.replicate (dp + nn) dd).take dp).length = dp := by rw [List.length_take]; omega
      rw [List.getD_eq_getElem?_getD, List.getElem?_append_right (by rw [List.length_append, e1]; simp; omega), List.getElem?_drop, List.getD_eq_getElem?_getD]
      congr 2
      rw [List.length_append, e1]; simp; omega
theorem own_cp {b : Addr} {a0 : Array Value} (X : Stand p l e R s m args below meth c T locs cells slots) (hx : p.tables.exec = Jvm.exec) (hZ : Z.Warmed39 s.vm) {own : String} {index : Nat} (hown : s.vm.findClass own = some m.cls)
    (w1 : (Cond.methodLink own index Jvm.Stand.acN).before a0 Z = true) (w2 : (Cond.native Jvm.Stand.acN).before a0 Z = true) (w3 : (Cond.static Jvm.Stand.acN).before a0 Z = true) (w4 : (Cond.initialized "java/lang/System").before a0 Z = true) (eT : T.heap = h)
    {k' : ClassId} {z z' sp dp nn : Int32} {vd : List Value} {dd : Value} (A : Arv Z h a k ty z vs dv) (B : Arv Z h b k' ty z' vd dd) (hty : refKind ty = false)
    (h1 : 0 ≤ sp.toInt) (h2 : 0 ≤ dp.toInt) (h3 : 0 ≤ nn.toInt) (h4 : sp.toInt + nn.toInt ≤ z.toInt) (h5 : dp.toInt + nn.toInt ≤ z'.toInt) {n0 : Nat} (N : Fr n0 locs) (ge : n0 ≤ b)
    {g : JFrame} (hg : g.method = m) (hsize : g.locals.size = c.maxLocals) {rest : List Value} (hs : g.stack = .int nn :: .int dp :: .ref b :: .int sp :: .ref a :: rest) (hd : decode c.code g.pc = .ok (.invokestatic index, 3))
    (hf : 1 ≤ R.frames) {W : Nat} (hW : 2 * g.monitorRoom + (rest.map fun v => v.category).sum ≤ W) (hlo : W + 18 ≤ R.locals) :
    ∃ T' h' L vd', Stand p l e R s m args below meth c T' L cells slots ∧ T'.heap = h' ∧ Fr n0 L ∧ Keep h h' [b] ∧ Arv Z h' b k' ty z' vd' dd ∧ (∀ i : Nat, vd'.getD i dd = if dp.toNatClampNeg ≤ i ∧ i < dp.toNatClampNeg + nn.toNatClampNeg then vs.getD (sp.toNatClampNeg + (i - dp.toNatClampNeg)) dv else vd.getD i dd) ∧
      ∀ target, Steps p.tables e below (T'.setTop { g with pc := g.pc + 3, stack := rest }) target → Steps p.tables e below (T.setTop g) target := by
  have e0 : (0 : Int32).toInt = 0 := by decide
  have lt : ∀ {x : Int32}, 0 ≤ x.toInt → ¬ x < 0 := fun q => by rw [Int32.lt_iff_toInt_lt]; omega
  have nz : ¬ z < 0 := lt (by omega)
  have nz' : ¬ z' < 0 := lt (by omega)
  have c1 := nat_of (lt h1); have c2 := nat_of (lt h2); have c3 := nat_of (lt h3); have c4 := nat_of nz; have c5 := nat_of nz'
  obtain ⟨T', h', L, X', e', N', K', V', st⟩ := cpA X hx hZ hown w1 w2 w3 w4 eT A (B.pad (pad_rep vd dd (dp.toNatClampNeg + nn.toNatClampNeg))) (us := _) (Or.inl ⟨rfl, hty⟩) (lt h1) (lt h2) (lt h3) (by omega) (by omega) rfl (by simp) N ge hg hsize hs hd hf hW (by exact hlo)
  exact ⟨T', h', L, _, X', e', N', K', V', fun i => own_getD_cp vs vd dv dd _ _ _ i, st⟩
/-- as backOf, the callee told besides that the tables are those of Z but warmer -/
theorem own_backH {a0 : Array Value} {y : MethodName} {bytes : ByteArray} {maxL : Nat} {ret : Option FieldType} {rm : Room} {len W : Nat} {as' : Array Value} {Q : Option Value → Heap → List Loc → Prop}
    (hM : MetFree l y (head1 [Cond.code y bytes maxL ret] rm) (fun a U => a = as' ∧ Z.WarmedH U.vm ∧ U.heap = h) (fun _ _ _ _ _ => True) (fun _ U o U' => ∃ v L, o = .returned v ∧ Q v U'.heap L ∧ FrameEnd U o U' L rm.cells rm.slots))
    (hZ : Z.WarmedH s.vm) (wc : (Cond.code y bytes maxL ret).before a0 Z = true) (wz : (Cond.initialized y.cls).before a0 Z = true) (hf : rm.frames + 1 ≤ R.frames) (hl : W + (maxL + 11) + rm.locals ≤ R.locals) :
    Back l R p e below s args y len W (fun A a => a = as' ∧ A.U.heap = h ∧ A.cells + rm.cells ≤ R.cells ∧ A.slots + rm.slots ≤ R.slots)
      (fun A _ v B => ∃ L, Q v B.U.heap L ∧ B.locs = A.locs ++ L ∧ B.cells = A.cells + rm.cells ∧ B.slots = A.slots + rm.slots) := by
  refine Back.of_free (bytes := bytes) (maxL := maxL) (ret := ret) (E := fun _ _ o t L k n => k = rm.cells ∧ n = rm.slots ∧ ∃ v, o = .returned v ∧ Q v t.heap L) hM hf hl ?_ ?_ (fun _ _ _ _ _ _ _ _ _ => trivial) ?_ ?_
  · intro m meth c A a Y hp
    have hU : Z.Warmed39 A.U.vm := wtrans hZ.wide Y.warmed
    exact ⟨by show (Cond.and _ .tt).before a A.U = true; rw [Cond.before_and, mv hU wc]; rfl, mv hU wc, mv hU wz, hp.2.2.1, hp.2.2.2⟩
  · intro m meth c A a g mk Y hp
    exact ⟨hp.1, hZ.trans Y.warmed, hp.2.1⟩
  · rintro _ _ _ _ ⟨v, L, h1, h2, h3⟩
    exact ⟨L, _, _, h3, rfl, rfl, v, h1, h2⟩
  · rintro m meth c A a g mk v t L k n Y hp _ _ ⟨e1, e2, v', e3, e4⟩
    cases e3; subst e1 e2; exact ⟨L, e4, rfl, rfl, rfl⟩
end Own
end Jvm.RoadKit

namespace Jvm.RoadKit
open Sem ClassFile Op Lib Jvm.Stand Jvm.Free Jvm.LawKit
theorem own_dupX2 {tb : Tables} [Ours tb] {e : Env} {below : List Frame} {T target : State} {m : MethodId} {c : Code} {g : JFrame} (h : At T m c below) (hx : tb.exec = Jvm.exec) (hg : g.method = m) {x y z : Value} {rest : List Value} (hd : decode c.code g.pc = .ok (.dup_x2, 1)) (hs : g.stack = x :: y :: z :: rest) (hc : x.category = 1) (hc' : y.category = 1) (hc'' : z.category = 1)
    (hr : Steps tb e below (T.setTop { g with pc := g.pc + 1, stack := x :: y :: z :: x :: rest }) target) : Steps tb e below (T.setTop g) target := by
  subst hg
  jvm_step h [h.top, hx, hd, hs, hc, hc', hc'', Op.dup_x2.wp_sem]
  exact hr
end Jvm.RoadKit

namespace Jvm.Pilot.@@N@@
open Jvm Jvm.ClassFile Sem Op Lib Jvm.Free Jvm.Stand Jvm.LawKit Jvm.RoadKit Bundle Jvm.Pilot.@@N@@.Jvm.D
theorem pd_0 : parseMethodDescriptor "([I[II)I" = some ⟨[(.array .int), (.array .int), .int], some .int⟩ := by decide +kernel
theorem pd_1 : parseMethodDescriptor "([I[III)I" = some ⟨[(.array .int), (.array .int), .int, .int], some .int⟩ := by decide +kernel
theorem pd_2 : parseMethodDescriptor "(II)I" = some ⟨[.int, .int], some .int⟩ := by decide +kernel
theorem pd_3 : parseMethodDescriptor "([I[IIIZ)I" = some ⟨[(.array .int), (.array .int), .int, .int, .boolean], some .int⟩ := by decide +kernel
theorem pd_4 : parseMethodDescriptor "([I[IIIZI)I" = some ⟨[(.array .int), (.array .int), .int, .int, .boolean, .int], some .int⟩ := by decide +kernel
theorem pd_5 : parseMethodDescriptor "([I)V" = some ⟨[(.array .int)], none⟩ := by decide +kernel
theorem pd_6 : parseMethodDescriptor "()V" = some ⟨[], none⟩ := by decide +kernel
theorem pd_7 : parseMethodDescriptor "([II)V" = some ⟨[(.array .int), .int], none⟩ := by decide +kernel
theorem pd_8 : parseMethodDescriptor "(I)I" = some ⟨[.int], some .int⟩ := by decide +kernel
theorem pd_9 : parseMethodDescriptor "()[I" = some ⟨[], some (.array .int)⟩ := by decide +kernel
theorem pd_10 : parseMethodDescriptor "([I[I[II)Z" = some ⟨[(.array .int), (.array .int), (.array .int), .int], some .boolean⟩ := by decide +kernel
theorem pd_11 : parseMethodDescriptor "([I[III)Z" = some ⟨[(.array .int), (.array .int), .int, .int], some .boolean⟩ := by decide +kernel

theorem own_bind {α β : Type} {o : Option α} {f : α → Option β} {r : β} (h : o.bind f = some r) : ∃ x, o = some x ∧ f x = some r := by
  cases o with
  | none => cases h
  | some x => exact ⟨x, rfl, h⟩
theorem own_if1 {α : Type} {P : Prop} [Decidable P] {a b : Option α} {r : α} (h : P) (q : (if P then a else b) = some r) : a = some r := by rw [if_pos h] at q; exact q
theorem own_if0 {α : Type} {P : Prop} [Decidable P] {a b : Option α} {r : α} (h : ¬ P) (q : (if P then a else b) = some r) : b = some r := by rw [if_neg h] at q; exact q
def own_get (n : Int32) (L : List Int32) (j : Int32) : Option Int32 := if ¬ j < 0 ∧ j < n then some (L.getD j.toNatClampNeg 0) else none
def own_put (n : Int32) (L : List Int32) (j x : Int32) : Option (List Int32) := if (¬ j < 0 ∧ j < n) ∧ j.toNatClampNeg < L.length then some (L.set j.toNatClampNeg x) else none
def own_nw (x : Int32) : Option (List Int32) := if ¬ x < 0 ∧ x.toNatClampNeg ≤ 6 then some [0, 0, 0, 0, 0, 0] else none
theorem own_gd {n : Int32} {L : List Int32} {j x : Int32} (h : own_get n L j = some x) : (¬ j < 0 ∧ j < n) ∧ (L.map Value.int).getD j.toNatClampNeg (.int (0 : Int32)) = .int x := by
  unfold own_get at h
  split at h
  · rename_i q
    refine ⟨q, ?_⟩
    have h := Option.some.inj h
    rw [← h, List.getD_eq_getElem?_getD, List.getD_eq_getElem?_getD, List.getElem?_map]
    cases L[j.toNatClampNeg]? <;> rfl
  · cases h
theorem own_pt {n : Int32} {L L' : List Int32} {j x : Int32} (h : own_put n L j x = some L') : (¬ j < 0 ∧ j < n) ∧ j.toNatClampNeg < (L.map Value.int).length ∧ (L.map Value.int).set j.toNatClampNeg (.int x) = L'.map Value.int := by
  unfold own_put at h
  split at h
  · rename_i q
    have h := Option.some.inj h
    exact ⟨q.1, by rw [List.length_map]; exact q.2, by rw [← h, List.map_set]⟩
  · cases h
theorem own_nwd {x : Int32} {L : List Int32} (h : own_nw x = some L) : ¬ x < 0 ∧ x.toNatClampNeg ≤ 6 ∧ L = [0, 0, 0, 0, 0, 0] := by
  unfold own_nw at h
  split at h
  · rename_i q
    exact ⟨q.1, q.2, (Option.some.inj h).symm⟩
  · cases h
theorem own_pad6 (i : Nat) : (([0, 0, 0, 0, 0, 0] : List Int32).map Value.int).getD i (.int (0 : Int32)) = ([] : List Value).getD i (.int (0 : Int32)) := by
  rcases i with _ | _ | _ | _ | _ | _ | i <;> rfl

theorem d3_0 : decode jdk_29_method_65_code 0 = .ok (.iload_n 0, 1) := by decide +kernel
theorem d3_1 : decode jdk_29_method_65_code 1 = .ok (.iload_n 1, 1) := by decide +kernel
theorem d3_2 : decode jdk_29_method_65_code 2 = .ok (.if_icmp .lt 7, 3) := by decide +kernel
theorem d3_5 : decode jdk_29_method_65_code 5 = .ok (.iload_n 0, 1) := by decide +kernel
theorem d3_6 : decode jdk_29_method_65_code 6 = .ok (.goto 4, 3) := by decide +kernel
theorem d3_9 : decode jdk_29_method_65_code 9 = .ok (.iload_n 1, 1) := by decide +kernel
theorem d3_10 : decode jdk_29_method_65_code 10 = .ok (.ireturn, 1) := by decide +kernel
theorem ef_3_II (m : MethodId) (x0 : Int32) (x1 : Int32) : entryFrame m #[(.int x0), (.int x1)] 2 = mkF m 0 #[.val (.int x0), .val (.int x1)] [] := by first | (simp [entryFrame, mkF, argsToLocals, Value.category]; done) | rfl
def Q_rm3 (Z : State) (x0 : Int32) (x1 : Int32) (h0 : Heap) (n0 : Nat) (v : Option Value) (h : Heap) (L : List Loc) : Prop := v = some (.int (if x0 < x1 then x1 else x0)) ∧ Fr n0 L ∧ h = h0
set_option maxRecDepth 65536 in
set_option maxHeartbeats 40000000 in
theorem rm3 (l : Launch) (Z : State) (a0 : Array Value) (hw : ∀ d ∈ tables_1, d.before a0 Z = true) (ws : List Jvm.Cond) (x0 : Int32) (x1 : Int32) (h0 : Heap) (n0 : Nat) (Z0 : n0 ≤ h0.size) :
    MetFree l (⟨"java/lang/Math", "max", "(II)I"⟩ : MethodName) (head1 (Jvm.Cond.code (⟨"java/lang/Math", "max", "(II)I"⟩ : MethodName) jdk_29_method_65_code 2 (some .int) :: ws) ({ frames := 0, cells := 0, slots := 0, locals := 0 } : Room)) (fun a U => a = #[(.int x0), (.int x1)] ∧ Z.Warmed39 U.vm ∧ U.heap = h0) (fun _ _ _ _ _ => True) (fun _ U o U' => ∃ v L, o = .returned v ∧ Q_rm3 Z x0 x1 h0 n0 v U'.heap L ∧ FrameEnd U o U' L ({ frames := 0, cells := 0, slots := 0, locals := 0 } : Room).cells ({ frames := 0, cells := 0, slots := 0, locals := 0 } : Room).slots) := by
  refine MetFree.of_bodySF (Jvm.Free.JP.mathPlain rfl (by decide +kernel)) hisR ?_
  intro p e s m args below meth c s₁ Bd hml0 hP hK
  obtain ⟨rfl, hZ, hh⟩ := hP
  have hx := Bd.exec
  have hby := Bd.bytes
  have hml : c.maxLocals = 2 := hml0
  have hown : s.vm.findClass "java/lang/Math" = some m.cls := findClass_of_methodNamed Bd.named
  have hnm := (name_of_methodNamed Bd.named Bd.method).1
  have X0 : Stand p l e ({ frames := 0, cells := 0, slots := 0, locals := 0 } : Room) s m #[(.int x0), (.int x1)] below meth c s₁ [] 0 0 := Stand.of_body Bd
  have e0 : s₁.heap = h0 := by rw [← hh, Bd.state]; rfl
  have N0 := Fr.nil n0
  show own_Ends p e below s ({ frames := 0, cells := 0, slots := 0, locals := 0 } : Room).cells ({ frames := 0, cells := 0, slots := 0, locals := 0 } : Room).slots (Q_rm3 Z x0 x1 h0 n0) (s₁.setTop (entryFrame m #[(.int x0), (.int x1)] 2))
  rw [ef_3_II]
  refine own_step (st' := s₁.setTop (mkF m 1 #[.val (.int x0), .val (.int x1)] [(.int x0)])) (fun t k => XS.iloadN X0.here hx rfl (hb hby d3_0) rfl k) ?_
  refine own_step (st' := s₁.setTop (mkF m 2 #[.val (.int x0), .val (.int x1)] [(.int x1), (.int x0)])) (fun t k => XS.iloadN X0.here hx rfl (hb hby d3_1) rfl k) ?_
  refine own_step (st' := s₁.setTop (mkF m 10 #[.val (.int x0), .val (.int x1)] [(.int (if x0 < x1 then x1 else x0))])) (fun t k => ?_) ?_
  · by_cases hc1 : x0 < x1
    · refine XS.icmpYes X0.here hx rfl (pc0 := 2) (pc' := 9) rfl (hb hby d3_2) rfl (tlt hc1).1 (by decide) (by decide) (?_ : Steps p.tables e below (s₁.setTop (mkF m 9 #[.val (.int x0), .val (.int x1)] [])) _)
      refine XS.iloadN X0.here hx rfl (hb hby d3_9) rfl (?_ : Steps p.tables e below (s₁.setTop (mkF m 10 #[.val (.int x0), .val (.int x1)] [(.int x1)])) _)
      simpa only [if_pos hc1] using k
    · refine XS.icmpNo X0.here hx rfl (hb hby d3_2) rfl (flt hc1).1 (?_ : Steps p.tables e below (s₁.setTop (mkF m 5 #[.val (.int x0), .val (.int x1)] [])) _)
      refine XS.iloadN X0.here hx rfl (hb hby d3_5) rfl (?_ : Steps p.tables e below (s₁.setTop (mkF m 6 #[.val (.int x0), .val (.int x1)] [(.int x0)])) _)
      refine XS.goto X0.here hx rfl (pc0 := 6) (pc' := 10) rfl (hb hby d3_6) (by decide) (by decide) (?_ : Steps p.tables e below (s₁.setTop (mkF m 10 #[.val (.int x0), .val (.int x1)] [(.int x0)])) _)
      simpa only [if_neg hc1] using k
  refine own_ret X0 Bd.notSynchronized (some (.int (if x0 < x1 then x1 else x0))) (fun h => by rw [Bd.returns] at h; cases h) (fun fs hr => own_retI X0 hx Bd.returns (hb hby d3_10) hr) ?_ (by decide) (by decide)
  rw [e0]
  exact ⟨rfl, N0, rfl⟩
def m_one (P : List Int32) (T : List Int32) (x2 : Int32) (x3 : Int32) (x4 : Int32) (x5 : Int32) : Option (Int32) := (own_get (6 : Int32) P x5).bind fun z1 => if z1 = x2 then (if x4 = (0 : Int32) then ((own_get (6 : Int32) T x5).bind fun z6 => if z6 < x3 then (some ((0 : Int32))) else (some ((1 : Int32)))) else ((own_get (6 : Int32) T x5).bind fun z11 => if x3 < z11 then (some ((1 : Int32))) else (some ((0 : Int32))))) else (some ((0 : Int32)))
theorem d5_0 : decode method_3_code 0 = .ok (.aload_n 0, 1) := by decide +kernel
theorem d5_1 : decode method_3_code 1 = .ok (.iload 5, 2) := by decide +kernel
theorem d5_3 : decode method_3_code 3 = .ok (.iaload, 1) := by decide +kernel
theorem d5_4 : decode method_3_code 4 = .ok (.iload_n 2, 1) := by decide +kernel
theorem d5_5 : decode method_3_code 5 = .ok (.if_icmp .eq 5, 3) := by decide +kernel
theorem d5_8 : decode method_3_code 8 = .ok (.iconst 0, 1) := by decide +kernel
theorem d5_9 : decode method_3_code 9 = .ok (.ireturn, 1) := by decide +kernel
theorem d5_10 : decode method_3_code 10 = .ok (.iload 4, 2) := by decide +kernel
theorem d5_12 : decode method_3_code 12 = .ok (.ifCond .eq 17, 3) := by decide +kernel
theorem d5_15 : decode method_3_code 15 = .ok (.aload_n 1, 1) := by decide +kernel
theorem d5_16 : decode method_3_code 16 = .ok (.iload 5, 2) := by decide +kernel
theorem d5_18 : decode method_3_code 18 = .ok (.iaload, 1) := by decide +kernel
theorem d5_19 : decode method_3_code 19 = .ok (.iload_n 3, 1) := by decide +kernel
theorem d5_20 : decode method_3_code 20 = .ok (.if_icmp .le 7, 3) := by decide +kernel
theorem d5_23 : decode method_3_code 23 = .ok (.iconst 1, 1) := by decide +kernel
theorem d5_24 : decode method_3_code 24 = .ok (.goto 4, 3) := by decide +kernel
theorem d5_27 : decode method_3_code 27 = .ok (.iconst 0, 1) := by decide +kernel
theorem d5_28 : decode method_3_code 28 = .ok (.ireturn, 1) := by decide +kernel
theorem d5_29 : decode method_3_code 29 = .ok (.aload_n 1, 1) := by decide +kernel
theorem d5_30 : decode method_3_code 30 = .ok (.iload 5, 2) := by decide +kernel
theorem d5_32 : decode method_3_code 32 = .ok (.iaload, 1) := by decide +kernel
theorem d5_33 : decode method_3_code 33 = .ok (.iload_n 3, 1) := by decide +kernel
theorem d5_34 : decode method_3_code 34 = .ok (.if_icmp .lt 7, 3) := by decide +kernel
theorem d5_37 : decode method_3_code 37 = .ok (.iconst 1, 1) := by decide +kernel
theorem d5_38 : decode method_3_code 38 = .ok (.goto 4, 3) := by decide +kernel
theorem d5_41 : decode method_3_code 41 = .ok (.iconst 0, 1) := by decide +kernel
theorem d5_42 : decode method_3_code 42 = .ok (.ireturn, 1) := by decide +kernel
theorem pn_1 : plainName "com/example/rumorwire/rumorwire/TreeSolverInformedInPinLaw" = true := by first | (simp [plainName, overriddenIn]; done) | decide +kernel
theorem ef_5_RRIIII (m : MethodId) (x0 : Addr) (x1 : Addr) (x2 : Int32) (x3 : Int32) (x4 : Int32) (x5 : Int32) : entryFrame m #[(.ref x0), (.ref x1), (.int x2), (.int x3), (.int x4), (.int x5)] 6 = mkF m 0 #[.val (.ref x0), .val (.ref x1), .val (.int x2), .val (.int x3), .val (.int x4), .val (.int x5)] [] := by first | (simp [entryFrame, mkF, argsToLocals, Value.category]; done) | rfl
def Q_rm5 (Z : State) (x0 : Addr) (x1 : Addr) (x2 : Int32) (x3 : Int32) (x4 : Int32) (x5 : Int32) (k0 : ClassId) (k1 : ClassId) (P : List Int32) (T : List Int32) (r : Int32) (h0 : Heap) (n0 : Nat) (v : Option Value) (h : Heap) (L : List Loc) : Prop := v = some (.int r) ∧ Fr n0 L ∧ h = h0
set_option maxRecDepth 65536 in
set_option maxHeartbeats 40000000 in
theorem rm5 (l : Launch) (Z : State) (a0 : Array Value) (hw : ∀ d ∈ tables_1, d.before a0 Z = true) (ws : List Jvm.Cond) (x0 : Addr) (x1 : Addr) (x2 : Int32) (x3 : Int32) (x4 : Int32) (x5 : Int32) (k0 : ClassId) (k1 : ClassId) (P : List Int32) (T : List Int32) (r : Int32) (h0 : Heap) (n0 : Nat) (Z0 : n0 ≤ h0.size) (p_0 : Arv Z h0 x0 k0 .int (6 : Int32) (P.map Value.int) (.int (0 : Int32))) (p_1 : Arv Z h0 x1 k1 .int (6 : Int32) (T.map Value.int) (.int (0 : Int32))) (p_2 : m_one P T x2 x3 x4 x5 = some (r)) :
    MetFree l (⟨"com/example/rumorwire/rumorwire/TreeSolverInformedInPinLaw", "one", "([I[IIIZI)I"⟩ : MethodName) (head1 (Jvm.Cond.code (⟨"com/example/rumorwire/rumorwire/TreeSolverInformedInPinLaw", "one", "([I[IIIZI)I"⟩ : MethodName) method_3_code 6 (some .int) :: ws) ({ frames := 0, cells := 0, slots := 0, locals := 0 } : Room)) (fun a U => a = #[(.ref x0), (.ref x1), (.int x2), (.int x3), (.int x4), (.int x5)] ∧ Z.Warmed39 U.vm ∧ U.heap = h0) (fun _ _ _ _ _ => True) (fun _ U o U' => ∃ v L, o = .returned v ∧ Q_rm5 Z x0 x1 x2 x3 x4 x5 k0 k1 P T r h0 n0 v U'.heap L ∧ FrameEnd U o U' L ({ frames := 0, cells := 0, slots := 0, locals := 0 } : Room).cells ({ frames := 0, cells := 0, slots := 0, locals := 0 } : Room).slots) := by
  refine MetFree.of_bodySF (plainFor_of_name pn_1) hisR ?_
  intro p e s m args below meth c s₁ Bd hml0 hP hK
  obtain ⟨rfl, hZ, hh⟩ := hP
  have hx := Bd.exec
  have hby := Bd.bytes
  have hml : c.maxLocals = 6 := hml0
  have hown : s.vm.findClass "com/example/rumorwire/rumorwire/TreeSolverInformedInPinLaw" = some m.cls := findClass_of_methodNamed Bd.named
  have hnm := (name_of_methodNamed Bd.named Bd.method).1
  have X0 : Stand p l e ({ frames := 0, cells := 0, slots := 0, locals := 0 } : Room) s m #[(.ref x0), (.ref x1), (.int x2), (.int x3), (.int x4), (.int x5)] below meth c s₁ [] 0 0 := Stand.of_body Bd
  have e0 : s₁.heap = h0 := by rw [← hh, Bd.state]; rfl
  have N0 := Fr.nil n0
  show own_Ends p e below s ({ frames := 0, cells := 0, slots := 0, locals := 0 } : Room).cells ({ frames := 0, cells := 0, slots := 0, locals := 0 } : Room).slots (Q_rm5 Z x0 x1 x2 x3 x4 x5 k0 k1 P T r h0 n0) (s₁.setTop (entryFrame m #[(.ref x0), (.ref x1), (.int x2), (.int x3), (.int x4), (.int x5)] 6))
  rw [ef_5_RRIIII]
  refine own_step (st' := s₁.setTop (mkF m 1 #[.val (.ref x0), .val (.ref x1), .val (.int x2), .val (.int x3), .val (.int x4), .val (.int x5)] [(.ref x0)])) (fun t k => XS.aloadN X0.here hx rfl (hb hby d5_0) rfl rfl k) ?_
  refine own_step (st' := s₁.setTop (mkF m 3 #[.val (.ref x0), .val (.ref x1), .val (.int x2), .val (.int x3), .val (.int x4), .val (.int x5)] [(.int x5), (.ref x0)])) (fun t k => XS.iload X0.here hx rfl (hb hby d5_1) rfl k) ?_
  obtain ⟨z1, hz1, rz1⟩ := own_bind p_2
  clear p_2
  refine own_step (st' := s₁.setTop (mkF m 4 #[.val (.ref x0), .val (.ref x1), .val (.int x2), .val (.int x3), .val (.int x4), .val (.int x5)] [(.int z1)])) (fun t k => own_ldI X0 hx hZ e0 p_0 (j := x5) (v := (.int z1)) (own_gd hz1).1 (own_gd hz1).2 (g := (mkF m 3 #[.val (.ref x0), .val (.ref x1), .val (.int x2), .val (.int x3), .val (.int x4), .val (.int x5)] [(.int x5), (.ref x0)])) rfl rfl (hb hby d5_3) t k) ?_
  refine own_step (st' := s₁.setTop (mkF m 5 #[.val (.ref x0), .val (.ref x1), .val (.int x2), .val (.int x3), .val (.int x4), .val (.int x5)] [(.int x2), (.int z1)])) (fun t k => XS.iloadN X0.here hx rfl (hb hby d5_4) rfl k) ?_
  by_cases hc2 : z1 = x2
  · have r3 := own_if1 hc2 rz1
    clear rz1
    refine own_step (st' := s₁.setTop (mkF m 10 #[.val (.ref x0), .val (.ref x1), .val (.int x2), .val (.int x3), .val (.int x4), .val (.int x5)] [])) (fun t k => XS.icmpYes X0.here hx rfl (pc0 := 5) (pc' := 10) rfl (hb hby d5_5) rfl (teq hc2).1 (by decide) (by decide) k) ?_
    refine own_step (st' := s₁.setTop (mkF m 12 #[.val (.ref x0), .val (.ref x1), .val (.int x2), .val (.int x3), .val (.int x4), .val (.int x5)] [(.int x4)])) (fun t k => XS.iload X0.here hx rfl (hb hby d5_10) rfl k) ?_
    by_cases hc4 : x4 = (0 : Int32)
    · have r5 := own_if1 hc4 r3
      clear r3
      refine own_step (st' := s₁.setTop (mkF m 29 #[.val (.ref x0), .val (.ref x1), .val (.int x2), .val (.int x3), .val (.int x4), .val (.int x5)] [])) (fun t k => XS.ifYes X0.here hx rfl (pc0 := 12) (pc' := 29) rfl (hb hby d5_12) rfl ((if0 _ _).trans (teq hc4).1) (by decide) (by decide) k) ?_
      refine own_step (st' := s₁.setTop (mkF m 30 #[.val (.ref x0), .val (.ref x1), .val (.int x2), .val (.int x3), .val (.int x4), .val (.int x5)] [(.ref x1)])) (fun t k => XS.aloadN X0.here hx rfl (hb hby d5_29) rfl rfl k) ?_
      refine own_step (st' := s₁.setTop (mkF m 32 #[.val (.ref x0), .val (.ref x1), .val (.int x2), .val (.int x3), .val (.int x4), .val (.int x5)] [(.int x5), (.ref x1)])) (fun t k => XS.iload X0.here hx rfl (hb hby d5_30) rfl k) ?_
      obtain ⟨z6, hz6, rz6⟩ := own_bind r5
      clear r5
      refine own_step (st' := s₁.setTop (mkF m 33 #[.val (.ref x0), .val (.ref x1), .val (.int x2), .val (.int x3), .val (.int x4), .val (.int x5)] [(.int z6)])) (fun t k => own_ldI X0 hx hZ e0 p_1 (j := x5) (v := (.int z6)) (own_gd hz6).1 (own_gd hz6).2 (g := (mkF m 32 #[.val (.ref x0), .val (.ref x1), .val (.int x2), .val (.int x3), .val (.int x4), .val (.int x5)] [(.int x5), (.ref x1)])) rfl rfl (hb hby d5_32) t k) ?_
      refine own_step (st' := s₁.setTop (mkF m 34 #[.val (.ref x0), .val (.ref x1), .val (.int x2), .val (.int x3), .val (.int x4), .val (.int x5)] [(.int x3), (.int z6)])) (fun t k => XS.iloadN X0.here hx rfl (hb hby d5_33) rfl k) ?_
      by_cases hc7 : z6 < x3
      · have r8 := own_if1 hc7 rz6
        clear rz6
        refine own_step (st' := s₁.setTop (mkF m 41 #[.val (.ref x0), .val (.ref x1), .val (.int x2), .val (.int x3), .val (.int x4), .val (.int x5)] [])) (fun t k => XS.icmpYes X0.here hx rfl (pc0 := 34) (pc' := 41) rfl (hb hby d5_34) rfl (tlt hc7).1 (by decide) (by decide) k) ?_
        refine own_step (st' := s₁.setTop (mkF m 42 #[.val (.ref x0), .val (.ref x1), .val (.int x2), .val (.int x3), .val (.int x4), .val (.int x5)] [(.int (0 : Int32))])) (fun t k => XS.iconst X0.here hx rfl (hb hby d5_41) k) ?_
        refine own_ret X0 Bd.notSynchronized (some (.int (0 : Int32))) (fun h => by rw [Bd.returns] at h; cases h) (fun fs hr => own_retI X0 hx Bd.returns (hb hby d5_42) hr) ?_ (by decide) (by decide)
        rw [e0]
        have hq : some ((0 : Int32)) = some (r) := r8
        cases hq
        exact ⟨(by first | rfl | (simp only [if_pos hc2, if_pos hc4, if_pos hc7]; done) | (simp only [if_pos hc2, if_pos hc4, if_pos hc7]; rfl)), N0, rfl⟩
      · have r9 := own_if0 hc7 rz6
        clear rz6
        refine own_step (st' := s₁.setTop (mkF m 37 #[.val (.ref x0), .val (.ref x1), .val (.int x2), .val (.int x3), .val (.int x4), .val (.int x5)] [])) (fun t k => XS.icmpNo X0.here hx rfl (hb hby d5_34) rfl (flt hc7).1 k) ?_
        refine own_step (st' := s₁.setTop (mkF m 38 #[.val (.ref x0), .val (.ref x1), .val (.int x2), .val (.int x3), .val (.int x4), .val (.int x5)] [(.int (1 : Int32))])) (fun t k => XS.iconst X0.here hx rfl (hb hby d5_37) k) ?_
        refine own_step (st' := s₁.setTop (mkF m 42 #[.val (.ref x0), .val (.ref x1), .val (.int x2), .val (.int x3), .val (.int x4), .val (.int x5)] [(.int (1 : Int32))])) (fun t k => XS.goto X0.here hx rfl (pc0 := 38) (pc' := 42) rfl (hb hby d5_38) (by decide) (by decide) k) ?_
        refine own_ret X0 Bd.notSynchronized (some (.int (1 : Int32))) (fun h => by rw [Bd.returns] at h; cases h) (fun fs hr => own_retI X0 hx Bd.returns (hb hby d5_42) hr) ?_ (by decide) (by decide)
        rw [e0]
        have hq : some ((1 : Int32)) = some (r) := r9
        cases hq
        exact ⟨(by first | rfl | (simp only [if_pos hc2, if_pos hc4, if_neg hc7]; done) | (simp only [if_pos hc2, if_pos hc4, if_neg hc7]; rfl)), N0, rfl⟩
    · have r10 := own_if0 hc4 r3
      clear r3
      refine own_step (st' := s₁.setTop (mkF m 15 #[.val (.ref x0), .val (.ref x1), .val (.int x2), .val (.int x3), .val (.int x4), .val (.int x5)] [])) (fun t k => XS.ifNo X0.here hx rfl (hb hby d5_12) rfl ((if0 _ _).trans (feq hc4).1) k) ?_
      refine own_step (st' := s₁.setTop (mkF m 16 #[.val (.ref x0), .val (.ref x1), .val (.int x2), .val (.int x3), .val (.int x4), .val (.int x5)] [(.ref x1)])) (fun t k => XS.aloadN X0.here hx rfl (hb hby d5_15) rfl rfl k) ?_
      refine own_step (st' := s₁.setTop (mkF m 18 #[.val (.ref x0), .val (.ref x1), .val (.int x2), .val (.int x3), .val (.int x4), .val (.int x5)] [(.int x5), (.ref x1)])) (fun t k => XS.iload X0.here hx rfl (hb hby d5_16) rfl k) ?_
      obtain ⟨z11, hz11, rz11⟩ := own_bind r10
      clear r10
      refine own_step (st' := s₁.setTop (mkF m 19 #[.val (.ref x0), .val (.ref x1), .val (.int x2), .val (.int x3), .val (.int x4), .val (.int x5)] [(.int z11)])) (fun t k => own_ldI X0 hx hZ e0 p_1 (j := x5) (v := (.int z11)) (own_gd hz11).1 (own_gd hz11).2 (g := (mkF m 18 #[.val (.ref x0), .val (.ref x1), .val (.int x2), .val (.int x3), .val (.int x4), .val (.int x5)] [(.int x5), (.ref x1)])) rfl rfl (hb hby d5_18) t k) ?_
      refine own_step (st' := s₁.setTop (mkF m 20 #[.val (.ref x0), .val (.ref x1), .val (.int x2), .val (.int x3), .val (.int x4), .val (.int x5)] [(.int x3), (.int z11)])) (fun t k => XS.iloadN X0.here hx rfl (hb hby d5_19) rfl k) ?_
      by_cases hc12 : x3 < z11
      · have r13 := own_if1 hc12 rz11
        clear rz11
        refine own_step (st' := s₁.setTop (mkF m 23 #[.val (.ref x0), .val (.ref x1), .val (.int x2), .val (.int x3), .val (.int x4), .val (.int x5)] [])) (fun t k => XS.icmpNo X0.here hx rfl (hb hby d5_20) rfl (tlt hc12).2.2.2 k) ?_
        refine own_step (st' := s₁.setTop (mkF m 24 #[.val (.ref x0), .val (.ref x1), .val (.int x2), .val (.int x3), .val (.int x4), .val (.int x5)] [(.int (1 : Int32))])) (fun t k => XS.iconst X0.here hx rfl (hb hby d5_23) k) ?_
        refine own_step (st' := s₁.setTop (mkF m 28 #[.val (.ref x0), .val (.ref x1), .val (.int x2), .val (.int x3), .val (.int x4), .val (.int x5)] [(.int (1 : Int32))])) (fun t k => XS.goto X0.here hx rfl (pc0 := 24) (pc' := 28) rfl (hb hby d5_24) (by decide) (by decide) k) ?_
        refine own_ret X0 Bd.notSynchronized (some (.int (1 : Int32))) (fun h => by rw [Bd.returns] at h; cases h) (fun fs hr => own_retI X0 hx Bd.returns (hb hby d5_28) hr) ?_ (by decide) (by decide)
        rw [e0]
        have hq : some ((1 : Int32)) = some (r) := r13
        cases hq
        exact ⟨(by first | rfl | (simp only [if_pos hc2, if_neg hc4, if_pos hc12]; done) | (simp only [if_pos hc2, if_neg hc4, if_pos hc12]; rfl)), N0, rfl⟩
      · have r14 := own_if0 hc12 rz11
        clear rz11
        refine own_step (st' := s₁.setTop (mkF m 27 #[.val (.ref x0), .val (.ref x1), .val (.int x2), .val (.int x3), .val (.int x4), .val (.int x5)] [])) (fun t k => XS.icmpYes X0.here hx rfl (pc0 := 20) (pc' := 27) rfl (hb hby d5_20) rfl (flt hc12).2.2.2 (by decide) (by decide) k) ?_
        refine own_step (st' := s₁.setTop (mkF m 28 #[.val (.ref x0), .val (.ref x1), .val (.int x2), .val (.int x3), .val (.int x4), .val (.int x5)] [(.int (0 : Int32))])) (fun t k => XS.iconst X0.here hx rfl (hb hby d5_27) k) ?_
        refine own_ret X0 Bd.notSynchronized (some (.int (0 : Int32))) (fun h => by rw [Bd.returns] at h; cases h) (fun fs hr => own_retI X0 hx Bd.returns (hb hby d5_28) hr) ?_ (by decide) (by decide)
        rw [e0]
        have hq : some ((0 : Int32)) = some (r) := r14
        cases hq
        exact ⟨(by first | rfl | (simp only [if_pos hc2, if_neg hc4, if_neg hc12]; done) | (simp only [if_pos hc2, if_neg hc4, if_neg hc12]; rfl)), N0, rfl⟩
  · have r15 := own_if0 hc2 rz1
    clear rz1
    refine own_step (st' := s₁.setTop (mkF m 8 #[.val (.ref x0), .val (.ref x1), .val (.int x2), .val (.int x3), .val (.int x4), .val (.int x5)] [])) (fun t k => XS.icmpNo X0.here hx rfl (hb hby d5_5) rfl (feq hc2).1 k) ?_
    refine own_step (st' := s₁.setTop (mkF m 9 #[.val (.ref x0), .val (.ref x1), .val (.int x2), .val (.int x3), .val (.int x4), .val (.int x5)] [(.int (0 : Int32))])) (fun t k => XS.iconst X0.here hx rfl (hb hby d5_8) k) ?_
    refine own_ret X0 Bd.notSynchronized (some (.int (0 : Int32))) (fun h => by rw [Bd.returns] at h; cases h) (fun fs hr => own_retI X0 hx Bd.returns (hb hby d5_9) hr) ?_ (by decide) (by decide)
    rw [e0]
    have hq : some ((0 : Int32)) = some (r) := r15
    cases hq
    exact ⟨(by first | rfl | (simp only [if_neg hc2]; done) | (simp only [if_neg hc2]; rfl)), N0, rfl⟩
def m_cnt (P : List Int32) (T : List Int32) (x2 : Int32) (x3 : Int32) (x4 : Int32) : Option (Int32) := (m_one P T x2 x3 x4 (0 : Int32)).bind fun o1 => (m_one P T x2 x3 x4 (1 : Int32)).bind fun o3 => (m_one P T x2 x3 x4 (2 : Int32)).bind fun o5 => (m_one P T x2 x3 x4 (3 : Int32)).bind fun o7 => (m_one P T x2 x3 x4 (4 : Int32)).bind fun o9 => (m_one P T x2 x3 x4 (5 : Int32)).bind fun o11 => some ((((((o1 + o3) + o5) + o7) + o9) + o11))
theorem d4_0 : decode method_4_code 0 = .ok (.aload_n 0, 1) := by decide +kernel
theorem d4_1 : decode method_4_code 1 = .ok (.aload_n 1, 1) := by decide +kernel
theorem d4_2 : decode method_4_code 2 = .ok (.iload_n 2, 1) := by decide +kernel
theorem d4_3 : decode method_4_code 3 = .ok (.iload_n 3, 1) := by decide +kernel
theorem d4_4 : decode method_4_code 4 = .ok (.iload 4, 2) := by decide +kernel
theorem d4_6 : decode method_4_code 6 = .ok (.iconst 0, 1) := by decide +kernel
theorem d4_7 : decode method_4_code 7 = .ok (.invokestatic 31, 3) := by decide +kernel
theorem d4_10 : decode method_4_code 10 = .ok (.aload_n 0, 1) := by decide +kernel
theorem d4_11 : decode method_4_code 11 = .ok (.aload_n 1, 1) := by decide +kernel
theorem d4_12 : decode method_4_code 12 = .ok (.iload_n 2, 1) := by decide +kernel
theorem d4_13 : decode method_4_code 13 = .ok (.iload_n 3, 1) := by decide +kernel
theorem d4_14 : decode method_4_code 14 = .ok (.iload 4, 2) := by decide +kernel
theorem d4_16 : decode method_4_code 16 = .ok (.iconst 1, 1) := by decide +kernel
theorem d4_17 : decode method_4_code 17 = .ok (.invokestatic 31, 3) := by decide +kernel
theorem d4_20 : decode method_4_code 20 = .ok (.iadd, 1) := by decide +kernel
theorem d4_21 : decode method_4_code 21 = .ok (.aload_n 0, 1) := by decide +kernel
theorem d4_22 : decode method_4_code 22 = .ok (.aload_n 1, 1) := by decide +kernel
theorem d4_23 : decode method_4_code 23 = .ok (.iload_n 2, 1) := by decide +kernel
theorem d4_24 : decode method_4_code 24 = .ok (.iload_n 3, 1) := by decide +kernel
theorem d4_25 : decode method_4_code 25 = .ok (.iload 4, 2) := by decide +kernel
theorem d4_27 : decode method_4_code 27 = .ok (.iconst 2, 1) := by decide +kernel
theorem d4_28 : decode method_4_code 28 = .ok (.invokestatic 31, 3) := by decide +kernel
theorem d4_31 : decode method_4_code 31 = .ok (.iadd, 1) := by decide +kernel
theorem d4_32 : decode method_4_code 32 = .ok (.aload_n 0, 1) := by decide +kernel
theorem d4_33 : decode method_4_code 33 = .ok (.aload_n 1, 1) := by decide +kernel
theorem d4_34 : decode method_4_code 34 = .ok (.iload_n 2, 1) := by decide +kernel
theorem d4_35 : decode method_4_code 35 = .ok (.iload_n 3, 1) := by decide +kernel
theorem d4_36 : decode method_4_code 36 = .ok (.iload 4, 2) := by decide +kernel
theorem d4_38 : decode method_4_code 38 = .ok (.iconst 3, 1) := by decide +kernel
theorem d4_39 : decode method_4_code 39 = .ok (.invokestatic 31, 3) := by decide +kernel
theorem d4_42 : decode method_4_code 42 = .ok (.iadd, 1) := by decide +kernel
theorem d4_43 : decode method_4_code 43 = .ok (.aload_n 0, 1) := by decide +kernel
theorem d4_44 : decode method_4_code 44 = .ok (.aload_n 1, 1) := by decide +kernel
theorem d4_45 : decode method_4_code 45 = .ok (.iload_n 2, 1) := by decide +kernel
theorem d4_46 : decode method_4_code 46 = .ok (.iload_n 3, 1) := by decide +kernel
theorem d4_47 : decode method_4_code 47 = .ok (.iload 4, 2) := by decide +kernel
theorem d4_49 : decode method_4_code 49 = .ok (.iconst 4, 1) := by decide +kernel
theorem d4_50 : decode method_4_code 50 = .ok (.invokestatic 31, 3) := by decide +kernel
theorem d4_53 : decode method_4_code 53 = .ok (.iadd, 1) := by decide +kernel
theorem d4_54 : decode method_4_code 54 = .ok (.aload_n 0, 1) := by decide +kernel
theorem d4_55 : decode method_4_code 55 = .ok (.aload_n 1, 1) := by decide +kernel
theorem d4_56 : decode method_4_code 56 = .ok (.iload_n 2, 1) := by decide +kernel
theorem d4_57 : decode method_4_code 57 = .ok (.iload_n 3, 1) := by decide +kernel
theorem d4_58 : decode method_4_code 58 = .ok (.iload 4, 2) := by decide +kernel
theorem d4_60 : decode method_4_code 60 = .ok (.iconst 5, 1) := by decide +kernel
theorem d4_61 : decode method_4_code 61 = .ok (.invokestatic 31, 3) := by decide +kernel
theorem d4_64 : decode method_4_code 64 = .ok (.iadd, 1) := by decide +kernel
theorem d4_65 : decode method_4_code 65 = .ok (.ireturn, 1) := by decide +kernel
theorem ef_4_RRIII (m : MethodId) (x0 : Addr) (x1 : Addr) (x2 : Int32) (x3 : Int32) (x4 : Int32) : entryFrame m #[(.ref x0), (.ref x1), (.int x2), (.int x3), (.int x4)] 5 = mkF m 0 #[.val (.ref x0), .val (.ref x1), .val (.int x2), .val (.int x3), .val (.int x4)] [] := by first | (simp [entryFrame, mkF, argsToLocals, Value.category]; done) | rfl
def Q_rm4 (Z : State) (x0 : Addr) (x1 : Addr) (x2 : Int32) (x3 : Int32) (x4 : Int32) (k0 : ClassId) (k1 : ClassId) (P : List Int32) (T : List Int32) (r : Int32) (h0 : Heap) (n0 : Nat) (v : Option Value) (h : Heap) (L : List Loc) : Prop := v = some (.int r) ∧ Fr n0 L ∧ h = h0
set_option maxRecDepth 65536 in
set_option maxHeartbeats 40000000 in
theorem rm4 (l : Launch) (Z : State) (a0 : Array Value) (hw : ∀ d ∈ tables_1, d.before a0 Z = true) (ws : List Jvm.Cond) (x0 : Addr) (x1 : Addr) (x2 : Int32) (x3 : Int32) (x4 : Int32) (k0 : ClassId) (k1 : ClassId) (P : List Int32) (T : List Int32) (r : Int32) (h0 : Heap) (n0 : Nat) (Z0 : n0 ≤ h0.size) (p_0 : Arv Z h0 x0 k0 .int (6 : Int32) (P.map Value.int) (.int (0 : Int32))) (p_1 : Arv Z h0 x1 k1 .int (6 : Int32) (T.map Value.int) (.int (0 : Int32))) (p_2 : m_cnt P T x2 x3 x4 = some (r)) :
    MetFree l (⟨"com/example/rumorwire/rumorwire/TreeSolverInformedInPinLaw", "cnt", "([I[IIIZ)I"⟩ : MethodName) (head1 (Jvm.Cond.code (⟨"com/example/rumorwire/rumorwire/TreeSolverInformedInPinLaw", "cnt", "([I[IIIZ)I"⟩ : MethodName) method_4_code 5 (some .int) :: ws) ({ frames := 1, cells := 0, slots := 0, locals := 18 } : Room)) (fun a U => a = #[(.ref x0), (.ref x1), (.int x2), (.int x3), (.int x4)] ∧ Z.Warmed39 U.vm ∧ U.heap = h0) (fun _ _ _ _ _ => True) (fun _ U o U' => ∃ v L, o = .returned v ∧ Q_rm4 Z x0 x1 x2 x3 x4 k0 k1 P T r h0 n0 v U'.heap L ∧ FrameEnd U o U' L ({ frames := 1, cells := 0, slots := 0, locals := 18 } : Room).cells ({ frames := 1, cells := 0, slots := 0, locals := 18 } : Room).slots) := by
  refine MetFree.of_bodySF (plainFor_of_name pn_1) hisR ?_
  intro p e s m args below meth c s₁ Bd hml0 hP hK
  obtain ⟨rfl, hZ, hh⟩ := hP
  have hx := Bd.exec
  have hby := Bd.bytes
  have hml : c.maxLocals = 5 := hml0
  have hown : s.vm.findClass "com/example/rumorwire/rumorwire/TreeSolverInformedInPinLaw" = some m.cls := findClass_of_methodNamed Bd.named
  have hnm := (name_of_methodNamed Bd.named Bd.method).1
  have X0 : Stand p l e ({ frames := 1, cells := 0, slots := 0, locals := 18 } : Room) s m #[(.ref x0), (.ref x1), (.int x2), (.int x3), (.int x4)] below meth c s₁ [] 0 0 := Stand.of_body Bd
  have e0 : s₁.heap = h0 := by rw [← hh, Bd.state]; rfl
  have N0 := Fr.nil n0
  show own_Ends p e below s ({ frames := 1, cells := 0, slots := 0, locals := 18 } : Room).cells ({ frames := 1, cells := 0, slots := 0, locals := 18 } : Room).slots (Q_rm4 Z x0 x1 x2 x3 x4 k0 k1 P T r h0 n0) (s₁.setTop (entryFrame m #[(.ref x0), (.ref x1), (.int x2), (.int x3), (.int x4)] 5))
  rw [ef_4_RRIII]
  refine own_step (st' := s₁.setTop (mkF m 1 #[.val (.ref x0), .val (.ref x1), .val (.int x2), .val (.int x3), .val (.int x4)] [(.ref x0)])) (fun t k => XS.aloadN X0.here hx rfl (hb hby d4_0) rfl rfl k) ?_
  refine own_step (st' := s₁.setTop (mkF m 2 #[.val (.ref x0), .val (.ref x1), .val (.int x2), .val (.int x3), .val (.int x4)] [(.ref x1), (.ref x0)])) (fun t k => XS.aloadN X0.here hx rfl (hb hby d4_1) rfl rfl k) ?_
  refine own_step (st' := s₁.setTop (mkF m 3 #[.val (.ref x0), .val (.ref x1), .val (.int x2), .val (.int x3), .val (.int x4)] [(.int x2), (.ref x1), (.ref x0)])) (fun t k => XS.iloadN X0.here hx rfl (hb hby d4_2) rfl k) ?_
  refine own_step (st' := s₁.setTop (mkF m 4 #[.val (.ref x0), .val (.ref x1), .val (.int x2), .val (.int x3), .val (.int x4)] [(.int x3), (.int x2), (.ref x1), (.ref x0)])) (fun t k => XS.iloadN X0.here hx rfl (hb hby d4_3) rfl k) ?_
  refine own_step (st' := s₁.setTop (mkF m 6 #[.val (.ref x0), .val (.ref x1), .val (.int x2), .val (.int x3), .val (.int x4)] [(.int x4), (.int x3), (.int x2), (.ref x1), (.ref x0)])) (fun t k => XS.iload X0.here hx rfl (hb hby d4_4) rfl k) ?_
  refine own_step (st' := s₁.setTop (mkF m 7 #[.val (.ref x0), .val (.ref x1), .val (.int x2), .val (.int x3), .val (.int x4)] [(.int (0 : Int32)), (.int x4), (.int x3), (.int x2), (.ref x1), (.ref x0)])) (fun t k => XS.iconst X0.here hx rfl (hb hby d4_6) k) ?_
  obtain ⟨o1, ho1, ro1⟩ := own_bind p_2
  clear p_2
  obtain ⟨_, _, ⟨T2, L2, k2, n2⟩, -, X2, ⟨Lc2, hQ2, l2, y2, z2⟩, st2⟩ := Jvm.LawKit.callS X0 hx (y := (⟨"com/example/rumorwire/rumorwire/TreeSolverInformedInPinLaw", "one", "([I[IIIZI)I"⟩ : MethodName)) hown (mvT hZ (hw _ (List.mem_of_getElem? (i := 16) rfl))) (mvT hZ (hw _ (List.mem_of_getElem? (i := 17) rfl))) (mvT hZ (hw _ (List.mem_of_getElem? (i := 4) rfl))) (mvT hZ (hw _ (List.mem_of_getElem? (i := 18) rfl))) (by decide) (backOf (W := 0) (rm5 l Z a0 hw [] x0 x1 x2 x3 x4 (0 : Int32) k0 k1 P T o1 h0 n0 Z0 p_0 p_1 ho1) hZ (hw _ (List.mem_of_getElem? (i := 18) rfl)) (hw _ (List.mem_of_getElem? (i := 4) rfl)) (by decide) (by decide)) (g := (mkF m 7 #[.val (.ref x0), .val (.ref x1), .val (.int x2), .val (.int x3), .val (.int x4)] [(.int (0 : Int32)), (.int x4), (.int x3), (.int x2), (.ref x1), (.ref x0)])) rfl (by rw [hml]; rfl) (argsL := [(.ref x0), (.ref x1), (.int x2), (.int x3), (.int x4), (.int (0 : Int32))]) (rest := []) (lenOf pd_4 rfl) rfl (by show 2 * 0 + _ ≤ _; exact Nat.le_of_eq rfl) (hb hby d4_7) (fun _ _ => ⟨rfl, e0, (by decide : 0 + 0 ≤ _), (by decide : 0 + 0 ≤ _)⟩)
  dsimp only [Pt.U, Pt.locs, Pt.cells, Pt.slots] at X2 l2 y2 z2 st2 hQ2
  subst y2 z2
  obtain ⟨rfl, N2q, e2⟩ := hQ2
  have N2 := Fr.app N0 N2q
  rw [← l2] at N2
  clear l2
  refine own_step (st' := T2.setTop (mkF m 10 #[.val (.ref x0), .val (.ref x1), .val (.int x2), .val (.int x3), .val (.int x4)] [(.int o1)])) st2 ?_
  refine own_step (st' := T2.setTop (mkF m 11 #[.val (.ref x0), .val (.ref x1), .val (.int x2), .val (.int x3), .val (.int x4)] [(.ref x0), (.int o1)])) (fun t k => XS.aloadN X2.here hx rfl (hb hby d4_10) rfl rfl k) ?_
  refine own_step (st' := T2.setTop (mkF m 12 #[.val (.ref x0), .val (.ref x1), .val (.int x2), .val (.int x3), .val (.int x4)] [(.ref x1), (.ref x0), (.int o1)])) (fun t k => XS.aloadN X2.here hx rfl (hb hby d4_11) rfl rfl k) ?_
  refine own_step (st' := T2.setTop (mkF m 13 #[.val (.ref x0), .val (.ref x1), .val (.int x2), .val (.int x3), .val (.int x4)] [(.int x2), (.ref x1), (.ref x0), (.int o1)])) (fun t k => XS.iloadN X2.here hx rfl (hb hby d4_12) rfl k) ?_
  refine own_step (st' := T2.setTop (mkF m 14 #[.val (.ref x0), .val (.ref x1), .val (.int x2), .val (.int x3), .val (.int x4)] [(.int x3), (.int x2), (.ref x1), (.ref x0), (.int o1)])) (fun t k => XS.iloadN X2.here hx rfl (hb hby d4_13) rfl k) ?_
  refine own_step (st' := T2.setTop (mkF m 16 #[.val (.ref x0), .val (.ref x1), .val (.int x2), .val (.int x3), .val (.int x4)] [(.int x4), (.int x3), (.int x2), (.ref x1), (.ref x0), (.int o1)])) (fun t k => XS.iload X2.here hx rfl (hb hby d4_14) rfl k) ?_
  refine own_step (st' := T2.setTop (mkF m 17 #[.val (.ref x0), .val (.ref x1), .val (.int x2), .val (.int x3), .val (.int x4)] [(.int (1 : Int32)), (.int x4), (.int x3), (.int x2), (.ref x1), (.ref x0), (.int o1)])) (fun t k => XS.iconst X2.here hx rfl (hb hby d4_16) k) ?_
  obtain ⟨o3, ho3, ro3⟩ := own_bind ro1
  clear ro1
  obtain ⟨_, _, ⟨T4, L4, k4, n4⟩, -, X4, ⟨Lc4, hQ4, l4, y4, z4⟩, st4⟩ := Jvm.LawKit.callS X2 hx (y := (⟨"com/example/rumorwire/rumorwire/TreeSolverInformedInPinLaw", "one", "([I[IIIZI)I"⟩ : MethodName)) hown (mvT hZ (hw _ (List.mem_of_getElem? (i := 16) rfl))) (mvT hZ (hw _ (List.mem_of_getElem? (i := 17) rfl))) (mvT hZ (hw _ (List.mem_of_getElem? (i := 4) rfl))) (mvT hZ (hw _ (List.mem_of_getElem? (i := 18) rfl))) (by decide) (backOf (W := 1) (rm5 l Z a0 hw [] x0 x1 x2 x3 x4 (1 : Int32) k0 k1 P T o3 h0 n0 Z0 p_0 p_1 ho3) hZ (hw _ (List.mem_of_getElem? (i := 18) rfl)) (hw _ (List.mem_of_getElem? (i := 4) rfl)) (by decide) (by decide)) (g := (mkF m 17 #[.val (.ref x0), .val (.ref x1), .val (.int x2), .val (.int x3), .val (.int x4)] [(.int (1 : Int32)), (.int x4), (.int x3), (.int x2), (.ref x1), (.ref x0), (.int o1)])) rfl (by rw [hml]; rfl) (argsL := [(.ref x0), (.ref x1), (.int x2), (.int x3), (.int x4), (.int (1 : Int32))]) (rest := [(.int o1)]) (lenOf pd_4 rfl) rfl (by show 2 * 0 + _ ≤ _; exact Nat.le_of_eq rfl) (hb hby d4_17) (fun _ _ => ⟨rfl, e2, (by decide : 0 + 0 ≤ _), (by decide : 0 + 0 ≤ _)⟩)
  dsimp only [Pt.U, Pt.locs, Pt.cells, Pt.slots] at X4 l4 y4 z4 st4 hQ4
  subst y4 z4
  obtain ⟨rfl, N4q, e4⟩ := hQ4
  have N4 := Fr.app N2 N4q
  rw [← l4] at N4
  clear l4
  refine own_step (st' := T4.setTop (mkF m 20 #[.val (.ref x0), .val (.ref x1), .val (.int x2), .val (.int x3), .val (.int x4)] [(.int o3), (.int o1)])) st4 ?_
  refine own_step (st' := T4.setTop (mkF m 21 #[.val (.ref x0), .val (.ref x1), .val (.int x2), .val (.int x3), .val (.int x4)] [(.int (o1 + o3))])) (fun t k => XS.iadd X4.here hx rfl (hb hby d4_20) rfl k) ?_
  refine own_step (st' := T4.setTop (mkF m 22 #[.val (.ref x0), .val (.ref x1), .val (.int x2), .val (.int x3), .val (.int x4)] [(.ref x0), (.int (o1 + o3))])) (fun t k => XS.aloadN X4.here hx rfl (hb hby d4_21) rfl rfl k) ?_
  refine own_step (st' := T4.setTop (mkF m 23 #[.val (.ref x0), .val (.ref x1), .val (.int x2), .val (.int x3), .val (.int x4)] [(.ref x1), (.ref x0), (.int (o1 + o3))])) (fun t k => XS.aloadN X4.here hx rfl (hb hby d4_22) rfl rfl k) ?_
  refine own_step (st' := T4.setTop (mkF m 24 #[.val (.ref x0), .val (.ref x1), .val (.int x2), .val (.int x3), .val (.int x4)] [(.int x2), (.ref x1), (.ref x0), (.int (o1 + o3))])) (fun t k => XS.iloadN X4.here hx rfl (hb hby d4_23) rfl k) ?_
  refine own_step (st' := T4.setTop (mkF m 25 #[.val (.ref x0), .val (.ref x1), .val (.int x2), .val (.int x3), .val (.int x4)] [(.int x3), (.int x2), (.ref x1), (.ref x0), (.int (o1 + o3))])) (fun t k => XS.iloadN X4.here hx rfl (hb hby d4_24) rfl k) ?_
  refine own_step (st' := T4.setTop (mkF m 27 #[.val (.ref x0), .val (.ref x1), .val (.int x2), .val (.int x3), .val (.int x4)] [(.int x4), (.int x3), (.int x2), (.ref x1), (.ref x0), (.int (o1 + o3))])) (fun t k => XS.iload X4.here hx rfl (hb hby d4_25) rfl k) ?_
  refine own_step (st' := T4.setTop (mkF m 28 #[.val (.ref x0), .val (.ref x1), .val (.int x2), .val (.int x3), .val (.int x4)] [(.int (2 : Int32)), (.int x4), (.int x3), (.int x2), (.ref x1), (.ref x0), (.int (o1 + o3))])) (fun t k => XS.iconst X4.here hx rfl (hb hby d4_27) k) ?_
  obtain ⟨o5, ho5, ro5⟩ := own_bind ro3
  clear ro3
  obtain ⟨_, _, ⟨T6, L6, k6, n6⟩, -, X6, ⟨Lc6, hQ6, l6, y6, z6⟩, st6⟩ := Jvm.LawKit.callS X4 hx (y := (⟨"com/example/rumorwire/rumorwire/TreeSolverInformedInPinLaw", "one", "([I[IIIZI)I"⟩ : MethodName)) hown (mvT hZ (hw _ (List.mem_of_getElem? (i := 16) rfl))) (mvT hZ (hw _ (List.mem_of_getElem? (i := 17) rfl))) (mvT hZ (hw _ (List.mem_of_getElem? (i := 4) rfl))) (mvT hZ (hw _ (List.mem_of_getElem? (i := 18) rfl))) (by decide) (backOf (W := 1) (rm5 l Z a0 hw [] x0 x1 x2 x3 x4 (2 : Int32) k0 k1 P T o5 h0 n0 Z0 p_0 p_1 ho5) hZ (hw _ (List.mem_of_getElem? (i := 18) rfl)) (hw _ (List.mem_of_getElem? (i := 4) rfl)) (by decide) (by decide)) (g := (mkF m 28 #[.val (.ref x0), .val (.ref x1), .val (.int x2), .val (.int x3), .val (.int x4)] [(.int (2 : Int32)), (.int x4), (.int x3), (.int x2), (.ref x1), (.ref x0), (.int (o1 + o3))])) rfl (by rw [hml]; rfl) (argsL := [(.ref x0), (.ref x1), (.int x2), (.int x3), (.int x4), (.int (2 : Int32))]) (rest := [(.int (o1 + o3))]) (lenOf pd_4 rfl) rfl (by show 2 * 0 + _ ≤ _; exact Nat.le_of_eq rfl) (hb hby d4_28) (fun _ _ => ⟨rfl, e4, (by decide : 0 + 0 ≤ _), (by decide : 0 + 0 ≤ _)⟩)
  dsimp only [Pt.U, Pt.locs, Pt.cells, Pt.slots] at X6 l6 y6 z6 st6 hQ6
  subst y6 z6
  obtain ⟨rfl, N6q, e6⟩ := hQ6
  have N6 := Fr.app N4 N6q
  rw [← l6] at N6
  clear l6
  refine own_step (st' := T6.setTop (mkF m 31 #[.val (.ref x0), .val (.ref x1), .val (.int x2), .val (.int x3), .val (.int x4)] [(.int o5), (.int (o1 + o3))])) st6 ?_
  refine own_step (st' := T6.setTop (mkF m 32 #[.val (.ref x0), .val (.ref x1), .val (.int x2), .val (.int x3), .val (.int x4)] [(.int ((o1 + o3) + o5))])) (fun t k => XS.iadd X6.here hx rfl (hb hby d4_31) rfl k) ?_
  refine own_step (st' := T6.setTop (mkF m 33 #[.val (.ref x0), .val (.ref x1), .val (.int x2), .val (.int x3), .val (.int x4)] [(.ref x0), (.int ((o1 + o3) + o5))])) (fun t k => XS.aloadN X6.here hx rfl (hb hby d4_32) rfl rfl k) ?_
  refine own_step (st' := T6.setTop (mkF m 34 #[.val (.ref x0), .val (.ref x1), .val (.int x2), .val (.int x3), .val (.int x4)] [(.ref x1), (.ref x0), (.int ((o1 + o3) + o5))])) (fun t k => XS.aloadN X6.here hx rfl (hb hby d4_33) rfl rfl k) ?_
  refine own_step (st' := T6.setTop (mkF m 35 #[.val (.ref x0), .val (.ref x1), .val (.int x2), .val (.int x3), .val (.int x4)] [(.int x2), (.ref x1), (.ref x0), (.int ((o1 + o3) + o5))])) (fun t k => XS.iloadN X6.here hx rfl (hb hby d4_34) rfl k) ?_
  refine own_step (st' := T6.setTop (mkF m 36 #[.val (.ref x0), .val (.ref x1), .val (.int x2), .val (.int x3), .val (.int x4)] [(.int x3), (.int x2), (.ref x1), (.ref x0), (.int ((o1 + o3) + o5))])) (fun t k => XS.iloadN X6.here hx rfl (hb hby d4_35) rfl k) ?_
  refine own_step (st' := T6.setTop (mkF m 38 #[.val (.ref x0), .val (.ref x1), .val (.int x2), .val (.int x3), .val (.int x4)] [(.int x4), (.int x3), (.int x2), (.ref x1), (.ref x0), (.int ((o1 + o3) + o5))])) (fun t k => XS.iload X6.here hx rfl (hb hby d4_36) rfl k) ?_
  refine own_step (st' := T6.setTop (mkF m 39 #[.val (.ref x0), .val (.ref x1), .val (.int x2), .val (.int x3), .val (.int x4)] [(.int (3 : Int32)), (.int x4), (.int x3), (.int x2), (.ref x1), (.ref x0), (.int ((o1 + o3) + o5))])) (fun t k => XS.iconst X6.here hx rfl (hb hby d4_38) k) ?_
  obtain ⟨o7, ho7, ro7⟩ := own_bind ro5
  clear ro5
  obtain ⟨_, _, ⟨T8, L8, k8, n8⟩, -, X8, ⟨Lc8, hQ8, l8, y8, z8⟩, st8⟩ := Jvm.LawKit.callS X6 hx (y := (⟨"com/example/rumorwire/rumorwire/TreeSolverInformedInPinLaw", "one", "([I[IIIZI)I"⟩ : MethodName)) hown (mvT hZ (hw _ (List.mem_of_getElem? (i := 16) rfl))) (mvT hZ (hw _ (List.mem_of_getElem? (i := 17) rfl))) (mvT hZ (hw _ (List.mem_of_getElem? (i := 4) rfl))) (mvT hZ (hw _ (List.mem_of_getElem? (i := 18) rfl))) (by decide) (backOf (W := 1) (rm5 l Z a0 hw [] x0 x1 x2 x3 x4 (3 : Int32) k0 k1 P T o7 h0 n0 Z0 p_0 p_1 ho7) hZ (hw _ (List.mem_of_getElem? (i := 18) rfl)) (hw _ (List.mem_of_getElem? (i := 4) rfl)) (by decide) (by decide)) (g := (mkF m 39 #[.val (.ref x0), .val (.ref x1), .val (.int x2), .val (.int x3), .val (.int x4)] [(.int (3 : Int32)), (.int x4), (.int x3), (.int x2), (.ref x1), (.ref x0), (.int ((o1 + o3) + o5))])) rfl (by rw [hml]; rfl) (argsL := [(.ref x0), (.ref x1), (.int x2), (.int x3), (.int x4), (.int (3 : Int32))]) (rest := [(.int ((o1 + o3) + o5))]) (lenOf pd_4 rfl) rfl (by show 2 * 0 + _ ≤ _; exact Nat.le_of_eq rfl) (hb hby d4_39) (fun _ _ => ⟨rfl, e6, (by decide : 0 + 0 ≤ _), (by decide : 0 + 0 ≤ _)⟩)
  dsimp only [Pt.U, Pt.locs, Pt.cells, Pt.slots] at X8 l8 y8 z8 st8 hQ8
  subst y8 z8
  obtain ⟨rfl, N8q, e8⟩ := hQ8
  have N8 := Fr.app N6 N8q
  rw [← l8] at N8
  clear l8
  refine own_step (st' := T8.setTop (mkF m 42 #[.val (.ref x0), .val (.ref x1), .val (.int x2), .val (.int x3), .val (.int x4)] [(.int o7), (.int ((o1 + o3) + o5))])) st8 ?_
  refine own_step (st' := T8.setTop (mkF m 43 #[.val (.ref x0), .val (.ref x1), .val (.int x2), .val (.int x3), .val (.int x4)] [(.int (((o1 + o3) + o5) + o7))])) (fun t k => XS.iadd X8.here hx rfl (hb hby d4_42) rfl k) ?_
  refine own_step (st' := T8.setTop (mkF m 44 #[.val (.ref x0), .val (.ref x1), .val (.int x2), .val (.int x3), .val (.int x4)] [(.ref x0), (.int (((o1 + o3) + o5) + o7))])) (fun t k => XS.aloadN X8.here hx rfl (hb hby d4_43) rfl rfl k) ?_
  refine own_step (st' := T8.setTop (mkF m 45 #[.val (.ref x0), .val (.ref x1), .val (.int x2), .val (.int x3), .val (.int x4)] [(.ref x1), (.ref x0), (.int (((o1 + o3) + o5) + o7))])) (fun t k => XS.aloadN X8.here hx rfl (hb hby d4_44) rfl rfl k) ?_
  refine own_step (st' := T8.setTop (mkF m 46 #[.val (.ref x0), .val (.ref x1), .val (.int x2), .val (.int x3), .val (.int x4)] [(.int x2), (.ref x1), (.ref x0), (.int (((o1 + o3) + o5) + o7))])) (fun t k => XS.iloadN X8.here hx rfl (hb hby d4_45) rfl k) ?_
  refine own_step (st' := T8.setTop (mkF m 47 #[.val (.ref x0), .val (.ref x1), .val (.int x2), .val (.int x3), .val (.int x4)] [(.int x3), (.int x2), (.ref x1), (.ref x0), (.int (((o1 + o3) + o5) + o7))])) (fun t k => XS.iloadN X8.here hx rfl (hb hby d4_46) rfl k) ?_
  refine own_step (st' := T8.setTop (mkF m 49 #[.val (.ref x0), .val (.ref x1), .val (.int x2), .val (.int x3), .val (.int x4)] [(.int x4), (.int x3), (.int x2), (.ref x1), (.ref x0), (.int (((o1 + o3) + o5) + o7))])) (fun t k => XS.iload X8.here hx rfl (hb hby d4_47) rfl k) ?_
  refine own_step (st' := T8.setTop (mkF m 50 #[.val (.ref x0), .val (.ref x1), .val (.int x2), .val (.int x3), .val (.int x4)] [(.int (4 : Int32)), (.int x4), (.int x3), (.int x2), (.ref x1), (.ref x0), (.int (((o1 + o3) + o5) + o7))])) (fun t k => XS.iconst X8.here hx rfl (hb hby d4_49) k) ?_
  obtain ⟨o9, ho9, ro9⟩ := own_bind ro7
  clear ro7
  obtain ⟨_, _, ⟨T10, L10, k10, n10⟩, -, X10, ⟨Lc10, hQ10, l10, y10, z10⟩, st10⟩ := Jvm.LawKit.callS X8 hx (y := (⟨"com/example/rumorwire/rumorwire/TreeSolverInformedInPinLaw", "one", "([I[IIIZI)I"⟩ : MethodName)) hown (mvT hZ (hw _ (List.mem_of_getElem? (i := 16) rfl))) (mvT hZ (hw _ (List.mem_of_getElem? (i := 17) rfl))) (mvT hZ (hw _ (List.mem_of_getElem? (i := 4) rfl))) (mvT hZ (hw _ (List.mem_of_getElem? (i := 18) rfl))) (by decide) (backOf (W := 1) (rm5 l Z a0 hw [] x0 x1 x2 x3 x4 (4 : Int32) k0 k1 P T o9 h0 n0 Z0 p_0 p_1 ho9) hZ (hw _ (List.mem_of_getElem? (i := 18) rfl)) (hw _ (List.mem_of_getElem? (i := 4) rfl)) (by decide) (by decide)) (g := (mkF m 50 #[.val (.ref x0), .val (.ref x1), .val (.int x2), .val (.int x3), .val (.int x4)] [(.int (4 : Int32)), (.int x4), (.int x3), (.int x2), (.ref x1), (.ref x0), (.int (((o1 + o3) + o5) + o7))])) rfl (by rw [hml]; rfl) (argsL := [(.ref x0), (.ref x1), (.int x2), (.int x3), (.int x4), (.int (4 : Int32))]) (rest := [(.int (((o1 + o3) + o5) + o7))]) (lenOf pd_4 rfl) rfl (by show 2 * 0 + _ ≤ _; exact Nat.le_of_eq rfl) (hb hby d4_50) (fun _ _ => ⟨rfl, e8, (by decide : 0 + 0 ≤ _), (by decide : 0 + 0 ≤ _)⟩)
  dsimp only [Pt.U, Pt.locs, Pt.cells, Pt.slots] at X10 l10 y10 z10 st10 hQ10
  subst y10 z10
  obtain ⟨rfl, N10q, e10⟩ := hQ10
  have N10 := Fr.app N8 N10q
  rw [← l10] at N10
  clear l10
  refine own_step (st' := T10.setTop (mkF m 53 #[.val (.ref x0), .val (.ref x1), .val (.int x2), .val (.int x3), .val (.int x4)] [(.int o9), (.int (((o1 + o3) + o5) + o7))])) st10 ?_
  refine own_step (st' := T10.setTop (mkF m 54 #[.val (.ref x0), .val (.ref x1), .val (.int x2), .val (.int x3), .val (.int x4)] [(.int ((((o1 + o3) + o5) + o7) + o9))])) (fun t k => XS.iadd X10.here hx rfl (hb hby d4_53) rfl k) ?_
  refine own_step (st' := T10.setTop (mkF m 55 #[.val (.ref x0), .val (.ref x1), .val (.int x2), .val (.int x3), .val (.int x4)] [(.ref x0), (.int ((((o1 + o3) + o5) + o7) + o9))])) (fun t k => XS.aloadN X10.here hx rfl (hb hby d4_54) rfl rfl k) ?_
  refine own_step (st' := T10.setTop (mkF m 56 #[.val (.ref x0), .val (.ref x1), .val (.int x2), .val (.int x3), .val (.int x4)] [(.ref x1), (.ref x0), (.int ((((o1 + o3) + o5) + o7) + o9))])) (fun t k => XS.aloadN X10.here hx rfl (hb hby d4_55) rfl rfl k) ?_
  refine own_step (st' := T10.setTop (mkF m 57 #[.val (.ref x0), .val (.ref x1), .val (.int x2), .val (.int x3), .val (.int x4)] [(.int x2), (.ref x1), (.ref x0), (.int ((((o1 + o3) + o5) + o7) + o9))])) (fun t k => XS.iloadN X10.here hx rfl (hb hby d4_56) rfl k) ?_
  refine own_step (st' := T10.setTop (mkF m 58 #[.val (.ref x0), .val (.ref x1), .val (.int x2), .val (.int x3), .val (.int x4)] [(.int x3), (.int x2), (.ref x1), (.ref x0), (.int ((((o1 + o3) + o5) + o7) + o9))])) (fun t k => XS.iloadN X10.here hx rfl (hb hby d4_57) rfl k) ?_
  refine own_step (st' := T10.setTop (mkF m 60 #[.val (.ref x0), .val (.ref x1), .val (.int x2), .val (.int x3), .val (.int x4)] [(.int x4), (.int x3), (.int x2), (.ref x1), (.ref x0), (.int ((((o1 + o3) + o5) + o7) + o9))])) (fun t k => XS.iload X10.here hx rfl (hb hby d4_58) rfl k) ?_
  refine own_step (st' := T10.setTop (mkF m 61 #[.val (.ref x0), .val (.ref x1), .val (.int x2), .val (.int x3), .val (.int x4)] [(.int (5 : Int32)), (.int x4), (.int x3), (.int x2), (.ref x1), (.ref x0), (.int ((((o1 + o3) + o5) + o7) + o9))])) (fun t k => XS.iconst X10.here hx rfl (hb hby d4_60) k) ?_
  obtain ⟨o11, ho11, ro11⟩ := own_bind ro9
  clear ro9
  obtain ⟨_, _, ⟨T12, L12, k12, n12⟩, -, X12, ⟨Lc12, hQ12, l12, y12, z12⟩, st12⟩ := Jvm.LawKit.callS X10 hx (y := (⟨"com/example/rumorwire/rumorwire/TreeSolverInformedInPinLaw", "one", "([I[IIIZI)I"⟩ : MethodName)) hown (mvT hZ (hw _ (List.mem_of_getElem? (i := 16) rfl))) (mvT hZ (hw _ (List.mem_of_getElem? (i := 17) rfl))) (mvT hZ (hw _ (List.mem_of_getElem? (i := 4) rfl))) (mvT hZ (hw _ (List.mem_of_getElem? (i := 18) rfl))) (by decide) (backOf (W := 1) (rm5 l Z a0 hw [] x0 x1 x2 x3 x4 (5 : Int32) k0 k1 P T o11 h0 n0 Z0 p_0 p_1 ho11) hZ (hw _ (List.mem_of_getElem? (i := 18) rfl)) (hw _ (List.mem_of_getElem? (i := 4) rfl)) (by decide) (by decide)) (g := (mkF m 61 #[.val (.ref x0), .val (.ref x1), .val (.int x2), .val (.int x3), .val (.int x4)] [(.int (5 : Int32)), (.int x4), (.int x3), (.int x2), (.ref x1), (.ref x0), (.int ((((o1 + o3) + o5) + o7) + o9))])) rfl (by rw [hml]; rfl) (argsL := [(.ref x0), (.ref x1), (.int x2), (.int x3), (.int x4), (.int (5 : Int32))]) (rest := [(.int ((((o1 + o3) + o5) + o7) + o9))]) (lenOf pd_4 rfl) rfl (by show 2 * 0 + _ ≤ _; exact Nat.le_of_eq rfl) (hb hby d4_61) (fun _ _ => ⟨rfl, e10, (by decide : 0 + 0 ≤ _), (by decide : 0 + 0 ≤ _)⟩)
  dsimp only [Pt.U, Pt.locs, Pt.cells, Pt.slots] at X12 l12 y12 z12 st12 hQ12
  subst y12 z12
  obtain ⟨rfl, N12q, e12⟩ := hQ12
  have N12 := Fr.app N10 N12q
  rw [← l12] at N12
  clear l12
  refine own_step (st' := T12.setTop (mkF m 64 #[.val (.ref x0), .val (.ref x1), .val (.int x2), .val (.int x3), .val (.int x4)] [(.int o11), (.int ((((o1 + o3) + o5) + o7) + o9))])) st12 ?_
  refine own_step (st' := T12.setTop (mkF m 65 #[.val (.ref x0), .val (.ref x1), .val (.int x2), .val (.int x3), .val (.int x4)] [(.int (((((o1 + o3) + o5) + o7) + o9) + o11))])) (fun t k => XS.iadd X12.here hx rfl (hb hby d4_64) rfl k) ?_
  refine own_ret X12 Bd.notSynchronized (some (.int (((((o1 + o3) + o5) + o7) + o9) + o11))) (fun h => by rw [Bd.returns] at h; cases h) (fun fs hr => own_retI X12 hx Bd.returns (hb hby d4_65) hr) ?_ (by decide) (by decide)
  rw [e12]
  have hq : some ((((((o1 + o3) + o5) + o7) + o9) + o11)) = some (r) := ro11
  cases hq
  exact ⟨rfl, N12, rfl⟩
def m_term (P : List Int32) (T : List Int32) (x2 : Int32) (x3 : Int32) : Option (Int32) := (own_get (6 : Int32) P x3).bind fun z1 => if z1 = x2 then ((own_get (6 : Int32) T x3).bind fun z4 => (own_get (6 : Int32) T x3).bind fun z5 => (m_cnt P T x2 z5 (0 : Int32)).bind fun o6 => some ((z4 + o6))) else (some ((0 : Int32)))
theorem d2_0 : decode method_5_code 0 = .ok (.aload_n 0, 1) := by decide +kernel
theorem d2_1 : decode method_5_code 1 = .ok (.iload_n 3, 1) := by decide +kernel
theorem d2_2 : decode method_5_code 2 = .ok (.iaload, 1) := by decide +kernel
theorem d2_3 : decode method_5_code 3 = .ok (.iload_n 2, 1) := by decide +kernel
theorem d2_4 : decode method_5_code 4 = .ok (.if_icmp .eq 5, 3) := by decide +kernel
theorem d2_7 : decode method_5_code 7 = .ok (.iconst 0, 1) := by decide +kernel
theorem d2_8 : decode method_5_code 8 = .ok (.ireturn, 1) := by decide +kernel
theorem d2_9 : decode method_5_code 9 = .ok (.aload_n 1, 1) := by decide +kernel
theorem d2_10 : decode method_5_code 10 = .ok (.iload_n 3, 1) := by decide +kernel
theorem d2_11 : decode method_5_code 11 = .ok (.iaload, 1) := by decide +kernel
theorem d2_12 : decode method_5_code 12 = .ok (.aload_n 0, 1) := by decide +kernel
theorem d2_13 : decode method_5_code 13 = .ok (.aload_n 1, 1) := by decide +kernel
theorem d2_14 : decode method_5_code 14 = .ok (.iload_n 2, 1) := by decide +kernel
theorem d2_15 : decode method_5_code 15 = .ok (.aload_n 1, 1) := by decide +kernel
theorem d2_16 : decode method_5_code 16 = .ok (.iload_n 3, 1) := by decide +kernel
theorem d2_17 : decode method_5_code 17 = .ok (.iaload, 1) := by decide +kernel
theorem d2_18 : decode method_5_code 18 = .ok (.iconst 0, 1) := by decide +kernel
theorem d2_19 : decode method_5_code 19 = .ok (.invokestatic 35, 3) := by decide +kernel
theorem d2_22 : decode method_5_code 22 = .ok (.iadd, 1) := by decide +kernel
theorem d2_23 : decode method_5_code 23 = .ok (.ireturn, 1) := by decide +kernel
theorem ef_2_RRII (m : MethodId) (x0 : Addr) (x1 : Addr) (x2 : Int32) (x3 : Int32) : entryFrame m #[(.ref x0), (.ref x1), (.int x2), (.int x3)] 4 = mkF m 0 #[.val (.ref x0), .val (.ref x1), .val (.int x2), .val (.int x3)] [] := by first | (simp [entryFrame, mkF, argsToLocals, Value.category]; done) | rfl
def Q_rm2 (Z : State) (x0 : Addr) (x1 : Addr) (x2 : Int32) (x3 : Int32) (k0 : ClassId) (k1 : ClassId) (P : List Int32) (T : List Int32) (r : Int32) (h0 : Heap) (n0 : Nat) (v : Option Value) (h : Heap) (L : List Loc) : Prop := v = some (.int r) ∧ Fr n0 L ∧ h = h0
set_option maxRecDepth 65536 in
set_option maxHeartbeats 40000000 in
theorem rm2 (l : Launch) (Z : State) (a0 : Array Value) (hw : ∀ d ∈ tables_1, d.before a0 Z = true) (ws : List Jvm.Cond) (x0 : Addr) (x1 : Addr) (x2 : Int32) (x3 : Int32) (k0 : ClassId) (k1 : ClassId) (P : List Int32) (T : List Int32) (r : Int32) (h0 : Heap) (n0 : Nat) (Z0 : n0 ≤ h0.size) (p_0 : Arv Z h0 x0 k0 .int (6 : Int32) (P.map Value.int) (.int (0 : Int32))) (p_1 : Arv Z h0 x1 k1 .int (6 : Int32) (T.map Value.int) (.int (0 : Int32))) (p_2 : m_term P T x2 x3 = some (r)) :
    MetFree l (⟨"com/example/rumorwire/rumorwire/TreeSolverInformedInPinLaw", "term", "([I[III)I"⟩ : MethodName) (head1 (Jvm.Cond.code (⟨"com/example/rumorwire/rumorwire/TreeSolverInformedInPinLaw", "term", "([I[III)I"⟩ : MethodName) method_5_code 4 (some .int) :: ws) ({ frames := 2, cells := 0, slots := 0, locals := 35 } : Room)) (fun a U => a = #[(.ref x0), (.ref x1), (.int x2), (.int x3)] ∧ Z.Warmed39 U.vm ∧ U.heap = h0) (fun _ _ _ _ _ => True) (fun _ U o U' => ∃ v L, o = .returned v ∧ Q_rm2 Z x0 x1 x2 x3 k0 k1 P T r h0 n0 v U'.heap L ∧ FrameEnd U o U' L ({ frames := 2, cells := 0, slots := 0, locals := 35 } : Room).cells ({ frames := 2, cells := 0, slots := 0, locals := 35 } : Room).slots) := by
  refine MetFree.of_bodySF (plainFor_of_name pn_1) hisR ?_
  intro p e s m args below meth c s₁ Bd hml0 hP hK
  obtain ⟨rfl, hZ, hh⟩ := hP
  have hx := Bd.exec
  have hby := Bd.bytes
  have hml : c.maxLocals = 4 := hml0
  have hown : s.vm.findClass "com/example/rumorwire/rumorwire/TreeSolverInformedInPinLaw" = some m.cls := findClass_of_methodNamed Bd.named
  have hnm := (name_of_methodNamed Bd.named Bd.method).1
  have X0 : Stand p l e ({ frames := 2, cells := 0, slots := 0, locals := 35 } : Room) s m #[(.ref x0), (.ref x1), (.int x2), (.int x3)] below meth c s₁ [] 0 0 := Stand.of_body Bd
  have e0 : s₁.heap = h0 := by rw [← hh, Bd.state]; rfl
  have N0 := Fr.nil n0
  show own_Ends p e below s ({ frames := 2, cells := 0, slots := 0, locals := 35 } : Room).cells ({ frames := 2, cells := 0, slots := 0, locals := 35 } : Room).slots (Q_rm2 Z x0 x1 x2 x3 k0 k1 P T r h0 n0) (s₁.setTop (entryFrame m #[(.ref x0), (.ref x1), (.int x2), (.int x3)] 4))
  rw [ef_2_RRII]
  refine own_step (st' := s₁.setTop (mkF m 1 #[.val (.ref x0), .val (.ref x1), .val (.int x2), .val (.int x3)] [(.ref x0)])) (fun t k => XS.aloadN X0.here hx rfl (hb hby d2_0) rfl rfl k) ?_
  refine own_step (st' := s₁.setTop (mkF m 2 #[.val (.ref x0), .val (.ref x1), .val (.int x2), .val (.int x3)] [(.int x3), (.ref x0)])) (fun t k => XS.iloadN X0.here hx rfl (hb hby d2_1) rfl k) ?_
  obtain ⟨z1, hz1, rz1⟩ := own_bind p_2
  clear p_2
  refine own_step (st' := s₁.setTop (mkF m 3 #[.val (.ref x0), .val (.ref x1), .val (.int x2), .val (.int x3)] [(.int z1)])) (fun t k => own_ldI X0 hx hZ e0 p_0 (j := x3) (v := (.int z1)) (own_gd hz1).1 (own_gd hz1).2 (g := (mkF m 2 #[.val (.ref x0), .val (.ref x1), .val (.int x2), .val (.int x3)] [(.int x3), (.ref x0)])) rfl rfl (hb hby d2_2) t k) ?_
  refine own_step (st' := s₁.setTop (mkF m 4 #[.val (.ref x0), .val (.ref x1), .val (.int x2), .val (.int x3)] [(.int x2), (.int z1)])) (fun t k => XS.iloadN X0.here hx rfl (hb hby d2_3) rfl k) ?_
  by_cases hc2 : z1 = x2
  · have r3 := own_if1 hc2 rz1
    clear rz1
    refine own_step (st' := s₁.setTop (mkF m 9 #[.val (.ref x0), .val (.ref x1), .val (.int x2), .val (.int x3)] [])) (fun t k => XS.icmpYes X0.here hx rfl (pc0 := 4) (pc' := 9) rfl (hb hby d2_4) rfl (teq hc2).1 (by decide) (by decide) k) ?_
    refine own_step (st' := s₁.setTop (mkF m 10 #[.val (.ref x0), .val (.ref x1), .val (.int x2), .val (.int x3)] [(.ref x1)])) (fun t k => XS.aloadN X0.here hx rfl (hb hby d2_9) rfl rfl k) ?_
    refine own_step (st' := s₁.setTop (mkF m 11 #[.val (.ref x0), .val (.ref x1), .val (.int x2), .val (.int x3)] [(.int x3), (.ref x1)])) (fun t k => XS.iloadN X0.here hx rfl (hb hby d2_10) rfl k) ?_
    obtain ⟨z4, hz4, rz4⟩ := own_bind r3
    clear r3
    refine own_step (st' := s₁.setTop (mkF m 12 #[.val (.ref x0), .val (.ref x1), .val (.int x2), .val (.int x3)] [(.int z4)])) (fun t k => own_ldI X0 hx hZ e0 p_1 (j := x3) (v := (.int z4)) (own_gd hz4).1 (own_gd hz4).2 (g := (mkF m 11 #[.val (.ref x0), .val (.ref x1), .val (.int x2), .val (.int x3)] [(.int x3), (.ref x1)])) rfl rfl (hb hby d2_11) t k) ?_
    refine own_step (st' := s₁.setTop (mkF m 13 #[.val (.ref x0), .val (.ref x1), .val (.int x2), .val (.int x3)] [(.ref x0), (.int z4)])) (fun t k => XS.aloadN X0.here hx rfl (hb hby d2_12) rfl rfl k) ?_
    refine own_step (st' := s₁.setTop (mkF m 14 #[.val (.ref x0), .val (.ref x1), .val (.int x2), .val (.int x3)] [(.ref x1), (.ref x0), (.int z4)])) (fun t k => XS.aloadN X0.here hx rfl (hb hby d2_13) rfl rfl k) ?_
    refine own_step (st' := s₁.setTop (mkF m 15 #[.val (.ref x0), .val (.ref x1), .val (.int x2), .val (.int x3)] [(.int x2), (.ref x1), (.ref x0), (.int z4)])) (fun t k => XS.iloadN X0.here hx rfl (hb hby d2_14) rfl k) ?_
    refine own_step (st' := s₁.setTop (mkF m 16 #[.val (.ref x0), .val (.ref x1), .val (.int x2), .val (.int x3)] [(.ref x1), (.int x2), (.ref x1), (.ref x0), (.int z4)])) (fun t k => XS.aloadN X0.here hx rfl (hb hby d2_15) rfl rfl k) ?_
    refine own_step (st' := s₁.setTop (mkF m 17 #[.val (.ref x0), .val (.ref x1), .val (.int x2), .val (.int x3)] [(.int x3), (.ref x1), (.int x2), (.ref x1), (.ref x0), (.int z4)])) (fun t k => XS.iloadN X0.here hx rfl (hb hby d2_16) rfl k) ?_
    obtain ⟨z5, hz5, rz5⟩ := own_bind rz4
    clear rz4
    refine own_step (st' := s₁.setTop (mkF m 18 #[.val (.ref x0), .val (.ref x1), .val (.int x2), .val (.int x3)] [(.int z5), (.int x2), (.ref x1), (.ref x0), (.int z4)])) (fun t k => own_ldI X0 hx hZ e0 p_1 (j := x3) (v := (.int z5)) (own_gd hz5).1 (own_gd hz5).2 (g := (mkF m 17 #[.val (.ref x0), .val (.ref x1), .val (.int x2), .val (.int x3)] [(.int x3), (.ref x1), (.int x2), (.ref x1), (.ref x0), (.int z4)])) rfl rfl (hb hby d2_17) t k) ?_
    refine own_step (st' := s₁.setTop (mkF m 19 #[.val (.ref x0), .val (.ref x1), .val (.int x2), .val (.int x3)] [(.int (0 : Int32)), (.int z5), (.int x2), (.ref x1), (.ref x0), (.int z4)])) (fun t k => XS.iconst X0.here hx rfl (hb hby d2_18) k) ?_
    obtain ⟨o6, ho6, ro6⟩ := own_bind rz5
    clear rz5
    obtain ⟨_, _, ⟨T7, L7, k7, n7⟩, -, X7, ⟨Lc7, hQ7, l7, y7, z7⟩, st7⟩ := Jvm.LawKit.callS X0 hx (y := (⟨"com/example/rumorwire/rumorwire/TreeSolverInformedInPinLaw", "cnt", "([I[IIIZ)I"⟩ : MethodName)) hown (mvT hZ (hw _ (List.mem_of_getElem? (i := 13) rfl))) (mvT hZ (hw _ (List.mem_of_getElem? (i := 14) rfl))) (mvT hZ (hw _ (List.mem_of_getElem? (i := 4) rfl))) (mvT hZ (hw _ (List.mem_of_getElem? (i := 15) rfl))) (by decide) (backOf (W := 1) (rm4 l Z a0 hw [] x0 x1 x2 z5 (0 : Int32) k0 k1 P T o6 h0 n0 Z0 p_0 p_1 ho6) hZ (hw _ (List.mem_of_getElem? (i := 15) rfl)) (hw _ (List.mem_of_getElem? (i := 4) rfl)) (by decide) (by decide)) (g := (mkF m 19 #[.val (.ref x0), .val (.ref x1), .val (.int x2), .val (.int x3)] [(.int (0 : Int32)), (.int z5), (.int x2), (.ref x1), (.ref x0), (.int z4)])) rfl (by rw [hml]; rfl) (argsL := [(.ref x0), (.ref x1), (.int x2), (.int z5), (.int (0 : Int32))]) (rest := [(.int z4)]) (lenOf pd_3 rfl) rfl (by show 2 * 0 + _ ≤ _; exact Nat.le_of_eq rfl) (hb hby d2_19) (fun _ _ => ⟨rfl, e0, (by decide : 0 + 0 ≤ _), (by decide : 0 + 0 ≤ _)⟩)
    dsimp only [Pt.U, Pt.locs, Pt.cells, Pt.slots] at X7 l7 y7 z7 st7 hQ7
    subst y7 z7
    obtain ⟨rfl, N7q, e7⟩ := hQ7
    have N7 := Fr.app N0 N7q
    rw [← l7] at N7
    clear l7
    refine own_step (st' := T7.setTop (mkF m 22 #[.val (.ref x0), .val (.ref x1), .val (.int x2), .val (.int x3)] [(.int o6), (.int z4)])) st7 ?_
    refine own_step (st' := T7.setTop (mkF m 23 #[.val (.ref x0), .val (.ref x1), .val (.int x2), .val (.int x3)] [(.int (z4 + o6))])) (fun t k => XS.iadd X7.here hx rfl (hb hby d2_22) rfl k) ?_
    refine own_ret X7 Bd.notSynchronized (some (.int (z4 + o6))) (fun h => by rw [Bd.returns] at h; cases h) (fun fs hr => own_retI X7 hx Bd.returns (hb hby d2_23) hr) ?_ (by decide) (by decide)
    rw [e7]
    have hq : some ((z4 + o6)) = some (r) := ro6
    cases hq
    exact ⟨(by first | rfl | (simp only [if_pos hc2]; done) | (simp only [if_pos hc2]; rfl)), N7, rfl⟩
  · have r8 := own_if0 hc2 rz1
    clear rz1
    refine own_step (st' := s₁.setTop (mkF m 7 #[.val (.ref x0), .val (.ref x1), .val (.int x2), .val (.int x3)] [])) (fun t k => XS.icmpNo X0.here hx rfl (hb hby d2_4) rfl (feq hc2).1 k) ?_
    refine own_step (st' := s₁.setTop (mkF m 8 #[.val (.ref x0), .val (.ref x1), .val (.int x2), .val (.int x3)] [(.int (0 : Int32))])) (fun t k => XS.iconst X0.here hx rfl (hb hby d2_7) k) ?_
    refine own_ret X0 Bd.notSynchronized (some (.int (0 : Int32))) (fun h => by rw [Bd.returns] at h; cases h) (fun fs hr => own_retI X0 hx Bd.returns (hb hby d2_8) hr) ?_ (by decide) (by decide)
    rw [e0]
    have hq : some ((0 : Int32)) = some (r) := r8
    cases hq
    exact ⟨(by first | rfl | (simp only [if_neg hc2]; done) | (simp only [if_neg hc2]; rfl)), N0, rfl⟩
def m_time (P : List Int32) (T : List Int32) (x2 : Int32) : Option (Int32) := (m_term P T x2 (1 : Int32)).bind fun o1 => (some (if (0 : Int32) < o1 then o1 else (0 : Int32))).bind fun u4 => (m_term P T x2 (2 : Int32)).bind fun o5 => (some (if u4 < o5 then o5 else u4)).bind fun u8 => (m_term P T x2 (3 : Int32)).bind fun o9 => (some (if u8 < o9 then o9 else u8)).bind fun u12 => (m_term P T x2 (4 : Int32)).bind fun o13 => (some (if u12 < o13 then o13 else u12)).bind fun u16 => (m_term P T x2 (5 : Int32)).bind fun o17 => (some (if u16 < o17 then o17 else u16)).bind fun u20 => some (u20)
theorem d1_0 : decode method_6_code 0 = .ok (.iconst 0, 1) := by decide +kernel
theorem d1_1 : decode method_6_code 1 = .ok (.istore_n 3, 1) := by decide +kernel
theorem d1_2 : decode method_6_code 2 = .ok (.iload_n 3, 1) := by decide +kernel
theorem d1_3 : decode method_6_code 3 = .ok (.aload_n 0, 1) := by decide +kernel
theorem d1_4 : decode method_6_code 4 = .ok (.aload_n 1, 1) := by decide +kernel
theorem d1_5 : decode method_6_code 5 = .ok (.iload_n 2, 1) := by decide +kernel
theorem d1_6 : decode method_6_code 6 = .ok (.iconst 1, 1) := by decide +kernel
theorem d1_7 : decode method_6_code 7 = .ok (.invokestatic 39, 3) := by decide +kernel
theorem d1_10 : decode method_6_code 10 = .ok (.invokestatic 43, 3) := by decide +kernel
theorem d1_13 : decode method_6_code 13 = .ok (.istore_n 3, 1) := by decide +kernel
theorem d1_14 : decode method_6_code 14 = .ok (.iload_n 3, 1) := by decide +kernel
theorem d1_15 : decode method_6_code 15 = .ok (.aload_n 0, 1) := by decide +kernel
theorem d1_16 : decode method_6_code 16 = .ok (.aload_n 1, 1) := by decide +kernel
theorem d1_17 : decode method_6_code 17 = .ok (.iload_n 2, 1) := by decide +kernel
theorem d1_18 : decode method_6_code 18 = .ok (.iconst 2, 1) := by decide +kernel
theorem d1_19 : decode method_6_code 19 = .ok (.invokestatic 39, 3) := by decide +kernel
theorem d1_22 : decode method_6_code 22 = .ok (.invokestatic 43, 3) := by decide +kernel
theorem d1_25 : decode method_6_code 25 = .ok (.istore_n 3, 1) := by decide +kernel
theorem d1_26 : decode method_6_code 26 = .ok (.iload_n 3, 1) := by decide +kernel
theorem d1_27 : decode method_6_code 27 = .ok (.aload_n 0, 1) := by decide +kernel
theorem d1_28 : decode method_6_code 28 = .ok (.aload_n 1, 1) := by decide +kernel
theorem d1_29 : decode method_6_code 29 = .ok (.iload_n 2, 1) := by decide +kernel
theorem d1_30 : decode method_6_code 30 = .ok (.iconst 3, 1) := by decide +kernel
theorem d1_31 : decode method_6_code 31 = .ok (.invokestatic 39, 3) := by decide +kernel
theorem d1_34 : decode method_6_code 34 = .ok (.invokestatic 43, 3) := by decide +kernel
theorem d1_37 : decode method_6_code 37 = .ok (.istore_n 3, 1) := by decide +kernel
theorem d1_38 : decode method_6_code 38 = .ok (.iload_n 3, 1) := by decide +kernel
theorem d1_39 : decode method_6_code 39 = .ok (.aload_n 0, 1) := by decide +kernel
theorem d1_40 : decode method_6_code 40 = .ok (.aload_n 1, 1) := by decide +kernel
theorem d1_41 : decode method_6_code 41 = .ok (.iload_n 2, 1) := by decide +kernel
theorem d1_42 : decode method_6_code 42 = .ok (.iconst 4, 1) := by decide +kernel
theorem d1_43 : decode method_6_code 43 = .ok (.invokestatic 39, 3) := by decide +kernel
theorem d1_46 : decode method_6_code 46 = .ok (.invokestatic 43, 3) := by decide +kernel
theorem d1_49 : decode method_6_code 49 = .ok (.istore_n 3, 1) := by decide +kernel
theorem d1_50 : decode method_6_code 50 = .ok (.iload_n 3, 1) := by decide +kernel
theorem d1_51 : decode method_6_code 51 = .ok (.aload_n 0, 1) := by decide +kernel
theorem d1_52 : decode method_6_code 52 = .ok (.aload_n 1, 1) := by decide +kernel
theorem d1_53 : decode method_6_code 53 = .ok (.iload_n 2, 1) := by decide +kernel
theorem d1_54 : decode method_6_code 54 = .ok (.iconst 5, 1) := by decide +kernel
theorem d1_55 : decode method_6_code 55 = .ok (.invokestatic 39, 3) := by decide +kernel
theorem d1_58 : decode method_6_code 58 = .ok (.invokestatic 43, 3) := by decide +kernel
theorem d1_61 : decode method_6_code 61 = .ok (.istore_n 3, 1) := by decide +kernel
theorem d1_62 : decode method_6_code 62 = .ok (.iload_n 3, 1) := by decide +kernel
theorem d1_63 : decode method_6_code 63 = .ok (.ireturn, 1) := by decide +kernel
theorem ef_1_RRI (m : MethodId) (x0 : Addr) (x1 : Addr) (x2 : Int32) : entryFrame m #[(.ref x0), (.ref x1), (.int x2)] 4 = mkF m 0 #[.val (.ref x0), .val (.ref x1), .val (.int x2), .unset] [] := by first | (simp [entryFrame, mkF, argsToLocals, Value.category]; done) | rfl
def Q_rm1 (Z : State) (x0 : Addr) (x1 : Addr) (x2 : Int32) (k0 : ClassId) (k1 : ClassId) (P : List Int32) (T : List Int32) (r : Int32) (h0 : Heap) (n0 : Nat) (v : Option Value) (h : Heap) (L : List Loc) : Prop := v = some (.int r) ∧ Fr n0 L ∧ h = h0
set_option maxRecDepth 65536 in
set_option maxHeartbeats 40000000 in
theorem rm1 (l : Launch) (Z : State) (a0 : Array Value) (hw : ∀ d ∈ tables_1, d.before a0 Z = true) (ws : List Jvm.Cond) (x0 : Addr) (x1 : Addr) (x2 : Int32) (k0 : ClassId) (k1 : ClassId) (P : List Int32) (T : List Int32) (r : Int32) (h0 : Heap) (n0 : Nat) (Z0 : n0 ≤ h0.size) (p_0 : Arv Z h0 x0 k0 .int (6 : Int32) (P.map Value.int) (.int (0 : Int32))) (p_1 : Arv Z h0 x1 k1 .int (6 : Int32) (T.map Value.int) (.int (0 : Int32))) (p_2 : m_time P T x2 = some (r)) :
    MetFree l (⟨"com/example/rumorwire/rumorwire/TreeSolverInformedInPinLaw", "timeOf", "([I[II)I"⟩ : MethodName) (head1 (Jvm.Cond.code (⟨"com/example/rumorwire/rumorwire/TreeSolverInformedInPinLaw", "timeOf", "([I[II)I"⟩ : MethodName) method_6_code 4 (some .int) :: ws) ({ frames := 3, cells := 0, slots := 0, locals := 51 } : Room)) (fun a U => a = #[(.ref x0), (.ref x1), (.int x2)] ∧ Z.Warmed39 U.vm ∧ U.heap = h0) (fun _ _ _ _ _ => True) (fun _ U o U' => ∃ v L, o = .returned v ∧ Q_rm1 Z x0 x1 x2 k0 k1 P T r h0 n0 v U'.heap L ∧ FrameEnd U o U' L ({ frames := 3, cells := 0, slots := 0, locals := 51 } : Room).cells ({ frames := 3, cells := 0, slots := 0, locals := 51 } : Room).slots) := by
  refine MetFree.of_bodySF (plainFor_of_name pn_1) hisR ?_
  intro p e s m args below meth c s₁ Bd hml0 hP hK
  obtain ⟨rfl, hZ, hh⟩ := hP
  have hx := Bd.exec
  have hby := Bd.bytes
  have hml : c.maxLocals = 4 := hml0
  have hown : s.vm.findClass "com/example/rumorwire/rumorwire/TreeSolverInformedInPinLaw" = some m.cls := findClass_of_methodNamed Bd.named
  have hnm := (name_of_methodNamed Bd.named Bd.method).1
  have X0 : Stand p l e ({ frames := 3, cells := 0, slots := 0, locals := 51 } : Room) s m #[(.ref x0), (.ref x1), (.int x2)] below meth c s₁ [] 0 0 := Stand.of_body Bd
  have e0 : s₁.heap = h0 := by rw [← hh, Bd.state]; rfl
  have N0 := Fr.nil n0
  show own_Ends p e below s ({ frames := 3, cells := 0, slots := 0, locals := 51 } : Room).cells ({ frames := 3, cells := 0, slots := 0, locals := 51 } : Room).slots (Q_rm1 Z x0 x1 x2 k0 k1 P T r h0 n0) (s₁.setTop (entryFrame m #[(.ref x0), (.ref x1), (.int x2)] 4))
  rw [ef_1_RRI]
  refine own_step (st' := s₁.setTop (mkF m 1 #[.val (.ref x0), .val (.ref x1), .val (.int x2), .unset] [(.int (0 : Int32))])) (fun t k => XS.iconst X0.here hx rfl (hb hby d1_0) k) ?_
  refine own_step (st' := s₁.setTop (mkF m 2 #[.val (.ref x0), .val (.ref x1), .val (.int x2), .val (.int (0 : Int32))] [])) (fun t k => XS.istoreN X0.here hx rfl (hb hby d1_1) rfl (l' := #[.val (.ref x0), .val (.ref x1), .val (.int x2), .val (.int (0 : Int32))]) rfl k) ?_
  refine own_step (st' := s₁.setTop (mkF m 3 #[.val (.ref x0), .val (.ref x1), .val (.int x2), .val (.int (0 : Int32))] [(.int (0 : Int32))])) (fun t k => XS.iloadN X0.here hx rfl (hb hby d1_2) rfl k) ?_
  refine own_step (st' := s₁.setTop (mkF m 4 #[.val (.ref x0), .val (.ref x1), .val (.int x2), .val (.int (0 : Int32))] [(.ref x0), (.int (0 : Int32))])) (fun t k => XS.aloadN X0.here hx rfl (hb hby d1_3) rfl rfl k) ?_
  refine own_step (st' := s₁.setTop (mkF m 5 #[.val (.ref x0), .val (.ref x1), .val (.int x2), .val (.int (0 : Int32))] [(.ref x1), (.ref x0), (.int (0 : Int32))])) (fun t k => XS.aloadN X0.here hx rfl (hb hby d1_4) rfl rfl k) ?_
  refine own_step (st' := s₁.setTop (mkF m 6 #[.val (.ref x0), .val (.ref x1), .val (.int x2), .val (.int (0 : Int32))] [(.int x2), (.ref x1), (.ref x0), (.int (0 : Int32))])) (fun t k => XS.iloadN X0.here hx rfl (hb hby d1_5) rfl k) ?_
  refine own_step (st' := s₁.setTop (mkF m 7 #[.val (.ref x0), .val (.ref x1), .val (.int x2), .val (.int (0 : Int32))] [(.int (1 : Int32)), (.int x2), (.ref x1), (.ref x0), (.int (0 : Int32))])) (fun t k => XS.iconst X0.here hx rfl (hb hby d1_6) k) ?_
  obtain ⟨o1, ho1, ro1⟩ := own_bind p_2
  clear p_2
  obtain ⟨_, _, ⟨T2, L2, k2, n2⟩, -, X2, ⟨Lc2, hQ2, l2, y2, z2⟩, st2⟩ := Jvm.LawKit.callS X0 hx (y := (⟨"com/example/rumorwire/rumorwire/TreeSolverInformedInPinLaw", "term", "([I[III)I"⟩ : MethodName)) hown (mvT hZ (hw _ (List.mem_of_getElem? (i := 6) rfl))) (mvT hZ (hw _ (List.mem_of_getElem? (i := 7) rfl))) (mvT hZ (hw _ (List.mem_of_getElem? (i := 4) rfl))) (mvT hZ (hw _ (List.mem_of_getElem? (i := 8) rfl))) (by decide) (backOf (W := 1) (rm2 l Z a0 hw [] x0 x1 x2 (1 : Int32) k0 k1 P T o1 h0 n0 Z0 p_0 p_1 ho1) hZ (hw _ (List.mem_of_getElem? (i := 8) rfl)) (hw _ (List.mem_of_getElem? (i := 4) rfl)) (by decide) (by decide)) (g := (mkF m 7 #[.val (.ref x0), .val (.ref x1), .val (.int x2), .val (.int (0 : Int32))] [(.int (1 : Int32)), (.int x2), (.ref x1), (.ref x0), (.int (0 : Int32))])) rfl (by rw [hml]; rfl) (argsL := [(.ref x0), (.ref x1), (.int x2), (.int (1 : Int32))]) (rest := [(.int (0 : Int32))]) (lenOf pd_1 rfl) rfl (by show 2 * 0 + _ ≤ _; exact Nat.le_of_eq rfl) (hb hby d1_7) (fun _ _ => ⟨rfl, e0, (by decide : 0 + 0 ≤ _), (by decide : 0 + 0 ≤ _)⟩)
  dsimp only [Pt.U, Pt.locs, Pt.cells, Pt.slots] at X2 l2 y2 z2 st2 hQ2
  subst y2 z2
  obtain ⟨rfl, N2q, e2⟩ := hQ2
  have N2 := Fr.app N0 N2q
  rw [← l2] at N2
  clear l2
  refine own_step (st' := T2.setTop (mkF m 10 #[.val (.ref x0), .val (.ref x1), .val (.int x2), .val (.int (0 : Int32))] [(.int o1), (.int (0 : Int32))])) st2 ?_
  obtain ⟨_, _, ⟨T3, L3, k3, n3⟩, -, X3, ⟨Lc3, hQ3, l3, y3, z3⟩, st3⟩ := Jvm.LawKit.callS X2 hx (y := (⟨"java/lang/Math", "max", "(II)I"⟩ : MethodName)) hown (mvT hZ (hw _ (List.mem_of_getElem? (i := 9) rfl))) (mvT hZ (hw _ (List.mem_of_getElem? (i := 10) rfl))) (mvT hZ (hw _ (List.mem_of_getElem? (i := 11) rfl))) (mvT hZ (hw _ (List.mem_of_getElem? (i := 12) rfl))) (by decide) (backOf (W := 0) (rm3 l Z a0 hw [] (0 : Int32) o1 h0 n0 Z0) hZ (hw _ (List.mem_of_getElem? (i := 12) rfl)) (hw _ (List.mem_of_getElem? (i := 11) rfl)) (by decide) (by decide)) (g := (mkF m 10 #[.val (.ref x0), .val (.ref x1), .val (.int x2), .val (.int (0 : Int32))] [(.int o1), (.int (0 : Int32))])) rfl (by rw [hml]; rfl) (argsL := [(.int (0 : Int32)), (.int o1)]) (rest := []) (lenOf pd_2 rfl) rfl (by show 2 * 0 + _ ≤ _; exact Nat.le_of_eq rfl) (hb hby d1_10) (fun _ _ => ⟨rfl, e2, (by decide : 0 + 0 ≤ _), (by decide : 0 + 0 ≤ _)⟩)
  dsimp only [Pt.U, Pt.locs, Pt.cells, Pt.slots] at X3 l3 y3 z3 st3 hQ3
  subst y3 z3
  obtain ⟨rfl, N3q, e3⟩ := hQ3
  have N3 := Fr.app N2 N3q
  rw [← l3] at N3
  clear l3
  refine own_step (st' := T3.setTop (mkF m 13 #[.val (.ref x0), .val (.ref x1), .val (.int x2), .val (.int (0 : Int32))] [(.int (if (0 : Int32) < o1 then o1 else (0 : Int32)))])) st3 ?_
  obtain ⟨u4, hu4, ru4⟩ := own_bind ro1
  clear ro1
  have gu4 : (if (0 : Int32) < o1 then o1 else (0 : Int32)) = u4 := Option.some.inj hu4
  rw [gu4]
  refine own_step (st' := T3.setTop (mkF m 14 #[.val (.ref x0), .val (.ref x1), .val (.int x2), .val (.int u4)] [])) (fun t k => XS.istoreN X3.here hx rfl (hb hby d1_13) rfl (l' := #[.val (.ref x0), .val (.ref x1), .val (.int x2), .val (.int u4)]) rfl k) ?_
  refine own_step (st' := T3.setTop (mkF m 15 #[.val (.ref x0), .val (.ref x1), .val (.int x2), .val (.int u4)] [(.int u4)])) (fun t k => XS.iloadN X3.here hx rfl (hb hby d1_14) rfl k) ?_
  refine own_step (st' := T3.setTop (mkF m 16 #[.val (.ref x0), .val (.ref x1), .val (.int x2), .val (.int u4)] [(.ref x0), (.int u4)])) (fun t k => XS.aloadN X3.here hx rfl (hb hby d1_15) rfl rfl k) ?_
  refine own_step (st' := T3.setTop (mkF m 17 #[.val (.ref x0), .val (.ref x1), .val (.int x2), .val (.int u4)] [(.ref x1), (.ref x0), (.int u4)])) (fun t k => XS.aloadN X3.here hx rfl (hb hby d1_16) rfl rfl k) ?_
  refine own_step (st' := T3.setTop (mkF m 18 #[.val (.ref x0), .val (.ref x1), .val (.int x2), .val (.int u4)] [(.int x2), (.ref x1), (.ref x0), (.int u4)])) (fun t k => XS.iloadN X3.here hx rfl (hb hby d1_17) rfl k) ?_
  refine own_step (st' := T3.setTop (mkF m 19 #[.val (.ref x0), .val (.ref x1), .val (.int x2), .val (.int u4)] [(.int (2 : Int32)), (.int x2), (.ref x1), (.ref x0), (.int u4)])) (fun t k => XS.iconst X3.here hx rfl (hb hby d1_18) k) ?_
  obtain ⟨o5, ho5, ro5⟩ := own_bind ru4
  clear ru4
  obtain ⟨_, _, ⟨T6, L6, k6, n6⟩, -, X6, ⟨Lc6, hQ6, l6, y6, z6⟩, st6⟩ := Jvm.LawKit.callS X3 hx (y := (⟨"com/example/rumorwire/rumorwire/TreeSolverInformedInPinLaw", "term", "([I[III)I"⟩ : MethodName)) hown (mvT hZ (hw _ (List.mem_of_getElem? (i := 6) rfl))) (mvT hZ (hw _ (List.mem_of_getElem? (i := 7) rfl))) (mvT hZ (hw _ (List.mem_of_getElem? (i := 4) rfl))) (mvT hZ (hw _ (List.mem_of_getElem? (i := 8) rfl))) (by decide) (backOf (W := 1) (rm2 l Z a0 hw [] x0 x1 x2 (2 : Int32) k0 k1 P T o5 h0 n0 Z0 p_0 p_1 ho5) hZ (hw _ (List.mem_of_getElem? (i := 8) rfl)) (hw _ (List.mem_of_getElem? (i := 4) rfl)) (by decide) (by decide)) (g := (mkF m 19 #[.val (.ref x0), .val (.ref x1), .val (.int x2), .val (.int u4)] [(.int (2 : Int32)), (.int x2), (.ref x1), (.ref x0), (.int u4)])) rfl (by rw [hml]; rfl) (argsL := [(.ref x0), (.ref x1), (.int x2), (.int (2 : Int32))]) (rest := [(.int u4)]) (lenOf pd_1 rfl) rfl (by show 2 * 0 + _ ≤ _; exact Nat.le_of_eq rfl) (hb hby d1_19) (fun _ _ => ⟨rfl, e3, (by decide : 0 + 0 ≤ _), (by decide : 0 + 0 ≤ _)⟩)
  dsimp only [Pt.U, Pt.locs, Pt.cells, Pt.slots] at X6 l6 y6 z6 st6 hQ6
  subst y6 z6
  obtain ⟨rfl, N6q, e6⟩ := hQ6
  have N6 := Fr.app N3 N6q
  rw [← l6] at N6
  clear l6
  refine own_step (st' := T6.setTop (mkF m 22 #[.val (.ref x0), .val (.ref x1), .val (.int x2), .val (.int u4)] [(.int o5), (.int u4)])) st6 ?_
  obtain ⟨_, _, ⟨T7, L7, k7, n7⟩, -, X7, ⟨Lc7, hQ7, l7, y7, z7⟩, st7⟩ := Jvm.LawKit.callS X6 hx (y := (⟨"java/lang/Math", "max", "(II)I"⟩ : MethodName)) hown (mvT hZ (hw _ (List.mem_of_getElem? (i := 9) rfl))) (mvT hZ (hw _ (List.mem_of_getElem? (i := 10) rfl))) (mvT hZ (hw _ (List.mem_of_getElem? (i := 11) rfl))) (mvT hZ (hw _ (List.mem_of_getElem? (i := 12) rfl))) (by decide) (backOf (W := 0) (rm3 l Z a0 hw [] u4 o5 h0 n0 Z0) hZ (hw _ (List.mem_of_getElem? (i := 12) rfl)) (hw _ (List.mem_of_getElem? (i := 11) rfl)) (by decide) (by decide)) (g := (mkF m 22 #[.val (.ref x0), .val (.ref x1), .val (.int x2), .val (.int u4)] [(.int o5), (.int u4)])) rfl (by rw [hml]; rfl) (argsL := [(.int u4), (.int o5)]) (rest := []) (lenOf pd_2 rfl) rfl (by show 2 * 0 + _ ≤ _; exact Nat.le_of_eq rfl) (hb hby d1_22) (fun _ _ => ⟨rfl, e6, (by decide : 0 + 0 ≤ _), (by decide : 0 + 0 ≤ _)⟩)
  dsimp only [Pt.U, Pt.locs, Pt.cells, Pt.slots] at X7 l7 y7 z7 st7 hQ7
  subst y7 z7
  obtain ⟨rfl, N7q, e7⟩ := hQ7
  have N7 := Fr.app N6 N7q
  rw [← l7] at N7
  clear l7
  refine own_step (st' := T7.setTop (mkF m 25 #[.val (.ref x0), .val (.ref x1), .val (.int x2), .val (.int u4)] [(.int (if u4 < o5 then o5 else u4))])) st7 ?_
  obtain ⟨u8, hu8, ru8⟩ := own_bind ro5
  clear ro5
  have gu8 : (if u4 < o5 then o5 else u4) = u8 := Option.some.inj hu8
  rw [gu8]
  refine own_step (st' := T7.setTop (mkF m 26 #[.val (.ref x0), .val (.ref x1), .val (.int x2), .val (.int u8)] [])) (fun t k => XS.istoreN X7.here hx rfl (hb hby d1_25) rfl (l' := #[.val (.ref x0), .val (.ref x1), .val (.int x2), .val (.int u8)]) rfl k) ?_
  refine own_step (st' := T7.setTop (mkF m 27 #[.val (.ref x0), .val (.ref x1), .val (.int x2), .val (.int u8)] [(.int u8)])) (fun t k => XS.iloadN X7.here hx rfl (hb hby d1_26) rfl k) ?_
  refine own_step (st' := T7.setTop (mkF m 28 #[.val (.ref x0), .val (.ref x1), .val (.int x2), .val (.int u8)] [(.ref x0), (.int u8)])) (fun t k => XS.aloadN X7.here hx rfl (hb hby d1_27) rfl rfl k) ?_
  refine own_step (st' := T7.setTop (mkF m 29 #[.val (.ref x0), .val (.ref x1), .val (.int x2), .val (.int u8)] [(.ref x1), (.ref x0), (.int u8)])) (fun t k => XS.aloadN X7.here hx rfl (hb hby d1_28) rfl rfl k) ?_
  refine own_step (st' := T7.setTop (mkF m 30 #[.val (.ref x0), .val (.ref x1), .val (.int x2), .val (.int u8)] [(.int x2), (.ref x1), (.ref x0), (.int u8)])) (fun t k => XS.iloadN X7.here hx rfl (hb hby d1_29) rfl k) ?_
  refine own_step (st' := T7.setTop (mkF m 31 #[.val (.ref x0), .val (.ref x1), .val (.int x2), .val (.int u8)] [(.int (3 : Int32)), (.int x2), (.ref x1), (.ref x0), (.int u8)])) (fun t k => XS.iconst X7.here hx rfl (hb hby d1_30) k) ?_
  obtain ⟨o9, ho9, ro9⟩ := own_bind ru8
  clear ru8
  obtain ⟨_, _, ⟨T10, L10, k10, n10⟩, -, X10, ⟨Lc10, hQ10, l10, y10, z10⟩, st10⟩ := Jvm.LawKit.callS X7 hx (y := (⟨"com/example/rumorwire/rumorwire/TreeSolverInformedInPinLaw", "term", "([I[III)I"⟩ : MethodName)) hown (mvT hZ (hw _ (List.mem_of_getElem? (i := 6) rfl))) (mvT hZ (hw _ (List.mem_of_getElem? (i := 7) rfl))) (mvT hZ (hw _ (List.mem_of_getElem? (i := 4) rfl))) (mvT hZ (hw _ (List.mem_of_getElem? (i := 8) rfl))) (by decide) (backOf (W := 1) (rm2 l Z a0 hw [] x0 x1 x2 (3 : Int32) k0 k1 P T o9 h0 n0 Z0 p_0 p_1 ho9) hZ (hw _ (List.mem_of_getElem? (i := 8) rfl)) (hw _ (List.mem_of_getElem? (i := 4) rfl)) (by decide) (by decide)) (g := (mkF m 31 #[.val (.ref x0), .val (.ref x1), .val (.int x2), .val (.int u8)] [(.int (3 : Int32)), (.int x2), (.ref x1), (.ref x0), (.int u8)])) rfl (by rw [hml]; rfl) (argsL := [(.ref x0), (.ref x1), (.int x2), (.int (3 : Int32))]) (rest := [(.int u8)]) (lenOf pd_1 rfl) rfl (by show 2 * 0 + _ ≤ _; exact Nat.le_of_eq rfl) (hb hby d1_31) (fun _ _ => ⟨rfl, e7, (by decide : 0 + 0 ≤ _), (by decide : 0 + 0 ≤ _)⟩)
  dsimp only [Pt.U, Pt.locs, Pt.cells, Pt.slots] at X10 l10 y10 z10 st10 hQ10
  subst y10 z10
  obtain ⟨rfl, N10q, e10⟩ := hQ10
  have N10 := Fr.app N7 N10q
  rw [← l10] at N10
  clear l10
  refine own_step (st' := T10.setTop (mkF m 34 #[.val (.ref x0), .val (.ref x1), .val (.int x2), .val (.int u8)] [(.int o9), (.int u8)])) st10 ?_
  obtain ⟨_, _, ⟨T11, L11, k11, n11⟩, -, X11, ⟨Lc11, hQ11, l11, y11, z11⟩, st11⟩ := Jvm.LawKit.callS X10 hx (y := (⟨"java/lang/Math", "max", "(II)I"⟩ : MethodName)) hown (mvT hZ (hw _ (List.mem_of_getElem? (i := 9) rfl))) (mvT hZ (hw _ (List.mem_of_getElem? (i := 10) rfl))) (mvT hZ (hw _ (List.mem_of_getElem? (i := 11) rfl))) (mvT hZ (hw _ (List.mem_of_getElem? (i := 12) rfl))) (by decide) (backOf (W := 0) (rm3 l Z a0 hw [] u8 o9 h0 n0 Z0) hZ (hw _ (List.mem_of_getElem? (i := 12) rfl)) (hw _ (List.mem_of_getElem? (i := 11) rfl)) (by decide) (by decide)) (g := (mkF m 34 #[.val (.ref x0), .val (.ref x1), .val (.int x2), .val (.int u8)] [(.int o9), (.int u8)])) rfl (by rw [hml]; rfl) (argsL := [(.int u8), (.int o9)]) (rest := []) (lenOf pd_2 rfl) rfl (by show 2 * 0 + _ ≤ _; exact Nat.le_of_eq rfl) (hb hby d1_34) (fun _ _ => ⟨rfl, e10, (by decide : 0 + 0 ≤ _), (by decide : 0 + 0 ≤ _)⟩)
  dsimp only [Pt.U, Pt.locs, Pt.cells, Pt.slots] at X11 l11 y11 z11 st11 hQ11
  subst y11 z11
  obtain ⟨rfl, N11q, e11⟩ := hQ11
  have N11 := Fr.app N10 N11q
  rw [← l11] at N11
  clear l11
  refine own_step (st' := T11.setTop (mkF m 37 #[.val (.ref x0), .val (.ref x1), .val (.int x2), .val (.int u8)] [(.int (if u8 < o9 then o9 else u8))])) st11 ?_
  obtain ⟨u12, hu12, ru12⟩ := own_bind ro9
  clear ro9
  have gu12 : (if u8 < o9 then o9 else u8) = u12 := Option.some.inj hu12
  rw [gu12]
  refine own_step (st' := T11.setTop (mkF m 38 #[.val (.ref x0), .val (.ref x1), .val (.int x2), .val (.int u12)] [])) (fun t k => XS.istoreN X11.here hx rfl (hb hby d1_37) rfl (l' := #[.val (.ref x0), .val (.ref x1), .val (.int x2), .val (.int u12)]) rfl k) ?_
  refine own_step (st' := T11.setTop (mkF m 39 #[.val (.ref x0), .val (.ref x1), .val (.int x2), .val (.int u12)] [(.int u12)])) (fun t k => XS.iloadN X11.here hx rfl (hb hby d1_38) rfl k) ?_
  refine own_step (st' := T11.setTop (mkF m 40 #[.val (.ref x0), .val (.ref x1), .val (.int x2), .val (.int u12)] [(.ref x0), (.int u12)])) (fun t k => XS.aloadN X11.here hx rfl (hb hby d1_39) rfl rfl k) ?_
  refine own_step (st' := T11.setTop (mkF m 41 #[.val (.ref x0), .val (.ref x1), .val (.int x2), .val (.int u12)] [(.ref x1), (.ref x0), (.int u12)])) (fun t k => XS.aloadN X11.here hx rfl (hb hby d1_40) rfl rfl k) ?_
  refine own_step (st' := T11.setTop (mkF m 42 #[.val (.ref x0), .val (.ref x1), .val (.int x2), .val (.int u12)] [(.int x2), (.ref x1), (.ref x0), (.int u12)])) (fun t k => XS.iloadN X11.here hx rfl (hb hby d1_41) rfl k) ?_
  refine own_step (st' := T11.setTop (mkF m 43 #[.val (.ref x0), .val (.ref x1), .val (.int x2), .val (.int u12)] [(.int (4 : Int32)), (.int x2), (.ref x1), (.ref x0), (.int u12)])) (fun t k => XS.iconst X11.here hx rfl (hb hby d1_42) k) ?_
  obtain ⟨o13, ho13, ro13⟩ := own_bind ru12
  clear ru12
  obtain ⟨_, _, ⟨T14, L14, k14, n14⟩, -, X14, ⟨Lc14, hQ14, l14, y14, z14⟩, st14⟩ := Jvm.LawKit.callS X11 hx (y := (⟨"com/example/rumorwire/rumorwire/TreeSolverInformedInPinLaw", "term", "([I[III)I"⟩ : MethodName)) hown (mvT hZ (hw _ (List.mem_of_getElem? (i := 6) rfl))) (mvT hZ (hw _ (List.mem_of_getElem? (i := 7) rfl))) (mvT hZ (hw _ (List.mem_of_getElem? (i := 4) rfl))) (mvT hZ (hw _ (List.mem_of_getElem? (i := 8) rfl))) (by decide) (backOf (W := 1) (rm2 l Z a0 hw [] x0 x1 x2 (4 : Int32) k0 k1 P T o13 h0 n0 Z0 p_0 p_1 ho13) hZ (hw _ (List.mem_of_getElem? (i := 8) rfl)) (hw _ (List.mem_of_getElem? (i := 4) rfl)) (by decide) (by decide)) (g := (mkF m 43 #[.val (.ref x0), .val (.ref x1), .val (.int x2), .val (.int u12)] [(.int (4 : Int32)), (.int x2), (.ref x1), (.ref x0), (.int u12)])) rfl (by rw [hml]; rfl) (argsL := [(.ref x0), (.ref x1), (.int x2), (.int (4 : Int32))]) (rest := [(.int u12)]) (lenOf pd_1 rfl) rfl (by show 2 * 0 + _ ≤ _; exact Nat.le_of_eq rfl) (hb hby d1_43) (fun _ _ => ⟨rfl, e11, (by decide : 0 + 0 ≤ _), (by decide : 0 + 0 ≤ _)⟩)
  dsimp only [Pt.U, Pt.locs, Pt.cells, Pt.slots] at X14 l14 y14 z14 st14 hQ14
  subst y14 z14
  obtain ⟨rfl, N14q, e14⟩ := hQ14
  have N14 := Fr.app N11 N14q
  rw [← l14] at N14
  clear l14
  refine own_step (st' := T14.setTop (mkF m 46 #[.val (.ref x0), .val (.ref x1), .val (.int x2), .val (.int u12)] [(.int o13), (.int u12)])) st14 ?_
  obtain ⟨_, _, ⟨T15, L15, k15, n15⟩, -, X15, ⟨Lc15, hQ15, l15, y15, z15⟩, st15⟩ := Jvm.LawKit.callS X14 hx (y := (⟨"java/lang/Math", "max", "(II)I"⟩ : MethodName)) hown (mvT hZ (hw _ (List.mem_of_getElem? (i := 9) rfl))) (mvT hZ (hw _ (List.mem_of_getElem? (i := 10) rfl))) (mvT hZ (hw _ (List.mem_of_getElem? (i := 11) rfl))) (mvT hZ (hw _ (List.mem_of_getElem? (i := 12) rfl))) (by decide) (backOf (W := 0) (rm3 l Z a0 hw [] u12 o13 h0 n0 Z0) hZ (hw _ (List.mem_of_getElem? (i := 12) rfl)) (hw _ (List.mem_of_getElem? (i := 11) rfl)) (by decide) (by decide)) (g := (mkF m 46 #[.val (.ref x0), .val (.ref x1), .val (.int x2), .val (.int u12)] [(.int o13), (.int u12)])) rfl (by rw [hml]; rfl) (argsL := [(.int u12), (.int o13)]) (rest := []) (lenOf pd_2 rfl) rfl (by show 2 * 0 + _ ≤ _; exact Nat.le_of_eq rfl) (hb hby d1_46) (fun _ _ => ⟨rfl, e14, (by decide : 0 + 0 ≤ _), (by decide : 0 + 0 ≤ _)⟩)
  dsimp only [Pt.U, Pt.locs, Pt.cells, Pt.slots] at X15 l15 y15 z15 st15 hQ15
  subst y15 z15
  obtain ⟨rfl, N15q, e15⟩ := hQ15
  have N15 := Fr.app N14 N15q
  rw [← l15] at N15
  clear l15
  refine own_step (st' := T15.setTop (mkF m 49 #[.val (.ref x0), .val (.ref x1), .val (.int x2), .val (.int u12)] [(.int (if u12 < o13 then o13 else u12))])) st15 ?_
  obtain ⟨u16, hu16, ru16⟩ := own_bind ro13
  clear ro13
  have gu16 : (if u12 < o13 then o13 else u12) = u16 := Option.some.inj hu16
  rw [gu16]
  refine own_step (st' := T15.setTop (mkF m 50 #[.val (.ref x0), .val (.ref x1), .val (.int x2), .val (.int u16)] [])) (fun t k => XS.istoreN X15.here hx rfl (hb hby d1_49) rfl (l' := #[.val (.ref x0), .val (.ref x1), .val (.int x2), .val (.int u16)]) rfl k) ?_
  refine own_step (st' := T15.setTop (mkF m 51 #[.val (.ref x0), .val (.ref x1), .val (.int x2), .val (.int u16)] [(.int u16)])) (fun t k => XS.iloadN X15.here hx rfl (hb hby d1_50) rfl k) ?_
  refine own_step (st' := T15.setTop (mkF m 52 #[.val (.ref x0), .val (.ref x1), .val (.int x2), .val (.int u16)] [(.ref x0), (.int u16)])) (fun t k => XS.aloadN X15.here hx rfl (hb hby d1_51) rfl rfl k) ?_
  refine own_step (st' := T15.setTop (mkF m 53 #[.val (.ref x0), .val (.ref x1), .val (.int x2), .val (.int u16)] [(.ref x1), (.ref x0), (.int u16)])) (fun t k => XS.aloadN X15.here hx rfl (hb hby d1_52) rfl rfl k) ?_
  refine own_step (st' := T15.setTop (mkF m 54 #[.val (.ref x0), .val (.ref x1), .val (.int x2), .val (.int u16)] [(.int x2), (.ref x1), (.ref x0), (.int u16)])) (fun t k => XS.iloadN X15.here hx rfl (hb hby d1_53) rfl k) ?_
  refine own_step (st' := T15.setTop (mkF m 55 #[.val (.ref x0), .val (.ref x1), .val (.int x2), .val (.int u16)] [(.int (5 : Int32)), (.int x2), (.ref x1), (.ref x0), (.int u16)])) (fun t k => XS.iconst X15.here hx rfl (hb hby d1_54) k) ?_
  obtain ⟨o17, ho17, ro17⟩ := own_bind ru16
  clear ru16
  obtain ⟨_, _, ⟨T18, L18, k18, n18⟩, -, X18, ⟨Lc18, hQ18, l18, y18, z18⟩, st18⟩ := Jvm.LawKit.callS X15 hx (y := (⟨"com/example/rumorwire/rumorwire/TreeSolverInformedInPinLaw", "term", "([I[III)I"⟩ : MethodName)) hown (mvT hZ (hw _ (List.mem_of_getElem? (i := 6) rfl))) (mvT hZ (hw _ (List.mem_of_getElem? (i := 7) rfl))) (mvT hZ (hw _ (List.mem_of_getElem? (i := 4) rfl))) (mvT hZ (hw _ (List.mem_of_getElem? (i := 8) rfl))) (by decide) (backOf (W := 1) (rm2 l Z a0 hw [] x0 x1 x2 (5 : Int32) k0 k1 P T o17 h0 n0 Z0 p_0 p_1 ho17) hZ (hw _ (List.mem_of_getElem? (i := 8) rfl)) (hw _ (List.mem_of_getElem? (i := 4) rfl)) (by decide) (by decide)) (g := (mkF m 55 #[.val (.ref x0), .val (.ref x1), .val (.int x2), .val (.int u16)] [(.int (5 : Int32)), (.int x2), (.ref x1), (.ref x0), (.int u16)])) rfl (by rw [hml]; rfl) (argsL := [(.ref x0), (.ref x1), (.int x2), (.int (5 : Int32))]) (rest := [(.int u16)]) (lenOf pd_1 rfl) rfl (by show 2 * 0 + _ ≤ _; exact Nat.le_of_eq rfl) (hb hby d1_55) (fun _ _ => ⟨rfl, e15, (by decide : 0 + 0 ≤ _), (by decide : 0 + 0 ≤ _)⟩)
  dsimp only [Pt.U, Pt.locs, Pt.cells, Pt.slots] at X18 l18 y18 z18 st18 hQ18
  subst y18 z18
  obtain ⟨rfl, N18q, e18⟩ := hQ18
  have N18 := Fr.app N15 N18q
  rw [← l18] at N18
  clear l18
  refine own_step (st' := T18.setTop (mkF m 58 #[.val (.ref x0), .val (.ref x1), .val (.int x2), .val (.int u16)] [(.int o17), (.int u16)])) st18 ?_
  obtain ⟨_, _, ⟨T19, L19, k19, n19⟩, -, X19, ⟨Lc19, hQ19, l19, y19, z19⟩, st19⟩ := Jvm.LawKit.callS X18 hx (y := (⟨"java/lang/Math", "max", "(II)I"⟩ : MethodName)) hown (mvT hZ (hw _ (List.mem_of_getElem? (i := 9) rfl))) (mvT hZ (hw _ (List.mem_of_getElem? (i := 10) rfl))) (mvT hZ (hw _ (List.mem_of_getElem? (i := 11) rfl))) (mvT hZ (hw _ (List.mem_of_getElem? (i := 12) rfl))) (by decide) (backOf (W := 0) (rm3 l Z a0 hw [] u16 o17 h0 n0 Z0) hZ (hw _ (List.mem_of_getElem? (i := 12) rfl)) (hw _ (List.mem_of_getElem? (i := 11) rfl)) (by decide) (by decide)) (g := (mkF m 58 #[.val (.ref x0), .val (.ref x1), .val (.int x2), .val (.int u16)] [(.int o17), (.int u16)])) rfl (by rw [hml]; rfl) (argsL := [(.int u16), (.int o17)]) (rest := []) (lenOf pd_2 rfl) rfl (by show 2 * 0 + _ ≤ _; exact Nat.le_of_eq rfl) (hb hby d1_58) (fun _ _ => ⟨rfl, e18, (by decide : 0 + 0 ≤ _), (by decide : 0 + 0 ≤ _)⟩)
  dsimp only [Pt.U, Pt.locs, Pt.cells, Pt.slots] at X19 l19 y19 z19 st19 hQ19
  subst y19 z19
  obtain ⟨rfl, N19q, e19⟩ := hQ19
  have N19 := Fr.app N18 N19q
  rw [← l19] at N19
  clear l19
  refine own_step (st' := T19.setTop (mkF m 61 #[.val (.ref x0), .val (.ref x1), .val (.int x2), .val (.int u16)] [(.int (if u16 < o17 then o17 else u16))])) st19 ?_
  obtain ⟨u20, hu20, ru20⟩ := own_bind ro17
  clear ro17
  have gu20 : (if u16 < o17 then o17 else u16) = u20 := Option.some.inj hu20
  rw [gu20]
  refine own_step (st' := T19.setTop (mkF m 62 #[.val (.ref x0), .val (.ref x1), .val (.int x2), .val (.int u20)] [])) (fun t k => XS.istoreN X19.here hx rfl (hb hby d1_61) rfl (l' := #[.val (.ref x0), .val (.ref x1), .val (.int x2), .val (.int u20)]) rfl k) ?_
  refine own_step (st' := T19.setTop (mkF m 63 #[.val (.ref x0), .val (.ref x1), .val (.int x2), .val (.int u20)] [(.int u20)])) (fun t k => XS.iloadN X19.here hx rfl (hb hby d1_62) rfl k) ?_
  refine own_ret X19 Bd.notSynchronized (some (.int u20)) (fun h => by rw [Bd.returns] at h; cases h) (fun fs hr => own_retI X19 hx Bd.returns (hb hby d1_63) hr) ?_ (by decide) (by decide)
  rw [e19]
  have hq : some (u20) = some (r) := ru20
  cases hq
  exact ⟨rfl, N19, rfl⟩
def m_child (P : List Int32) (T : List Int32) (R : List Int32) (x3 : Int32) : Option (Int32) := (own_get (6 : Int32) P x3).bind fun z1 => if z1 < (0 : Int32) then ((own_get (6 : Int32) R x3).bind fun z4 => if z4 = (0 : Int32) then (some ((1 : Int32))) else (some ((0 : Int32)))) else ((own_get (6 : Int32) P x3).bind fun z9 => (own_get (6 : Int32) R x3).bind fun z10 => (own_get (6 : Int32) R z9).bind fun z11 => (own_get (6 : Int32) T x3).bind fun z12 => (m_cnt P T z9 z12 (1 : Int32)).bind fun o13 => (own_get (6 : Int32) T x3).bind fun z15 => (m_cnt P T z9 z15 (0 : Int32)).bind fun o16 => if (z10 - z11) < (o13 + (1 : Int32)) then (some ((0 : Int32))) else (if o16 < (z10 - z11) then (some ((0 : Int32))) else (some ((1 : Int32)))))
theorem d12_0 : decode method_7_code 0 = .ok (.aload_n 0, 1) := by decide +kernel
theorem d12_1 : decode method_7_code 1 = .ok (.iload_n 3, 1) := by decide +kernel
theorem d12_2 : decode method_7_code 2 = .ok (.iaload, 1) := by decide +kernel
theorem d12_3 : decode method_7_code 3 = .ok (.ifCond .ge 15, 3) := by decide +kernel
theorem d12_6 : decode method_7_code 6 = .ok (.aload_n 2, 1) := by decide +kernel
theorem d12_7 : decode method_7_code 7 = .ok (.iload_n 3, 1) := by decide +kernel
theorem d12_8 : decode method_7_code 8 = .ok (.iaload, 1) := by decide +kernel
theorem d12_9 : decode method_7_code 9 = .ok (.ifCond .ne 7, 3) := by decide +kernel
theorem d12_12 : decode method_7_code 12 = .ok (.iconst 1, 1) := by decide +kernel
theorem d12_13 : decode method_7_code 13 = .ok (.goto 4, 3) := by decide +kernel
theorem d12_16 : decode method_7_code 16 = .ok (.iconst 0, 1) := by decide +kernel
theorem d12_17 : decode method_7_code 17 = .ok (.ireturn, 1) := by decide +kernel
theorem d12_18 : decode method_7_code 18 = .ok (.aload_n 0, 1) := by decide +kernel
theorem d12_19 : decode method_7_code 19 = .ok (.iload_n 3, 1) := by decide +kernel
theorem d12_20 : decode method_7_code 20 = .ok (.iaload, 1) := by decide +kernel
theorem d12_21 : decode method_7_code 21 = .ok (.istore 4, 2) := by decide +kernel
theorem d12_23 : decode method_7_code 23 = .ok (.aload_n 2, 1) := by decide +kernel
theorem d12_24 : decode method_7_code 24 = .ok (.iload_n 3, 1) := by decide +kernel
theorem d12_25 : decode method_7_code 25 = .ok (.iaload, 1) := by decide +kernel
theorem d12_26 : decode method_7_code 26 = .ok (.aload_n 2, 1) := by decide +kernel
theorem d12_27 : decode method_7_code 27 = .ok (.iload 4, 2) := by decide +kernel
theorem d12_29 : decode method_7_code 29 = .ok (.iaload, 1) := by decide +kernel
theorem d12_30 : decode method_7_code 30 = .ok (.isub, 1) := by decide +kernel
theorem d12_31 : decode method_7_code 31 = .ok (.istore 5, 2) := by decide +kernel
theorem d12_33 : decode method_7_code 33 = .ok (.aload_n 0, 1) := by decide +kernel
theorem d12_34 : decode method_7_code 34 = .ok (.aload_n 1, 1) := by decide +kernel
theorem d12_35 : decode method_7_code 35 = .ok (.iload 4, 2) := by decide +kernel
theorem d12_37 : decode method_7_code 37 = .ok (.aload_n 1, 1) := by decide +kernel
theorem d12_38 : decode method_7_code 38 = .ok (.iload_n 3, 1) := by decide +kernel
theorem d12_39 : decode method_7_code 39 = .ok (.iaload, 1) := by decide +kernel
theorem d12_40 : decode method_7_code 40 = .ok (.iconst 1, 1) := by decide +kernel
theorem d12_41 : decode method_7_code 41 = .ok (.invokestatic 35, 3) := by decide +kernel
theorem d12_44 : decode method_7_code 44 = .ok (.istore 6, 2) := by decide +kernel
theorem d12_46 : decode method_7_code 46 = .ok (.aload_n 0, 1) := by decide +kernel
theorem d12_47 : decode method_7_code 47 = .ok (.aload_n 1, 1) := by decide +kernel
theorem d12_48 : decode method_7_code 48 = .ok (.iload 4, 2) := by decide +kernel
theorem d12_50 : decode method_7_code 50 = .ok (.aload_n 1, 1) := by decide +kernel
theorem d12_51 : decode method_7_code 51 = .ok (.iload_n 3, 1) := by decide +kernel
theorem d12_52 : decode method_7_code 52 = .ok (.iaload, 1) := by decide +kernel
theorem d12_53 : decode method_7_code 53 = .ok (.iconst 0, 1) := by decide +kernel
theorem d12_54 : decode method_7_code 54 = .ok (.invokestatic 35, 3) := by decide +kernel
theorem d12_57 : decode method_7_code 57 = .ok (.istore 7, 2) := by decide +kernel
theorem d12_59 : decode method_7_code 59 = .ok (.iload 5, 2) := by decide +kernel
theorem d12_61 : decode method_7_code 61 = .ok (.iload 6, 2) := by decide +kernel
theorem d12_63 : decode method_7_code 63 = .ok (.iconst 1, 1) := by decide +kernel
theorem d12_64 : decode method_7_code 64 = .ok (.iadd, 1) := by decide +kernel
theorem d12_65 : decode method_7_code 65 = .ok (.if_icmp .lt 14, 3) := by decide +kernel
theorem d12_68 : decode method_7_code 68 = .ok (.iload 5, 2) := by decide +kernel
theorem d12_70 : decode method_7_code 70 = .ok (.iload 7, 2) := by decide +kernel
theorem d12_72 : decode method_7_code 72 = .ok (.if_icmp .gt 7, 3) := by decide +kernel
theorem d12_75 : decode method_7_code 75 = .ok (.iconst 1, 1) := by decide +kernel
theorem d12_76 : decode method_7_code 76 = .ok (.goto 4, 3) := by decide +kernel
theorem d12_79 : decode method_7_code 79 = .ok (.iconst 0, 1) := by decide +kernel
theorem d12_80 : decode method_7_code 80 = .ok (.ireturn, 1) := by decide +kernel
theorem ef_12_RRRI (m : MethodId) (x0 : Addr) (x1 : Addr) (x2 : Addr) (x3 : Int32) : entryFrame m #[(.ref x0), (.ref x1), (.ref x2), (.int x3)] 8 = mkF m 0 #[.val (.ref x0), .val (.ref x1), .val (.ref x2), .val (.int x3), .unset, .unset, .unset, .unset] [] := by first | (simp [entryFrame, mkF, argsToLocals, Value.category]; done) | rfl
def Q_rm12 (Z : State) (x0 : Addr) (x1 : Addr) (x2 : Addr) (x3 : Int32) (k0 : ClassId) (k1 : ClassId) (k2 : ClassId) (P : List Int32) (T : List Int32) (R : List Int32) (r : Int32) (h0 : Heap) (n0 : Nat) (v : Option Value) (h : Heap) (L : List Loc) : Prop := v = some (.int r) ∧ Fr n0 L ∧ h = h0
set_option maxRecDepth 65536 in
set_option maxHeartbeats 40000000 in
theorem rm12 (l : Launch) (Z : State) (a0 : Array Value) (hw : ∀ d ∈ tables_1, d.before a0 Z = true) (ws : List Jvm.Cond) (x0 : Addr) (x1 : Addr) (x2 : Addr) (x3 : Int32) (k0 : ClassId) (k1 : ClassId) (k2 : ClassId) (P : List Int32) (T : List Int32) (R : List Int32) (r : Int32) (h0 : Heap) (n0 : Nat) (Z0 : n0 ≤ h0.size) (p_0 : Arv Z h0 x0 k0 .int (6 : Int32) (P.map Value.int) (.int (0 : Int32))) (p_1 : Arv Z h0 x1 k1 .int (6 : Int32) (T.map Value.int) (.int (0 : Int32))) (p_2 : Arv Z h0 x2 k2 .int (6 : Int32) (R.map Value.int) (.int (0 : Int32))) (p_3 : m_child P T R x3 = some (r)) :
    MetFree l (⟨"com/example/rumorwire/rumorwire/TreeSolverInformedInPinLaw", "child", "([I[I[II)Z"⟩ : MethodName) (head1 (Jvm.Cond.code (⟨"com/example/rumorwire/rumorwire/TreeSolverInformedInPinLaw", "child", "([I[I[II)Z"⟩ : MethodName) method_7_code 8 (some .boolean) :: ws) ({ frames := 2, cells := 0, slots := 0, locals := 34 } : Room)) (fun a U => a = #[(.ref x0), (.ref x1), (.ref x2), (.int x3)] ∧ Z.Warmed39 U.vm ∧ U.heap = h0) (fun _ _ _ _ _ => True) (fun _ U o U' => ∃ v L, o = .returned v ∧ Q_rm12 Z x0 x1 x2 x3 k0 k1 k2 P T R r h0 n0 v U'.heap L ∧ FrameEnd U o U' L ({ frames := 2, cells := 0, slots := 0, locals := 34 } : Room).cells ({ frames := 2, cells := 0, slots := 0, locals := 34 } : Room).slots) := by
  refine MetFree.of_bodySF (plainFor_of_name pn_1) hisR ?_
  intro p e s m args below meth c s₁ Bd hml0 hP hK
  obtain ⟨rfl, hZ, hh⟩ := hP
  have hx := Bd.exec
  have hby := Bd.bytes
  have hml : c.maxLocals = 8 := hml0
  have hown : s.vm.findClass "com/example/rumorwire/rumorwire/TreeSolverInformedInPinLaw" = some m.cls := findClass_of_methodNamed Bd.named
  have hnm := (name_of_methodNamed Bd.named Bd.method).1
  have X0 : Stand p l e ({ frames := 2, cells := 0, slots := 0, locals := 34 } : Room) s m #[(.ref x0), (.ref x1), (.ref x2), (.int x3)] below meth c s₁ [] 0 0 := Stand.of_body Bd
  have e0 : s₁.heap = h0 := by rw [← hh, Bd.state]; rfl
  have N0 := Fr.nil n0
  show own_Ends p e below s ({ frames := 2, cells := 0, slots := 0, locals := 34 } : Room).cells ({ frames := 2, cells := 0, slots := 0, locals := 34 } : Room).slots (Q_rm12 Z x0 x1 x2 x3 k0 k1 k2 P T R r h0 n0) (s₁.setTop (entryFrame m #[(.ref x0), (.ref x1), (.ref x2), (.int x3)] 8))
  rw [ef_12_RRRI]
  refine own_step (st' := s₁.setTop (mkF m 1 #[.val (.ref x0), .val (.ref x1), .val (.ref x2), .val (.int x3), .unset, .unset, .unset, .unset] [(.ref x0)])) (fun t k => XS.aloadN X0.here hx rfl (hb hby d12_0) rfl rfl k) ?_
  refine own_step (st' := s₁.setTop (mkF m 2 #[.val (.ref x0), .val (.ref x1), .val (.ref x2), .val (.int x3), .unset, .unset, .unset, .unset] [(.int x3), (.ref x0)])) (fun t k => XS.iloadN X0.here hx rfl (hb hby d12_1) rfl k) ?_
  obtain ⟨z1, hz1, rz1⟩ := own_bind p_3
  clear p_3
  refine own_step (st' := s₁.setTop (mkF m 3 #[.val (.ref x0), .val (.ref x1), .val (.ref x2), .val (.int x3), .unset, .unset, .unset, .unset] [(.int z1)])) (fun t k => own_ldI X0 hx hZ e0 p_0 (j := x3) (v := (.int z1)) (own_gd hz1).1 (own_gd hz1).2 (g := (mkF m 2 #[.val (.ref x0), .val (.ref x1), .val (.ref x2), .val (.int x3), .unset, .unset, .unset, .unset] [(.int x3), (.ref x0)])) rfl rfl (hb hby d12_2) t k) ?_
  by_cases hc2 : z1 < (0 : Int32)
  · have r3 := own_if1 hc2 rz1
    clear rz1
    refine own_step (st' := s₁.setTop (mkF m 6 #[.val (.ref x0), .val (.ref x1), .val (.ref x2), .val (.int x3), .unset, .unset, .unset, .unset] [])) (fun t k => XS.ifNo X0.here hx rfl (hb hby d12_3) rfl ((if0 _ _).trans (tlt hc2).2.1) k) ?_
    refine own_step (st' := s₁.setTop (mkF m 7 #[.val (.ref x0), .val (.ref x1), .val (.ref x2), .val (.int x3), .unset, .unset, .unset, .unset] [(.ref x2)])) (fun t k => XS.aloadN X0.here hx rfl (hb hby d12_6) rfl rfl k) ?_
    refine own_step (st' := s₁.setTop (mkF m 8 #[.val (.ref x0), .val (.ref x1), .val (.ref x2), .val (.int x3), .unset, .unset, .unset, .unset] [(.int x3), (.ref x2)])) (fun t k => XS.iloadN X0.here hx rfl (hb hby d12_7) rfl k) ?_
    obtain ⟨z4, hz4, rz4⟩ := own_bind r3
    clear r3
    refine own_step (st' := s₁.setTop (mkF m 9 #[.val (.ref x0), .val (.ref x1), .val (.ref x2), .val (.int x3), .unset, .unset, .unset, .unset] [(.int z4)])) (fun t k => own_ldI X0 hx hZ e0 p_2 (j := x3) (v := (.int z4)) (own_gd hz4).1 (own_gd hz4).2 (g := (mkF m 8 #[.val (.ref x0), .val (.ref x1), .val (.ref x2), .val (.int x3), .unset, .unset, .unset, .unset] [(.int x3), (.ref x2)])) rfl rfl (hb hby d12_8) t k) ?_
    by_cases hc5 : z4 = (0 : Int32)
    · have r6 := own_if1 hc5 rz4
      clear rz4
      refine own_step (st' := s₁.setTop (mkF m 12 #[.val (.ref x0), .val (.ref x1), .val (.ref x2), .val (.int x3), .unset, .unset, .unset, .unset] [])) (fun t k => XS.ifNo X0.here hx rfl (hb hby d12_9) rfl ((if0 _ _).trans (teq hc5).2) k) ?_
      refine own_step (st' := s₁.setTop (mkF m 13 #[.val (.ref x0), .val (.ref x1), .val (.ref x2), .val (.int x3), .unset, .unset, .unset, .unset] [(.int (1 : Int32))])) (fun t k => XS.iconst X0.here hx rfl (hb hby d12_12) k) ?_
      refine own_step (st' := s₁.setTop (mkF m 17 #[.val (.ref x0), .val (.ref x1), .val (.ref x2), .val (.int x3), .unset, .unset, .unset, .unset] [(.int (1 : Int32))])) (fun t k => XS.goto X0.here hx rfl (pc0 := 13) (pc' := 17) rfl (hb hby d12_13) (by decide) (by decide) k) ?_
      refine own_ret X0 Bd.notSynchronized (some (.int (1 : Int32))) (fun h => by rw [Bd.returns] at h; cases h) (fun fs hr => retN X0 hx (t := .boolean) Bd.returns (by simp) (hb hby d12_17) hr) ?_ (by decide) (by decide)
      rw [e0]
      have hq : some ((1 : Int32)) = some (r) := r6
      cases hq
      exact ⟨(by first | rfl | (simp only [if_pos hc2, if_pos hc5]; done) | (simp only [if_pos hc2, if_pos hc5]; rfl)), N0, rfl⟩
    · have r7 := own_if0 hc5 rz4
      clear rz4
      refine own_step (st' := s₁.setTop (mkF m 16 #[.val (.ref x0), .val (.ref x1), .val (.ref x2), .val (.int x3), .unset, .unset, .unset, .unset] [])) (fun t k => XS.ifYes X0.here hx rfl (pc0 := 9) (pc' := 16) rfl (hb hby d12_9) rfl ((if0 _ _).trans (feq hc5).2) (by decide) (by decide) k) ?_
      refine own_step (st' := s₁.setTop (mkF m 17 #[.val (.ref x0), .val (.ref x1), .val (.ref x2), .val (.int x3), .unset, .unset, .unset, .unset] [(.int (0 : Int32))])) (fun t k => XS.iconst X0.here hx rfl (hb hby d12_16) k) ?_
      refine own_ret X0 Bd.notSynchronized (some (.int (0 : Int32))) (fun h => by rw [Bd.returns] at h; cases h) (fun fs hr => retN X0 hx (t := .boolean) Bd.returns (by simp) (hb hby d12_17) hr) ?_ (by decide) (by decide)
      rw [e0]
      have hq : some ((0 : Int32)) = some (r) := r7
      cases hq
      exact ⟨(by first | rfl | (simp only [if_pos hc2, if_neg hc5]; done) | (simp only [if_pos hc2, if_neg hc5]; rfl)), N0, rfl⟩
  · have r8 := own_if0 hc2 rz1
    clear rz1
    refine own_step (st' := s₁.setTop (mkF m 18 #[.val (.ref x0), .val (.ref x1), .val (.ref x2), .val (.int x3), .unset, .unset, .unset, .unset] [])) (fun t k => XS.ifYes X0.here hx rfl (pc0 := 3) (pc' := 18) rfl (hb hby d12_3) rfl ((if0 _ _).trans (flt hc2).2.1) (by decide) (by decide) k) ?_
    refine own_step (st' := s₁.setTop (mkF m 19 #[.val (.ref x0), .val (.ref x1), .val (.ref x2), .val (.int x3), .unset, .unset, .unset, .unset] [(.ref x0)])) (fun t k => XS.aloadN X0.here hx rfl (hb hby d12_18) rfl rfl k) ?_
    refine own_step (st' := s₁.setTop (mkF m 20 #[.val (.ref x0), .val (.ref x1), .val (.ref x2), .val (.int x3), .unset, .unset, .unset, .unset] [(.int x3), (.ref x0)])) (fun t k => XS.iloadN X0.here hx rfl (hb hby d12_19) rfl k) ?_
    obtain ⟨z9, hz9, rz9⟩ := own_bind r8
    clear r8
    refine own_step (st' := s₁.setTop (mkF m 21 #[.val (.ref x0), .val (.ref x1), .val (.ref x2), .val (.int x3), .unset, .unset, .unset, .unset] [(.int z9)])) (fun t k => own_ldI X0 hx hZ e0 p_0 (j := x3) (v := (.int z9)) (own_gd hz9).1 (own_gd hz9).2 (g := (mkF m 20 #[.val (.ref x0), .val (.ref x1), .val (.ref x2), .val (.int x3), .unset, .unset, .unset, .unset] [(.int x3), (.ref x0)])) rfl rfl (hb hby d12_20) t k) ?_
    refine own_step (st' := s₁.setTop (mkF m 23 #[.val (.ref x0), .val (.ref x1), .val (.ref x2), .val (.int x3), .val (.int z9), .unset, .unset, .unset] [])) (fun t k => XS.istore X0.here hx rfl (hb hby d12_21) rfl (l' := #[.val (.ref x0), .val (.ref x1), .val (.ref x2), .val (.int x3), .val (.int z9), .unset, .unset, .unset]) rfl k) ?_
    refine own_step (st' := s₁.setTop (mkF m 24 #[.val (.ref x0), .val (.ref x1), .val (.ref x2), .val (.int x3), .val (.int z9), .unset, .unset, .unset] [(.ref x2)])) (fun t k => XS.aloadN X0.here hx rfl (hb hby d12_23) rfl rfl k) ?_
    refine own_step (st' := s₁.setTop (mkF m 25 #[.val (.ref x0), .val (.ref x1), .val (.ref x2), .val (.int x3), .val (.int z9), .unset, .unset, .unset] [(.int x3), (.ref x2)])) (fun t k => XS.iloadN X0.here hx rfl (hb hby d12_24) rfl k) ?_
    obtain ⟨z10, hz10, rz10⟩ := own_bind rz9
    clear rz9
    refine own_step (st' := s₁.setTop (mkF m 26 #[.val (.ref x0), .val (.ref x1), .val (.ref x2), .val (.int x3), .val (.int z9), .unset, .unset, .unset] [(.int z10)])) (fun t k => own_ldI X0 hx hZ e0 p_2 (j := x3) (v := (.int z10)) (own_gd hz10).1 (own_gd hz10).2 (g := (mkF m 25 #[.val (.ref x0), .val (.ref x1), .val (.ref x2), .val (.int x3), .val (.int z9), .unset, .unset, .unset] [(.int x3), (.ref x2)])) rfl rfl (hb hby d12_25) t k) ?_
    refine own_step (st' := s₁.setTop (mkF m 27 #[.val (.ref x0), .val (.ref x1), .val (.ref x2), .val (.int x3), .val (.int z9), .unset, .unset, .unset] [(.ref x2), (.int z10)])) (fun t k => XS.aloadN X0.here hx rfl (hb hby d12_26) rfl rfl k) ?_
    refine own_step (st' := s₁.setTop (mkF m 29 #[.val (.ref x0), .val (.ref x1), .val (.ref x2), .val (.int x3), .val (.int z9), .unset, .unset, .unset] [(.int z9), (.ref x2), (.int z10)])) (fun t k => XS.iload X0.here hx rfl (hb hby d12_27) rfl k) ?_
    obtain ⟨z11, hz11, rz11⟩ := own_bind rz10
    clear rz10
    refine own_step (st' := s₁.setTop (mkF m 30 #[.val (.ref x0), .val (.ref x1), .val (.ref x2), .val (.int x3), .val (.int z9), .unset, .unset, .unset] [(.int z11), (.int z10)])) (fun t k => own_ldI X0 hx hZ e0 p_2 (j := z9) (v := (.int z11)) (own_gd hz11).1 (own_gd hz11).2 (g := (mkF m 29 #[.val (.ref x0), .val (.ref x1), .val (.ref x2), .val (.int x3), .val (.int z9), .unset, .unset, .unset] [(.int z9), (.ref x2), (.int z10)])) rfl rfl (hb hby d12_29) t k) ?_
    refine own_step (st' := s₁.setTop (mkF m 31 #[.val (.ref x0), .val (.ref x1), .val (.ref x2), .val (.int x3), .val (.int z9), .unset, .unset, .unset] [(.int (z10 - z11))])) (fun t k => XS.isub X0.here hx rfl (hb hby d12_30) rfl k) ?_
    refine own_step (st' := s₁.setTop (mkF m 33 #[.val (.ref x0), .val (.ref x1), .val (.ref x2), .val (.int x3), .val (.int z9), .val (.int (z10 - z11)), .unset, .unset] [])) (fun t k => XS.istore X0.here hx rfl (hb hby d12_31) rfl (l' := #[.val (.ref x0), .val (.ref x1), .val (.ref x2), .val (.int x3), .val (.int z9), .val (.int (z10 - z11)), .unset, .unset]) rfl k) ?_
    refine own_step (st' := s₁.setTop (mkF m 34 #[.val (.ref x0), .val (.ref x1), .val (.ref x2), .val (.int x3), .val (.int z9), .val (.int (z10 - z11)), .unset, .unset] [(.ref x0)])) (fun t k => XS.aloadN X0.here hx rfl (hb hby d12_33) rfl rfl k) ?_
    refine own_step (st' := s₁.setTop (mkF m 35 #[.val (.ref x0), .val (.ref x1), .val (.ref x2), .val (.int x3), .val (.int z9), .val (.int (z10 - z11)), .unset, .unset] [(.ref x1), (.ref x0)])) (fun t k => XS.aloadN X0.here hx rfl (hb hby d12_34) rfl rfl k) ?_
    refine own_step (st' := s₁.setTop (mkF m 37 #[.val (.ref x0), .val (.ref x1), .val (.ref x2), .val (.int x3), .val (.int z9), .val (.int (z10 - z11)), .unset, .unset] [(.int z9), (.ref x1), (.ref x0)])) (fun t k => XS.iload X0.here hx rfl (hb hby d12_35) rfl k) ?_
    refine own_step (st' := s₁.setTop (mkF m 38 #[.val (.ref x0), .val (.ref x1), .val (.ref x2), .val (.int x3), .val (.int z9), .val (.int (z10 - z11)), .unset, .unset] [(.ref x1), (.int z9), (.ref x1), (.ref x0)])) (fun t k => XS.aloadN X0.here hx rfl (hb hby d12_37) rfl rfl k) ?_
    refine own_step (st' := s₁.setTop (mkF m 39 #[.val (.ref x0), .val (.ref x1), .val (.ref x2), .val (.int x3), .val (.int z9), .val (.int (z10 - z11)), .unset, .unset] [(.int x3), (.ref x1), (.int z9), (.ref x1), (.ref x0)])) (fun t k => XS.iloadN X0.here hx rfl (hb hby d12_38) rfl k) ?_
    obtain ⟨z12, hz12, rz12⟩ := own_bind rz11
    clear rz11
    refine own_step (st' := s₁.setTop (mkF m 40 #[.val (.ref x0), .val (.ref x1), .val (.ref x2), .val (.int x3), .val (.int z9), .val (.int (z10 - z11)), .unset, .unset] [(.int z12), (.int z9), (.ref x1), (.ref x0)])) (fun t k => own_ldI X0 hx hZ e0 p_1 (j := x3) (v := (.int z12)) (own_gd hz12).1 (own_gd hz12).2 (g := (mkF m 39 #[.val (.ref x0), .val (.ref x1), .val (.ref x2), .val (.int x3), .val (.int z9), .val (.int (z10 - z11)), .unset, .unset] [(.int x3), (.ref x1), (.int z9), (.ref x1), (.ref x0)])) rfl rfl (hb hby d12_39) t k) ?_
    refine own_step (st' := s₁.setTop (mkF m 41 #[.val (.ref x0), .val (.ref x1), .val (.ref x2), .val (.int x3), .val (.int z9), .val (.int (z10 - z11)), .unset, .unset] [(.int (1 : Int32)), (.int z12), (.int z9), (.ref x1), (.ref x0)])) (fun t k => XS.iconst X0.here hx rfl (hb hby d12_40) k) ?_
    obtain ⟨o13, ho13, ro13⟩ := own_bind rz12
    clear rz12
    obtain ⟨_, _, ⟨T14, L14, k14, n14⟩, -, X14, ⟨Lc14, hQ14, l14, y14, z14⟩, st14⟩ := Jvm.LawKit.callS X0 hx (y := (⟨"com/example/rumorwire/rumorwire/TreeSolverInformedInPinLaw", "cnt", "([I[IIIZ)I"⟩ : MethodName)) hown (mvT hZ (hw _ (List.mem_of_getElem? (i := 13) rfl))) (mvT hZ (hw _ (List.mem_of_getElem? (i := 14) rfl))) (mvT hZ (hw _ (List.mem_of_getElem? (i := 4) rfl))) (mvT hZ (hw _ (List.mem_of_getElem? (i := 15) rfl))) (by decide) (backOf (W := 0) (rm4 l Z a0 hw [] x0 x1 z9 z12 (1 : Int32) k0 k1 P T o13 h0 n0 Z0 p_0 p_1 ho13) hZ (hw _ (List.mem_of_getElem? (i := 15) rfl)) (hw _ (List.mem_of_getElem? (i := 4) rfl)) (by decide) (by decide)) (g := (mkF m 41 #[.val (.ref x0), .val (.ref x1), .val (.ref x2), .val (.int x3), .val (.int z9), .val (.int (z10 - z11)), .unset, .unset] [(.int (1 : Int32)), (.int z12), (.int z9), (.ref x1), (.ref x0)])) rfl (by rw [hml]; rfl) (argsL := [(.ref x0), (.ref x1), (.int z9), (.int z12), (.int (1 : Int32))]) (rest := []) (lenOf pd_3 rfl) rfl (by show 2 * 0 + _ ≤ _; exact Nat.le_of_eq rfl) (hb hby d12_41) (fun _ _ => ⟨rfl, e0, (by decide : 0 + 0 ≤ _), (by decide : 0 + 0 ≤ _)⟩)
    dsimp only [Pt.U, Pt.locs, Pt.cells, Pt.slots] at X14 l14 y14 z14 st14 hQ14
    subst y14 z14
    obtain ⟨rfl, N14q, e14⟩ := hQ14
    have N14 := Fr.app N0 N14q
    rw [← l14] at N14
    clear l14
    refine own_step (st' := T14.setTop (mkF m 44 #[.val (.ref x0), .val (.ref x1), .val (.ref x2), .val (.int x3), .val (.int z9), .val (.int (z10 - z11)), .unset, .unset] [(.int o13)])) st14 ?_
    refine own_step (st' := T14.setTop (mkF m 46 #[.val (.ref x0), .val (.ref x1), .val (.ref x2), .val (.int x3), .val (.int z9), .val (.int (z10 - z11)), .val (.int o13), .unset] [])) (fun t k => XS.istore X14.here hx rfl (hb hby d12_44) rfl (l' := #[.val (.ref x0), .val (.ref x1), .val (.ref x2), .val (.int x3), .val (.int z9), .val (.int (z10 - z11)), .val (.int o13), .unset]) rfl k) ?_
    refine own_step (st' := T14.setTop (mkF m 47 #[.val (.ref x0), .val (.ref x1), .val (.ref x2), .val (.int x3), .val (.int z9), .val (.int (z10 - z11)), .val (.int o13), .unset] [(.ref x0)])) (fun t k => XS.aloadN X14.here hx rfl (hb hby d12_46) rfl rfl k) ?_
    refine own_step (st' := T14.setTop (mkF m 48 #[.val (.ref x0), .val (.ref x1), .val (.ref x2), .val (.int x3), .val (.int z9), .val (.int (z10 - z11)), .val (.int o13), .unset] [(.ref x1), (.ref x0)])) (fun t k => XS.aloadN X14.here hx rfl (hb hby d12_47) rfl rfl k) ?_
    refine own_step (st' := T14.setTop (mkF m 50 #[.val (.ref x0), .val (.ref x1), .val (.ref x2), .val (.int x3), .val (.int z9), .val (.int (z10 - z11)), .val (.int o13), .unset] [(.int z9), (.ref x1), (.ref x0)])) (fun t k => XS.iload X14.here hx rfl (hb hby d12_48) rfl k) ?_
    refine own_step (st' := T14.setTop (mkF m 51 #[.val (.ref x0), .val (.ref x1), .val (.ref x2), .val (.int x3), .val (.int z9), .val (.int (z10 - z11)), .val (.int o13), .unset] [(.ref x1), (.int z9), (.ref x1), (.ref x0)])) (fun t k => XS.aloadN X14.here hx rfl (hb hby d12_50) rfl rfl k) ?_
    refine own_step (st' := T14.setTop (mkF m 52 #[.val (.ref x0), .val (.ref x1), .val (.ref x2), .val (.int x3), .val (.int z9), .val (.int (z10 - z11)), .val (.int o13), .unset] [(.int x3), (.ref x1), (.int z9), (.ref x1), (.ref x0)])) (fun t k => XS.iloadN X14.here hx rfl (hb hby d12_51) rfl k) ?_
    obtain ⟨z15, hz15, rz15⟩ := own_bind ro13
    clear ro13
    refine own_step (st' := T14.setTop (mkF m 53 #[.val (.ref x0), .val (.ref x1), .val (.ref x2), .val (.int x3), .val (.int z9), .val (.int (z10 - z11)), .val (.int o13), .unset] [(.int z15), (.int z9), (.ref x1), (.ref x0)])) (fun t k => own_ldI X14 hx hZ e14 p_1 (j := x3) (v := (.int z15)) (own_gd hz15).1 (own_gd hz15).2 (g := (mkF m 52 #[.val (.ref x0), .val (.ref x1), .val (.ref x2), .val (.int x3), .val (.int z9), .val (.int (z10 - z11)), .val (.int o13), .unset] [(.int x3), (.ref x1), (.int z9), (.ref x1), (.ref x0)])) rfl rfl (hb hby d12_52) t k) ?_
    refine own_step (st' := T14.setTop (mkF m 54 #[.val (.ref x0), .val (.ref x1), .val (.ref x2), .val (.int x3), .val (.int z9), .val (.int (z10 - z11)), .val (.int o13), .unset] [(.int (0 : Int32)), (.int z15), (.int z9), (.ref x1), (.ref x0)])) (fun t k => XS.iconst X14.here hx rfl (hb hby d12_53) k) ?_
    obtain ⟨o16, ho16, ro16⟩ := own_bind rz15
    clear rz15
    obtain ⟨_, _, ⟨T17, L17, k17, n17⟩, -, X17, ⟨Lc17, hQ17, l17, y17, z17⟩, st17⟩ := Jvm.LawKit.callS X14 hx (y := (⟨"com/example/rumorwire/rumorwire/TreeSolverInformedInPinLaw", "cnt", "([I[IIIZ)I"⟩ : MethodName)) hown (mvT hZ (hw _ (List.mem_of_getElem? (i := 13) rfl))) (mvT hZ (hw _ (List.mem_of_getElem? (i := 14) rfl))) (mvT hZ (hw _ (List.mem_of_getElem? (i := 4) rfl))) (mvT hZ (hw _ (List.mem_of_getElem? (i := 15) rfl))) (by decide) (backOf (W := 0) (rm4 l Z a0 hw [] x0 x1 z9 z15 (0 : Int32) k0 k1 P T o16 h0 n0 Z0 p_0 p_1 ho16) hZ (hw _ (List.mem_of_getElem? (i := 15) rfl)) (hw _ (List.mem_of_getElem? (i := 4) rfl)) (by decide) (by decide)) (g := (mkF m 54 #[.val (.ref x0), .val (.ref x1), .val (.ref x2), .val (.int x3), .val (.int z9), .val (.int (z10 - z11)), .val (.int o13), .unset] [(.int (0 : Int32)), (.int z15), (.int z9), (.ref x1), (.ref x0)])) rfl (by rw [hml]; rfl) (argsL := [(.ref x0), (.ref x1), (.int z9), (.int z15), (.int (0 : Int32))]) (rest := []) (lenOf pd_3 rfl) rfl (by show 2 * 0 + _ ≤ _; exact Nat.le_of_eq rfl) (hb hby d12_54) (fun _ _ => ⟨rfl, e14, (by decide : 0 + 0 ≤ _), (by decide : 0 + 0 ≤ _)⟩)
    dsimp only [Pt.U, Pt.locs, Pt.cells, Pt.slots] at X17 l17 y17 z17 st17 hQ17
    subst y17 z17
    obtain ⟨rfl, N17q, e17⟩ := hQ17
    have N17 := Fr.app N14 N17q
    rw [← l17] at N17
    clear l17
    refine own_step (st' := T17.setTop (mkF m 57 #[.val (.ref x0), .val (.ref x1), .val (.ref x2), .val (.int x3), .val (.int z9), .val (.int (z10 - z11)), .val (.int o13), .unset] [(.int o16)])) st17 ?_
    refine own_step (st' := T17.setTop (mkF m 59 #[.val (.ref x0), .val (.ref x1), .val (.ref x2), .val (.int x3), .val (.int z9), .val (.int (z10 - z11)), .val (.int o13), .val (.int o16)] [])) (fun t k => XS.istore X17.here hx rfl (hb hby d12_57) rfl (l' := #[.val (.ref x0), .val (.ref x1), .val (.ref x2), .val (.int x3), .val (.int z9), .val (.int (z10 - z11)), .val (.int o13), .val (.int o16)]) rfl k) ?_
    refine own_step (st' := T17.setTop (mkF m 61 #[.val (.ref x0), .val (.ref x1), .val (.ref x2), .val (.int x3), .val (.int z9), .val (.int (z10 - z11)), .val (.int o13), .val (.int o16)] [(.int (z10 - z11))])) (fun t k => XS.iload X17.here hx rfl (hb hby d12_59) rfl k) ?_
    refine own_step (st' := T17.setTop (mkF m 63 #[.val (.ref x0), .val (.ref x1), .val (.ref x2), .val (.int x3), .val (.int z9), .val (.int (z10 - z11)), .val (.int o13), .val (.int o16)] [(.int o13), (.int (z10 - z11))])) (fun t k => XS.iload X17.here hx rfl (hb hby d12_61) rfl k) ?_
    refine own_step (st' := T17.setTop (mkF m 64 #[.val (.ref x0), .val (.ref x1), .val (.ref x2), .val (.int x3), .val (.int z9), .val (.int (z10 - z11)), .val (.int o13), .val (.int o16)] [(.int (1 : Int32)), (.int o13), (.int (z10 - z11))])) (fun t k => XS.iconst X17.here hx rfl (hb hby d12_63) k) ?_
    refine own_step (st' := T17.setTop (mkF m 65 #[.val (.ref x0), .val (.ref x1), .val (.ref x2), .val (.int x3), .val (.int z9), .val (.int (z10 - z11)), .val (.int o13), .val (.int o16)] [(.int (o13 + (1 : Int32))), (.int (z10 - z11))])) (fun t k => XS.iadd X17.here hx rfl (hb hby d12_64) rfl k) ?_
    by_cases hc18 : (z10 - z11) < (o13 + (1 : Int32))
    · have r19 := own_if1 hc18 ro16
      clear ro16
      refine own_step (st' := T17.setTop (mkF m 79 #[.val (.ref x0), .val (.ref x1), .val (.ref x2), .val (.int x3), .val (.int z9), .val (.int (z10 - z11)), .val (.int o13), .val (.int o16)] [])) (fun t k => XS.icmpYes X17.here hx rfl (pc0 := 65) (pc' := 79) rfl (hb hby d12_65) rfl (tlt hc18).1 (by decide) (by decide) k) ?_
      refine own_step (st' := T17.setTop (mkF m 80 #[.val (.ref x0), .val (.ref x1), .val (.ref x2), .val (.int x3), .val (.int z9), .val (.int (z10 - z11)), .val (.int o13), .val (.int o16)] [(.int (0 : Int32))])) (fun t k => XS.iconst X17.here hx rfl (hb hby d12_79) k) ?_
      refine own_ret X17 Bd.notSynchronized (some (.int (0 : Int32))) (fun h => by rw [Bd.returns] at h; cases h) (fun fs hr => retN X17 hx (t := .boolean) Bd.returns (by simp) (hb hby d12_80) hr) ?_ (by decide) (by decide)
      rw [e17]
      have hq : some ((0 : Int32)) = some (r) := r19
      cases hq
      exact ⟨(by first | rfl | (simp only [if_neg hc2, if_pos hc18]; done) | (simp only [if_neg hc2, if_pos hc18]; rfl)), N17, rfl⟩
    · have r20 := own_if0 hc18 ro16
      clear ro16
      refine own_step (st' := T17.setTop (mkF m 68 #[.val (.ref x0), .val (.ref x1), .val (.ref x2), .val (.int x3), .val (.int z9), .val (.int (z10 - z11)), .val (.int o13), .val (.int o16)] [])) (fun t k => XS.icmpNo X17.here hx rfl (hb hby d12_65) rfl (flt hc18).1 k) ?_
      refine own_step (st' := T17.setTop (mkF m 70 #[.val (.ref x0), .val (.ref x1), .val (.ref x2), .val (.int x3), .val (.int z9), .val (.int (z10 - z11)), .val (.int o13), .val (.int o16)] [(.int (z10 - z11))])) (fun t k => XS.iload X17.here hx rfl (hb hby d12_68) rfl k) ?_
      refine own_step (st' := T17.setTop (mkF m 72 #[.val (.ref x0), .val (.ref x1), .val (.ref x2), .val (.int x3), .val (.int z9), .val (.int (z10 - z11)), .val (.int o13), .val (.int o16)] [(.int o16), (.int (z10 - z11))])) (fun t k => XS.iload X17.here hx rfl (hb hby d12_70) rfl k) ?_
      by_cases hc21 : o16 < (z10 - z11)
      · have r22 := own_if1 hc21 r20
        clear r20
        refine own_step (st' := T17.setTop (mkF m 79 #[.val (.ref x0), .val (.ref x1), .val (.ref x2), .val (.int x3), .val (.int z9), .val (.int (z10 - z11)), .val (.int o13), .val (.int o16)] [])) (fun t k => XS.icmpYes X17.here hx rfl (pc0 := 72) (pc' := 79) rfl (hb hby d12_72) rfl (tlt hc21).2.2.1 (by decide) (by decide) k) ?_
        refine own_step (st' := T17.setTop (mkF m 80 #[.val (.ref x0), .val (.ref x1), .val (.ref x2), .val (.int x3), .val (.int z9), .val (.int (z10 - z11)), .val (.int o13), .val (.int o16)] [(.int (0 : Int32))])) (fun t k => XS.iconst X17.here hx rfl (hb hby d12_79) k) ?_
        refine own_ret X17 Bd.notSynchronized (some (.int (0 : Int32))) (fun h => by rw [Bd.returns] at h; cases h) (fun fs hr => retN X17 hx (t := .boolean) Bd.returns (by simp) (hb hby d12_80) hr) ?_ (by decide) (by decide)
        rw [e17]
        have hq : some ((0 : Int32)) = some (r) := r22
        cases hq
        exact ⟨(by first | rfl | (simp only [if_neg hc2, if_neg hc18, if_pos hc21]; done) | (simp only [if_neg hc2, if_neg hc18, if_pos hc21]; rfl)), N17, rfl⟩
      · have r23 := own_if0 hc21 r20
        clear r20
        refine own_step (st' := T17.setTop (mkF m 75 #[.val (.ref x0), .val (.ref x1), .val (.ref x2), .val (.int x3), .val (.int z9), .val (.int (z10 - z11)), .val (.int o13), .val (.int o16)] [])) (fun t k => XS.icmpNo X17.here hx rfl (hb hby d12_72) rfl (flt hc21).2.2.1 k) ?_
        refine own_step (st' := T17.setTop (mkF m 76 #[.val (.ref x0), .val (.ref x1), .val (.ref x2), .val (.int x3), .val (.int z9), .val (.int (z10 - z11)), .val (.int o13), .val (.int o16)] [(.int (1 : Int32))])) (fun t k => XS.iconst X17.here hx rfl (hb hby d12_75) k) ?_
        refine own_step (st' := T17.setTop (mkF m 80 #[.val (.ref x0), .val (.ref x1), .val (.ref x2), .val (.int x3), .val (.int z9), .val (.int (z10 - z11)), .val (.int o13), .val (.int o16)] [(.int (1 : Int32))])) (fun t k => XS.goto X17.here hx rfl (pc0 := 76) (pc' := 80) rfl (hb hby d12_76) (by decide) (by decide) k) ?_
        refine own_ret X17 Bd.notSynchronized (some (.int (1 : Int32))) (fun h => by rw [Bd.returns] at h; cases h) (fun fs hr => retN X17 hx (t := .boolean) Bd.returns (by simp) (hb hby d12_80) hr) ?_ (by decide) (by decide)
        rw [e17]
        have hq : some ((1 : Int32)) = some (r) := r23
        cases hq
        exact ⟨(by first | rfl | (simp only [if_neg hc2, if_neg hc18, if_neg hc21]; done) | (simp only [if_neg hc2, if_neg hc18, if_neg hc21]; rfl)), N17, rfl⟩
def m_apart (P : List Int32) (R : List Int32) (x2 : Int32) (x3 : Int32) : Option (Int32) := (own_get (6 : Int32) P x2).bind fun z1 => if z1 < (0 : Int32) then (some ((1 : Int32))) else ((own_get (6 : Int32) P x2).bind fun z5 => (own_get (6 : Int32) P x3).bind fun z6 => if z5 = z6 then ((own_get (6 : Int32) R x2).bind fun z9 => (own_get (6 : Int32) R x3).bind fun z10 => if z9 = z10 then (some ((0 : Int32))) else (some ((1 : Int32)))) else (some ((1 : Int32))))
theorem d13_0 : decode method_8_code 0 = .ok (.aload_n 0, 1) := by decide +kernel
theorem d13_1 : decode method_8_code 1 = .ok (.iload_n 2, 1) := by decide +kernel
theorem d13_2 : decode method_8_code 2 = .ok (.iaload, 1) := by decide +kernel
theorem d13_3 : decode method_8_code 3 = .ok (.ifCond .lt 21, 3) := by decide +kernel
theorem d13_6 : decode method_8_code 6 = .ok (.aload_n 0, 1) := by decide +kernel
theorem d13_7 : decode method_8_code 7 = .ok (.iload_n 2, 1) := by decide +kernel
theorem d13_8 : decode method_8_code 8 = .ok (.iaload, 1) := by decide +kernel
theorem d13_9 : decode method_8_code 9 = .ok (.aload_n 0, 1) := by decide +kernel
theorem d13_10 : decode method_8_code 10 = .ok (.iload_n 3, 1) := by decide +kernel
theorem d13_11 : decode method_8_code 11 = .ok (.iaload, 1) := by decide +kernel
theorem d13_12 : decode method_8_code 12 = .ok (.if_icmp .ne 12, 3) := by decide +kernel
theorem d13_15 : decode method_8_code 15 = .ok (.aload_n 1, 1) := by decide +kernel
theorem d13_16 : decode method_8_code 16 = .ok (.iload_n 2, 1) := by decide +kernel
theorem d13_17 : decode method_8_code 17 = .ok (.iaload, 1) := by decide +kernel
theorem d13_18 : decode method_8_code 18 = .ok (.aload_n 1, 1) := by decide +kernel
theorem d13_19 : decode method_8_code 19 = .ok (.iload_n 3, 1) := by decide +kernel
theorem d13_20 : decode method_8_code 20 = .ok (.iaload, 1) := by decide +kernel
theorem d13_21 : decode method_8_code 21 = .ok (.if_icmp .eq 7, 3) := by decide +kernel
theorem d13_24 : decode method_8_code 24 = .ok (.iconst 1, 1) := by decide +kernel
theorem d13_25 : decode method_8_code 25 = .ok (.goto 4, 3) := by decide +kernel
theorem d13_28 : decode method_8_code 28 = .ok (.iconst 0, 1) := by decide +kernel
theorem d13_29 : decode method_8_code 29 = .ok (.ireturn, 1) := by decide +kernel
theorem ef_13_RRII (m : MethodId) (x0 : Addr) (x1 : Addr) (x2 : Int32) (x3 : Int32) : entryFrame m #[(.ref x0), (.ref x1), (.int x2), (.int x3)] 4 = mkF m 0 #[.val (.ref x0), .val (.ref x1), .val (.int x2), .val (.int x3)] [] := by first | (simp [entryFrame, mkF, argsToLocals, Value.category]; done) | rfl
def Q_rm13 (Z : State) (x0 : Addr) (x1 : Addr) (x2 : Int32) (x3 : Int32) (k0 : ClassId) (k1 : ClassId) (P : List Int32) (R : List Int32) (r : Int32) (h0 : Heap) (n0 : Nat) (v : Option Value) (h : Heap) (L : List Loc) : Prop := v = some (.int r) ∧ Fr n0 L ∧ h = h0
set_option maxRecDepth 65536 in
set_option maxHeartbeats 40000000 in
theorem rm13 (l : Launch) (Z : State) (a0 : Array Value) (hw : ∀ d ∈ tables_1, d.before a0 Z = true) (ws : List Jvm.Cond) (x0 : Addr) (x1 : Addr) (x2 : Int32) (x3 : Int32) (k0 : ClassId) (k1 : ClassId) (P : List Int32) (R : List Int32) (r : Int32) (h0 : Heap) (n0 : Nat) (Z0 : n0 ≤ h0.size) (p_0 : Arv Z h0 x0 k0 .int (6 : Int32) (P.map Value.int) (.int (0 : Int32))) (p_1 : Arv Z h0 x1 k1 .int (6 : Int32) (R.map Value.int) (.int (0 : Int32))) (p_2 : m_apart P R x2 x3 = some (r)) :
    MetFree l (⟨"com/example/rumorwire/rumorwire/TreeSolverInformedInPinLaw", "apart", "([I[III)Z"⟩ : MethodName) (head1 (Jvm.Cond.code (⟨"com/example/rumorwire/rumorwire/TreeSolverInformedInPinLaw", "apart", "([I[III)Z"⟩ : MethodName) method_8_code 4 (some .boolean) :: ws) ({ frames := 0, cells := 0, slots := 0, locals := 0 } : Room)) (fun a U => a = #[(.ref x0), (.ref x1), (.int x2), (.int x3)] ∧ Z.Warmed39 U.vm ∧ U.heap = h0) (fun _ _ _ _ _ => True) (fun _ U o U' => ∃ v L, o = .returned v ∧ Q_rm13 Z x0 x1 x2 x3 k0 k1 P R r h0 n0 v U'.heap L ∧ FrameEnd U o U' L ({ frames := 0, cells := 0, slots := 0, locals := 0 } : Room).cells ({ frames := 0, cells := 0, slots := 0, locals := 0 } : Room).slots) := by
  refine MetFree.of_bodySF (plainFor_of_name pn_1) hisR ?_
  intro p e s m args below meth c s₁ Bd hml0 hP hK
  obtain ⟨rfl, hZ, hh⟩ := hP
  have hx := Bd.exec
  have hby := Bd.bytes
  have hml : c.maxLocals = 4 := hml0
  have hown : s.vm.findClass "com/example/rumorwire/rumorwire/TreeSolverInformedInPinLaw" = some m.cls := findClass_of_methodNamed Bd.named
  have hnm := (name_of_methodNamed Bd.named Bd.method).1
  have X0 : Stand p l e ({ frames := 0, cells := 0, slots := 0, locals := 0 } : Room) s m #[(.ref x0), (.ref x1), (.int x2), (.int x3)] below meth c s₁ [] 0 0 := Stand.of_body Bd
  have e0 : s₁.heap = h0 := by rw [← hh, Bd.state]; rfl
  have N0 := Fr.nil n0
  show own_Ends p e below s ({ frames := 0, cells := 0, slots := 0, locals := 0 } : Room).cells ({ frames := 0, cells := 0, slots := 0, locals := 0 } : Room).slots (Q_rm13 Z x0 x1 x2 x3 k0 k1 P R r h0 n0) (s₁.setTop (entryFrame m #[(.ref x0), (.ref x1), (.int x2), (.int x3)] 4))
  rw [ef_13_RRII]
  refine own_step (st' := s₁.setTop (mkF m 1 #[.val (.ref x0), .val (.ref x1), .val (.int x2), .val (.int x3)] [(.ref x0)])) (fun t k => XS.aloadN X0.here hx rfl (hb hby d13_0) rfl rfl k) ?_
  refine own_step (st' := s₁.setTop (mkF m 2 #[.val (.ref x0), .val (.ref x1), .val (.int x2), .val (.int x3)] [(.int x2), (.ref x0)])) (fun t k => XS.iloadN X0.here hx rfl (hb hby d13_1) rfl k) ?_
  obtain ⟨z1, hz1, rz1⟩ := own_bind p_2
  clear p_2
  refine own_step (st' := s₁.setTop (mkF m 3 #[.val (.ref x0), .val (.ref x1), .val (.int x2), .val (.int x3)] [(.int z1)])) (fun t k => own_ldI X0 hx hZ e0 p_0 (j := x2) (v := (.int z1)) (own_gd hz1).1 (own_gd hz1).2 (g := (mkF m 2 #[.val (.ref x0), .val (.ref x1), .val (.int x2), .val (.int x3)] [(.int x2), (.ref x0)])) rfl rfl (hb hby d13_2) t k) ?_
  by_cases hc2 : z1 < (0 : Int32)
  · have r3 := own_if1 hc2 rz1
    clear rz1
    refine own_step (st' := s₁.setTop (mkF m 24 #[.val (.ref x0), .val (.ref x1), .val (.int x2), .val (.int x3)] [])) (fun t k => XS.ifYes X0.here hx rfl (pc0 := 3) (pc' := 24) rfl (hb hby d13_3) rfl ((if0 _ _).trans (tlt hc2).1) (by decide) (by decide) k) ?_
    refine own_step (st' := s₁.setTop (mkF m 25 #[.val (.ref x0), .val (.ref x1), .val (.int x2), .val (.int x3)] [(.int (1 : Int32))])) (fun t k => XS.iconst X0.here hx rfl (hb hby d13_24) k) ?_
    refine own_step (st' := s₁.setTop (mkF m 29 #[.val (.ref x0), .val (.ref x1), .val (.int x2), .val (.int x3)] [(.int (1 : Int32))])) (fun t k => XS.goto X0.here hx rfl (pc0 := 25) (pc' := 29) rfl (hb hby d13_25) (by decide) (by decide) k) ?_
    refine own_ret X0 Bd.notSynchronized (some (.int (1 : Int32))) (fun h => by rw [Bd.returns] at h; cases h) (fun fs hr => retN X0 hx (t := .boolean) Bd.returns (by simp) (hb hby d13_29) hr) ?_ (by decide) (by decide)
    rw [e0]
    have hq : some ((1 : Int32)) = some (r) := r3
    cases hq
    exact ⟨(by first | rfl | (simp only [if_pos hc2]; done) | (simp only [if_pos hc2]; rfl)), N0, rfl⟩
  · have r4 := own_if0 hc2 rz1
    clear rz1
    refine own_step (st' := s₁.setTop (mkF m 6 #[.val (.ref x0), .val (.ref x1), .val (.int x2), .val (.int x3)] [])) (fun t k => XS.ifNo X0.here hx rfl (hb hby d13_3) rfl ((if0 _ _).trans (flt hc2).1) k) ?_
    refine own_step (st' := s₁.setTop (mkF m 7 #[.val (.ref x0), .val (.ref x1), .val (.int x2), .val (.int x3)] [(.ref x0)])) (fun t k => XS.aloadN X0.here hx rfl (hb hby d13_6) rfl rfl k) ?_
    refine own_step (st' := s₁.setTop (mkF m 8 #[.val (.ref x0), .val (.ref x1), .val (.int x2), .val (.int x3)] [(.int x2), (.ref x0)])) (fun t k => XS.iloadN X0.here hx rfl (hb hby d13_7) rfl k) ?_
    obtain ⟨z5, hz5, rz5⟩ := own_bind r4
    clear r4
    refine own_step (st' := s₁.setTop (mkF m 9 #[.val (.ref x0), .val (.ref x1), .val (.int x2), .val (.int x3)] [(.int z5)])) (fun t k => own_ldI X0 hx hZ e0 p_0 (j := x2) (v := (.int z5)) (own_gd hz5).1 (own_gd hz5).2 (g := (mkF m 8 #[.val (.ref x0), .val (.ref x1), .val (.int x2), .val (.int x3)] [(.int x2), (.ref x0)])) rfl rfl (hb hby d13_8) t k) ?_
    refine own_step (st' := s₁.setTop (mkF m 10 #[.val (.ref x0), .val (.ref x1), .val (.int x2), .val (.int x3)] [(.ref x0), (.int z5)])) (fun t k => XS.aloadN X0.here hx rfl (hb hby d13_9) rfl rfl k) ?_
    refine own_step (st' := s₁.setTop (mkF m 11 #[.val (.ref x0), .val (.ref x1), .val (.int x2), .val (.int x3)] [(.int x3), (.ref x0), (.int z5)])) (fun t k => XS.iloadN X0.here hx rfl (hb hby d13_10) rfl k) ?_
    obtain ⟨z6, hz6, rz6⟩ := own_bind rz5
    clear rz5
    refine own_step (st' := s₁.setTop (mkF m 12 #[.val (.ref x0), .val (.ref x1), .val (.int x2), .val (.int x3)] [(.int z6), (.int z5)])) (fun t k => own_ldI X0 hx hZ e0 p_0 (j := x3) (v := (.int z6)) (own_gd hz6).1 (own_gd hz6).2 (g := (mkF m 11 #[.val (.ref x0), .val (.ref x1), .val (.int x2), .val (.int x3)] [(.int x3), (.ref x0), (.int z5)])) rfl rfl (hb hby d13_11) t k) ?_
    by_cases hc7 : z5 = z6
    · have r8 := own_if1 hc7 rz6
      clear rz6
      refine own_step (st' := s₁.setTop (mkF m 15 #[.val (.ref x0), .val (.ref x1), .val (.int x2), .val (.int x3)] [])) (fun t k => XS.icmpNo X0.here hx rfl (hb hby d13_12) rfl (teq hc7).2 k) ?_
      refine own_step (st' := s₁.setTop (mkF m 16 #[.val (.ref x0), .val (.ref x1), .val (.int x2), .val (.int x3)] [(.ref x1)])) (fun t k => XS.aloadN X0.here hx rfl (hb hby d13_15) rfl rfl k) ?_
      refine own_step (st' := s₁.setTop (mkF m 17 #[.val (.ref x0), .val (.ref x1), .val (.int x2), .val (.int x3)] [(.int x2), (.ref x1)])) (fun t k => XS.iloadN X0.here hx rfl (hb hby d13_16) rfl k) ?_
      obtain ⟨z9, hz9, rz9⟩ := own_bind r8
      clear r8
      refine own_step (st' := s₁.setTop (mkF m 18 #[.val (.ref x0), .val (.ref x1), .val (.int x2), .val (.int x3)] [(.int z9)])) (fun t k => own_ldI X0 hx hZ e0 p_1 (j := x2) (v := (.int z9)) (own_gd hz9).1 (own_gd hz9).2 (g := (mkF m 17 #[.val (.ref x0), .val (.ref x1), .val (.int x2), .val (.int x3)] [(.int x2), (.ref x1)])) rfl rfl (hb hby d13_17) t k) ?_
      refine own_step (st' := s₁.setTop (mkF m 19 #[.val (.ref x0), .val (.ref x1), .val (.int x2), .val (.int x3)] [(.ref x1), (.int z9)])) (fun t k => XS.aloadN X0.here hx rfl (hb hby d13_18) rfl rfl k) ?_
      refine own_step (st' := s₁.setTop (mkF m 20 #[.val (.ref x0), .val (.ref x1), .val (.int x2), .val (.int x3)] [(.int x3), (.ref x1), (.int z9)])) (fun t k => XS.iloadN X0.here hx rfl (hb hby d13_19) rfl k) ?_
      obtain ⟨z10, hz10, rz10⟩ := own_bind rz9
      clear rz9
      refine own_step (st' := s₁.setTop (mkF m 21 #[.val (.ref x0), .val (.ref x1), .val (.int x2), .val (.int x3)] [(.int z10), (.int z9)])) (fun t k => own_ldI X0 hx hZ e0 p_1 (j := x3) (v := (.int z10)) (own_gd hz10).1 (own_gd hz10).2 (g := (mkF m 20 #[.val (.ref x0), .val (.ref x1), .val (.int x2), .val (.int x3)] [(.int x3), (.ref x1), (.int z9)])) rfl rfl (hb hby d13_20) t k) ?_
      by_cases hc11 : z9 = z10
      · have r12 := own_if1 hc11 rz10
        clear rz10
        refine own_step (st' := s₁.setTop (mkF m 28 #[.val (.ref x0), .val (.ref x1), .val (.int x2), .val (.int x3)] [])) (fun t k => XS.icmpYes X0.here hx rfl (pc0 := 21) (pc' := 28) rfl (hb hby d13_21) rfl (teq hc11).1 (by decide) (by decide) k) ?_
        refine own_step (st' := s₁.setTop (mkF m 29 #[.val (.ref x0), .val (.ref x1), .val (.int x2), .val (.int x3)] [(.int (0 : Int32))])) (fun t k => XS.iconst X0.here hx rfl (hb hby d13_28) k) ?_
        refine own_ret X0 Bd.notSynchronized (some (.int (0 : Int32))) (fun h => by rw [Bd.returns] at h; cases h) (fun fs hr => retN X0 hx (t := .boolean) Bd.returns (by simp) (hb hby d13_29) hr) ?_ (by decide) (by decide)
        rw [e0]
        have hq : some ((0 : Int32)) = some (r) := r12
        cases hq
        exact ⟨(by first | rfl | (simp only [if_neg hc2, if_pos hc7, if_pos hc11]; done) | (simp only [if_neg hc2, if_pos hc7, if_pos hc11]; rfl)), N0, rfl⟩
      · have r13 := own_if0 hc11 rz10
        clear rz10
        refine own_step (st' := s₁.setTop (mkF m 24 #[.val (.ref x0), .val (.ref x1), .val (.int x2), .val (.int x3)] [])) (fun t k => XS.icmpNo X0.here hx rfl (hb hby d13_21) rfl (feq hc11).1 k) ?_
        refine own_step (st' := s₁.setTop (mkF m 25 #[.val (.ref x0), .val (.ref x1), .val (.int x2), .val (.int x3)] [(.int (1 : Int32))])) (fun t k => XS.iconst X0.here hx rfl (hb hby d13_24) k) ?_
        refine own_step (st' := s₁.setTop (mkF m 29 #[.val (.ref x0), .val (.ref x1), .val (.int x2), .val (.int x3)] [(.int (1 : Int32))])) (fun t k => XS.goto X0.here hx rfl (pc0 := 25) (pc' := 29) rfl (hb hby d13_25) (by decide) (by decide) k) ?_
        refine own_ret X0 Bd.notSynchronized (some (.int (1 : Int32))) (fun h => by rw [Bd.returns] at h; cases h) (fun fs hr => retN X0 hx (t := .boolean) Bd.returns (by simp) (hb hby d13_29) hr) ?_ (by decide) (by decide)
        rw [e0]
        have hq : some ((1 : Int32)) = some (r) := r13
        cases hq
        exact ⟨(by first | rfl | (simp only [if_neg hc2, if_pos hc7, if_neg hc11]; done) | (simp only [if_neg hc2, if_pos hc7, if_neg hc11]; rfl)), N0, rfl⟩
    · have r14 := own_if0 hc7 rz6
      clear rz6
      refine own_step (st' := s₁.setTop (mkF m 24 #[.val (.ref x0), .val (.ref x1), .val (.int x2), .val (.int x3)] [])) (fun t k => XS.icmpYes X0.here hx rfl (pc0 := 12) (pc' := 24) rfl (hb hby d13_12) rfl (feq hc7).2 (by decide) (by decide) k) ?_
      refine own_step (st' := s₁.setTop (mkF m 25 #[.val (.ref x0), .val (.ref x1), .val (.int x2), .val (.int x3)] [(.int (1 : Int32))])) (fun t k => XS.iconst X0.here hx rfl (hb hby d13_24) k) ?_
      refine own_step (st' := s₁.setTop (mkF m 29 #[.val (.ref x0), .val (.ref x1), .val (.int x2), .val (.int x3)] [(.int (1 : Int32))])) (fun t k => XS.goto X0.here hx rfl (pc0 := 25) (pc' := 29) rfl (hb hby d13_25) (by decide) (by decide) k) ?_
      refine own_ret X0 Bd.notSynchronized (some (.int (1 : Int32))) (fun h => by rw [Bd.returns] at h; cases h) (fun fs hr => retN X0 hx (t := .boolean) Bd.returns (by simp) (hb hby d13_29) hr) ?_ (by decide) (by decide)
      rw [e0]
      have hq : some ((1 : Int32)) = some (r) := r14
      cases hq
      exact ⟨(by first | rfl | (simp only [if_neg hc2, if_neg hc7]; done) | (simp only [if_neg hc2, if_neg hc7]; rfl)), N0, rfl⟩
def m_fill (P : List Int32) (x1 : Int32) : Option (List Int32) := (own_put (6 : Int32) P (0 : Int32) x1).bind fun L2 => (own_put (6 : Int32) L2 (1 : Int32) x1).bind fun L7 => (own_put (6 : Int32) L7 (2 : Int32) x1).bind fun L12 => (own_put (6 : Int32) L12 (3 : Int32) x1).bind fun L17 => (own_put (6 : Int32) L17 (4 : Int32) x1).bind fun L22 => (own_put (6 : Int32) L22 (5 : Int32) x1).bind fun L27 => some (L27)
theorem d9_0 : decode jdk_65_method_103_code 0 = .ok (.iconst 0, 1) := by decide +kernel
theorem d9_1 : decode jdk_65_method_103_code 1 = .ok (.istore_n 2, 1) := by decide +kernel
theorem d9_2 : decode jdk_65_method_103_code 2 = .ok (.aload_n 0, 1) := by decide +kernel
theorem d9_3 : decode jdk_65_method_103_code 3 = .ok (.arraylength, 1) := by decide +kernel
theorem d9_4 : decode jdk_65_method_103_code 4 = .ok (.istore_n 3, 1) := by decide +kernel
theorem d9_5 : decode jdk_65_method_103_code 5 = .ok (.iload_n 2, 1) := by decide +kernel
theorem d9_6 : decode jdk_65_method_103_code 6 = .ok (.iload_n 3, 1) := by decide +kernel
theorem d9_7 : decode jdk_65_method_103_code 7 = .ok (.if_icmp .ge 13, 3) := by decide +kernel
theorem d9_10 : decode jdk_65_method_103_code 10 = .ok (.aload_n 0, 1) := by decide +kernel
theorem d9_11 : decode jdk_65_method_103_code 11 = .ok (.iload_n 2, 1) := by decide +kernel
theorem d9_12 : decode jdk_65_method_103_code 12 = .ok (.iload_n 1, 1) := by decide +kernel
theorem d9_13 : decode jdk_65_method_103_code 13 = .ok (.iastore, 1) := by decide +kernel
theorem d9_14 : decode jdk_65_method_103_code 14 = .ok (.iinc 2 1, 3) := by decide +kernel
theorem d9_17 : decode jdk_65_method_103_code 17 = .ok (.goto (-12), 3) := by decide +kernel
theorem d9_20 : decode jdk_65_method_103_code 20 = .ok (.return_, 1) := by decide +kernel
theorem pn_4 : plainName "java/util/Arrays" = true := by first | (simp [plainName, overriddenIn]; done) | decide +kernel
theorem ef_9_RI (m : MethodId) (x0 : Addr) (x1 : Int32) : entryFrame m #[(.ref x0), (.int x1)] 4 = mkF m 0 #[.val (.ref x0), .val (.int x1), .unset, .unset] [] := by first | (simp [entryFrame, mkF, argsToLocals, Value.category]; done) | rfl
def Q_rm9 (Z : State) (x0 : Addr) (x1 : Int32) (k0 : ClassId) (P : List Int32) (Q' : List Int32) (h0 : Heap) (n0 : Nat) (v : Option Value) (h : Heap) (L : List Loc) : Prop := v = none ∧ Fr n0 L ∧ Keep h0 h [x0] ∧ Arv Z h x0 k0 .int (6 : Int32) (Q'.map Value.int) (.int (0 : Int32))
set_option maxRecDepth 65536 in
set_option maxHeartbeats 40000000 in
theorem rm9 (l : Launch) (Z : State) (a0 : Array Value) (hw : ∀ d ∈ tables_1, d.before a0 Z = true) (ws : List Jvm.Cond) (x0 : Addr) (x1 : Int32) (k0 : ClassId) (P : List Int32) (Q' : List Int32) (h0 : Heap) (n0 : Nat) (Z0 : n0 ≤ h0.size) (p_0 : Arv Z h0 x0 k0 .int (6 : Int32) (P.map Value.int) (.int (0 : Int32))) (p_1 : n0 ≤ x0) (p_2 : m_fill P x1 = some (Q')) :
    MetFree l (⟨"java/util/Arrays", "fill", "([II)V"⟩ : MethodName) (head1 (Jvm.Cond.code (⟨"java/util/Arrays", "fill", "([II)V"⟩ : MethodName) jdk_65_method_103_code 4 none :: ws) ({ frames := 0, cells := 0, slots := 0, locals := 0 } : Room)) (fun a U => a = #[(.ref x0), (.int x1)] ∧ Z.Warmed39 U.vm ∧ U.heap = h0) (fun _ _ _ _ _ => True) (fun _ U o U' => ∃ v L, o = .returned v ∧ Q_rm9 Z x0 x1 k0 P Q' h0 n0 v U'.heap L ∧ FrameEnd U o U' L ({ frames := 0, cells := 0, slots := 0, locals := 0 } : Room).cells ({ frames := 0, cells := 0, slots := 0, locals := 0 } : Room).slots) := by
  refine MetFree.of_bodySF (plainFor_of_name pn_4) hisR ?_
  intro p e s m args below meth c s₁ Bd hml0 hP hK
  obtain ⟨rfl, hZ, hh⟩ := hP
  have hx := Bd.exec
  have hby := Bd.bytes
  have hml : c.maxLocals = 4 := hml0
  have hown : s.vm.findClass "java/util/Arrays" = some m.cls := findClass_of_methodNamed Bd.named
  have hnm := (name_of_methodNamed Bd.named Bd.method).1
  have X0 : Stand p l e ({ frames := 0, cells := 0, slots := 0, locals := 0 } : Room) s m #[(.ref x0), (.int x1)] below meth c s₁ [] 0 0 := Stand.of_body Bd
  have e0 : s₁.heap = h0 := by rw [← hh, Bd.state]; rfl
  have N0 := Fr.nil n0
  show own_Ends p e below s ({ frames := 0, cells := 0, slots := 0, locals := 0 } : Room).cells ({ frames := 0, cells := 0, slots := 0, locals := 0 } : Room).slots (Q_rm9 Z x0 x1 k0 P Q' h0 n0) (s₁.setTop (entryFrame m #[(.ref x0), (.int x1)] 4))
  rw [ef_9_RI]
  refine own_step (st' := s₁.setTop (mkF m 1 #[.val (.ref x0), .val (.int x1), .unset, .unset] [(.int (0 : Int32))])) (fun t k => XS.iconst X0.here hx rfl (hb hby d9_0) k) ?_
  refine own_step (st' := s₁.setTop (mkF m 2 #[.val (.ref x0), .val (.int x1), .val (.int (0 : Int32)), .unset] [])) (fun t k => XS.istoreN X0.here hx rfl (hb hby d9_1) rfl (l' := #[.val (.ref x0), .val (.int x1), .val (.int (0 : Int32)), .unset]) rfl k) ?_
  refine own_step (st' := s₁.setTop (mkF m 3 #[.val (.ref x0), .val (.int x1), .val (.int (0 : Int32)), .unset] [(.ref x0)])) (fun t k => XS.aloadN X0.here hx rfl (hb hby d9_2) rfl rfl k) ?_
  refine own_step (st' := s₁.setTop (mkF m 4 #[.val (.ref x0), .val (.int x1), .val (.int (0 : Int32)), .unset] [(.int (6 : Int32))])) (fun t k => own_len X0 hx hZ e0 p_0 (g := (mkF m 3 #[.val (.ref x0), .val (.int x1), .val (.int (0 : Int32)), .unset] [(.ref x0)])) rfl rfl (hb hby d9_3) t k) ?_
  refine own_step (st' := s₁.setTop (mkF m 5 #[.val (.ref x0), .val (.int x1), .val (.int (0 : Int32)), .val (.int (6 : Int32))] [])) (fun t k => XS.istoreN X0.here hx rfl (hb hby d9_4) rfl (l' := #[.val (.ref x0), .val (.int x1), .val (.int (0 : Int32)), .val (.int (6 : Int32))]) rfl k) ?_
  refine own_step (st' := s₁.setTop (mkF m 6 #[.val (.ref x0), .val (.int x1), .val (.int (0 : Int32)), .val (.int (6 : Int32))] [(.int (0 : Int32))])) (fun t k => XS.iloadN X0.here hx rfl (hb hby d9_5) rfl k) ?_
  refine own_step (st' := s₁.setTop (mkF m 7 #[.val (.ref x0), .val (.int x1), .val (.int (0 : Int32)), .val (.int (6 : Int32))] [(.int (6 : Int32)), (.int (0 : Int32))])) (fun t k => XS.iloadN X0.here hx rfl (hb hby d9_6) rfl k) ?_
  refine own_step (st' := s₁.setTop (mkF m 10 #[.val (.ref x0), .val (.int x1), .val (.int (0 : Int32)), .val (.int (6 : Int32))] [])) (fun t k => XS.icmpNo X0.here hx rfl (hb hby d9_7) rfl (tlt (by decide)).2.1 k) ?_
  refine own_step (st' := s₁.setTop (mkF m 11 #[.val (.ref x0), .val (.int x1), .val (.int (0 : Int32)), .val (.int (6 : Int32))] [(.ref x0)])) (fun t k => XS.aloadN X0.here hx rfl (hb hby d9_10) rfl rfl k) ?_
  refine own_step (st' := s₁.setTop (mkF m 12 #[.val (.ref x0), .val (.int x1), .val (.int (0 : Int32)), .val (.int (6 : Int32))] [(.int (0 : Int32)), (.ref x0)])) (fun t k => XS.iloadN X0.here hx rfl (hb hby d9_11) rfl k) ?_
  refine own_step (st' := s₁.setTop (mkF m 13 #[.val (.ref x0), .val (.int x1), .val (.int (0 : Int32)), .val (.int (6 : Int32))] [(.int x1), (.int (0 : Int32)), (.ref x0)])) (fun t k => XS.iloadN X0.here hx rfl (hb hby d9_12) rfl k) ?_
  obtain ⟨L2, hL2, rL2⟩ := own_bind p_2
  clear p_2
  obtain ⟨T1, h1, X1, e1, W1, V1, st1⟩ := own_stI X0 hx hZ e0 p_0 (j := (0 : Int32)) (i := (0 : Int32).toNatClampNeg) (own_pt hL2).1 rfl (own_pt hL2).2.1 (g := (mkF m 13 #[.val (.ref x0), .val (.int x1), .val (.int (0 : Int32)), .val (.int (6 : Int32))] [(.int x1), (.int (0 : Int32)), (.ref x0)])) rfl rfl (hb hby d9_13)
  have V1 : Arv Z h1 x0 k0 .int (6 : Int32) ((P.map Value.int).set (0 : Int32).toNatClampNeg (.int x1)) (.int (0 : Int32)) := V1
  rw [(own_pt hL2).2.2] at V1
  have K3 : Keep h0 h1 [x0] := (Keep.refl h0 [x0]).wr W1 (Or.inl (List.mem_of_getElem? (i := 0) rfl))
  have Z4 : n0 ≤ h1.size := Nat.le_trans Z0 (Keep.of_wr W1).1
  have N5 := Fr.snoc X1 N0 p_1
  refine own_step (st' := T1.setTop (mkF m 14 #[.val (.ref x0), .val (.int x1), .val (.int (0 : Int32)), .val (.int (6 : Int32))] [])) st1 ?_
  refine own_step (st' := T1.setTop (mkF m 17 #[.val (.ref x0), .val (.int x1), .val (.int (1 : Int32)), .val (.int (6 : Int32))] [])) (fun t k => XS.iinc X1.here hx rfl (hb hby d9_14) rfl (l' := #[.val (.ref x0), .val (.int x1), .val (.int (1 : Int32)), .val (.int (6 : Int32))]) rfl k) ?_
  refine own_step (st' := T1.setTop (mkF m 5 #[.val (.ref x0), .val (.int x1), .val (.int (1 : Int32)), .val (.int (6 : Int32))] [])) (fun t k => XS.goto X1.here hx rfl (pc0 := 17) (pc' := 5) rfl (hb hby d9_17) (by decide) (by decide) k) ?_
  refine own_step (st' := T1.setTop (mkF m 6 #[.val (.ref x0), .val (.int x1), .val (.int (1 : Int32)), .val (.int (6 : Int32))] [(.int (1 : Int32))])) (fun t k => XS.iloadN X1.here hx rfl (hb hby d9_5) rfl k) ?_
  refine own_step (st' := T1.setTop (mkF m 7 #[.val (.ref x0), .val (.int x1), .val (.int (1 : Int32)), .val (.int (6 : Int32))] [(.int (6 : Int32)), (.int (1 : Int32))])) (fun t k => XS.iloadN X1.here hx rfl (hb hby d9_6) rfl k) ?_
  refine own_step (st' := T1.setTop (mkF m 10 #[.val (.ref x0), .val (.int x1), .val (.int (1 : Int32)), .val (.int (6 : Int32))] [])) (fun t k => XS.icmpNo X1.here hx rfl (hb hby d9_7) rfl (tlt (by decide)).2.1 k) ?_
  refine own_step (st' := T1.setTop (mkF m 11 #[.val (.ref x0), .val (.int x1), .val (.int (1 : Int32)), .val (.int (6 : Int32))] [(.ref x0)])) (fun t k => XS.aloadN X1.here hx rfl (hb hby d9_10) rfl rfl k) ?_
  refine own_step (st' := T1.setTop (mkF m 12 #[.val (.ref x0), .val (.int x1), .val (.int (1 : Int32)), .val (.int (6 : Int32))] [(.int (1 : Int32)), (.ref x0)])) (fun t k => XS.iloadN X1.here hx rfl (hb hby d9_11) rfl k) ?_
  refine own_step (st' := T1.setTop (mkF m 13 #[.val (.ref x0), .val (.int x1), .val (.int (1 : Int32)), .val (.int (6 : Int32))] [(.int x1), (.int (1 : Int32)), (.ref x0)])) (fun t k => XS.iloadN X1.here hx rfl (hb hby d9_12) rfl k) ?_
  obtain ⟨L7, hL7, rL7⟩ := own_bind rL2
  clear rL2
  obtain ⟨T6, h6, X6, e6, W6, V6, st6⟩ := own_stI X1 hx hZ e1 V1 (j := (1 : Int32)) (i := (1 : Int32).toNatClampNeg) (own_pt hL7).1 rfl (own_pt hL7).2.1 (g := (mkF m 13 #[.val (.ref x0), .val (.int x1), .val (.int (1 : Int32)), .val (.int (6 : Int32))] [(.int x1), (.int (1 : Int32)), (.ref x0)])) rfl rfl (hb hby d9_13)
  have V6 : Arv Z h6 x0 k0 .int (6 : Int32) ((L2.map Value.int).set (1 : Int32).toNatClampNeg (.int x1)) (.int (0 : Int32)) := V6
  rw [(own_pt hL7).2.2] at V6
  have K8 : Keep h0 h6 [x0] := K3.wr W6 (Or.inl (List.mem_of_getElem? (i := 0) rfl))
  have Z9 : n0 ≤ h6.size := Nat.le_trans Z4 (Keep.of_wr W6).1
  have N10 := Fr.snoc X6 N5 p_1
  refine own_step (st' := T6.setTop (mkF m 14 #[.val (.ref x0), .val (.int x1), .val (.int (1 : Int32)), .val (.int (6 : Int32))] [])) st6 ?_
  refine own_step (st' := T6.setTop (mkF m 17 #[.val (.ref x0), .val (.int x1), .val (.int (2 : Int32)), .val (.int (6 : Int32))] [])) (fun t k => XS.iinc X6.here hx rfl (hb hby d9_14) rfl (l' := #[.val (.ref x0), .val (.int x1), .val (.int (2 : Int32)), .val (.int (6 : Int32))]) rfl k) ?_
  refine own_step (st' := T6.setTop (mkF m 5 #[.val (.ref x0), .val (.int x1), .val (.int (2 : Int32)), .val (.int (6 : Int32))] [])) (fun t k => XS.goto X6.here hx rfl (pc0 := 17) (pc' := 5) rfl (hb hby d9_17) (by decide) (by decide) k) ?_
  refine own_step (st' := T6.setTop (mkF m 6 #[.val (.ref x0), .val (.int x1), .val (.int (2 : Int32)), .val (.int (6 : Int32))] [(.int (2 : Int32))])) (fun t k => XS.iloadN X6.here hx rfl (hb hby d9_5) rfl k) ?_
  refine own_step (st' := T6.setTop (mkF m 7 #[.val (.ref x0), .val (.int x1), .val (.int (2 : Int32)), .val (.int (6 : Int32))] [(.int (6 : Int32)), (.int (2 : Int32))])) (fun t k => XS.iloadN X6.here hx rfl (hb hby d9_6) rfl k) ?_
  refine own_step (st' := T6.setTop (mkF m 10 #[.val (.ref x0), .val (.int x1), .val (.int (2 : Int32)), .val (.int (6 : Int32))] [])) (fun t k => XS.icmpNo X6.here hx rfl (hb hby d9_7) rfl (tlt (by decide)).2.1 k) ?_
  refine own_step (st' := T6.setTop (mkF m 11 #[.val (.ref x0), .val (.int x1), .val (.int (2 : Int32)), .val (.int (6 : Int32))] [(.ref x0)])) (fun t k => XS.aloadN X6.here hx rfl (hb hby d9_10) rfl rfl k) ?_
  refine own_step (st' := T6.setTop (mkF m 12 #[.val (.ref x0), .val (.int x1), .val (.int (2 : Int32)), .val (.int (6 : Int32))] [(.int (2 : Int32)), (.ref x0)])) (fun t k => XS.iloadN X6.here hx rfl (hb hby d9_11) rfl k) ?_
  refine own_step (st' := T6.setTop (mkF m 13 #[.val (.ref x0), .val (.int x1), .val (.int (2 : Int32)), .val (.int (6 : Int32))] [(.int x1), (.int (2 : Int32)), (.ref x0)])) (fun t k => XS.iloadN X6.here hx rfl (hb hby d9_12) rfl k) ?_
  obtain ⟨L12, hL12, rL12⟩ := own_bind rL7
  clear rL7
  obtain ⟨T11, h11, X11, e11, W11, V11, st11⟩ := own_stI X6 hx hZ e6 V6 (j := (2 : Int32)) (i := (2 : Int32).toNatClampNeg) (own_pt hL12).1 rfl (own_pt hL12).2.1 (g := (mkF m 13 #[.val (.ref x0), .val (.int x1), .val (.int (2 : Int32)), .val (.int (6 : Int32))] [(.int x1), (.int (2 : Int32)), (.ref x0)])) rfl rfl (hb hby d9_13)
  have V11 : Arv Z h11 x0 k0 .int (6 : Int32) ((L7.map Value.int).set (2 : Int32).toNatClampNeg (.int x1)) (.int (0 : Int32)) := V11
  rw [(own_pt hL12).2.2] at V11
  have K13 : Keep h0 h11 [x0] := K8.wr W11 (Or.inl (List.mem_of_getElem? (i := 0) rfl))
  have Z14 : n0 ≤ h11.size := Nat.le_trans Z9 (Keep.of_wr W11).1
  have N15 := Fr.snoc X11 N10 p_1
  refine own_step (st' := T11.setTop (mkF m 14 #[.val (.ref x0), .val (.int x1), .val (.int (2 : Int32)), .val (.int (6 : Int32))] [])) st11 ?_
  refine own_step (st' := T11.setTop (mkF m 17 #[.val (.ref x0), .val (.int x1), .val (.int (3 : Int32)), .val (.int (6 : Int32))] [])) (fun t k => XS.iinc X11.here hx rfl (hb hby d9_14) rfl (l' := #[.val (.ref x0), .val (.int x1), .val (.int (3 : Int32)), .val (.int (6 : Int32))]) rfl k) ?_
  refine own_step (st' := T11.setTop (mkF m 5 #[.val (.ref x0), .val (.int x1), .val (.int (3 : Int32)), .val (.int (6 : Int32))] [])) (fun t k => XS.goto X11.here hx rfl (pc0 := 17) (pc' := 5) rfl (hb hby d9_17) (by decide) (by decide) k) ?_
  refine own_step (st' := T11.setTop (mkF m 6 #[.val (.ref x0), .val (.int x1), .val (.int (3 : Int32)), .val (.int (6 : Int32))] [(.int (3 : Int32))])) (fun t k => XS.iloadN X11.here hx rfl (hb hby d9_5) rfl k) ?_
  refine own_step (st' := T11.setTop (mkF m 7 #[.val (.ref x0), .val (.int x1), .val (.int (3 : Int32)), .val (.int (6 : Int32))] [(.int (6 : Int32)), (.int (3 : Int32))])) (fun t k => XS.iloadN X11.here hx rfl (hb hby d9_6) rfl k) ?_
  refine own_step (st' := T11.setTop (mkF m 10 #[.val (.ref x0), .val (.int x1), .val (.int (3 : Int32)), .val (.int (6 : Int32))] [])) (fun t k => XS.icmpNo X11.here hx rfl (hb hby d9_7) rfl (tlt (by decide)).2.1 k) ?_
  refine own_step (st' := T11.setTop (mkF m 11 #[.val (.ref x0), .val (.int x1), .val (.int (3 : Int32)), .val (.int (6 : Int32))] [(.ref x0)])) (fun t k => XS.aloadN X11.here hx rfl (hb hby d9_10) rfl rfl k) ?_
  refine own_step (st' := T11.setTop (mkF m 12 #[.val (.ref x0), .val (.int x1), .val (.int (3 : Int32)), .val (.int (6 : Int32))] [(.int (3 : Int32)), (.ref x0)])) (fun t k => XS.iloadN X11.here hx rfl (hb hby d9_11) rfl k) ?_
  refine own_step (st' := T11.setTop (mkF m 13 #[.val (.ref x0), .val (.int x1), .val (.int (3 : Int32)), .val (.int (6 : Int32))] [(.int x1), (.int (3 : Int32)), (.ref x0)])) (fun t k => XS.iloadN X11.here hx rfl (hb hby d9_12) rfl k) ?_
  obtain ⟨L17, hL17, rL17⟩ := own_bind rL12
  clear rL12
  obtain ⟨T16, h16, X16, e16, W16, V16, st16⟩ := own_stI X11 hx hZ e11 V11 (j := (3 : Int32)) (i := (3 : Int32).toNatClampNeg) (own_pt hL17).1 rfl (own_pt hL17).2.1 (g := (mkF m 13 #[.val (.ref x0), .val (.int x1), .val (.int (3 : Int32)), .val (.int (6 : Int32))] [(.int x1), (.int (3 : Int32)), (.ref x0)])) rfl rfl (hb hby d9_13)
  have V16 : Arv Z h16 x0 k0 .int (6 : Int32) ((L12.map Value.int).set (3 : Int32).toNatClampNeg (.int x1)) (.int (0 : Int32)) := V16
  rw [(own_pt hL17).2.2] at V16
  have K18 : Keep h0 h16 [x0] := K13.wr W16 (Or.inl (List.mem_of_getElem? (i := 0) rfl))
  have Z19 : n0 ≤ h16.size := Nat.le_trans Z14 (Keep.of_wr W16).1
  have N20 := Fr.snoc X16 N15 p_1
  refine own_step (st' := T16.setTop (mkF m 14 #[.val (.ref x0), .val (.int x1), .val (.int (3 : Int32)), .val (.int (6 : Int32))] [])) st16 ?_
  refine own_step (st' := T16.setTop (mkF m 17 #[.val (.ref x0), .val (.int x1), .val (.int (4 : Int32)), .val (.int (6 : Int32))] [])) (fun t k => XS.iinc X16.here hx rfl (hb hby d9_14) rfl (l' := #[.val (.ref x0), .val (.int x1), .val (.int (4 : Int32)), .val (.int (6 : Int32))]) rfl k) ?_
  refine own_step (st' := T16.setTop (mkF m 5 #[.val (.ref x0), .val (.int x1), .val (.int (4 : Int32)), .val (.int (6 : Int32))] [])) (fun t k => XS.goto X16.here hx rfl (pc0 := 17) (pc' := 5) rfl (hb hby d9_17) (by decide) (by decide) k) ?_
  refine own_step (st' := T16.setTop (mkF m 6 #[.val (.ref x0), .val (.int x1), .val (.int (4 : Int32)), .val (.int (6 : Int32))] [(.int (4 : Int32))])) (fun t k => XS.iloadN X16.here hx rfl (hb hby d9_5) rfl k) ?_
  refine own_step (st' := T16.setTop (mkF m 7 #[.val (.ref x0), .val (.int x1), .val (.int (4 : Int32)), .val (.int (6 : Int32))] [(.int (6 : Int32)), (.int (4 : Int32))])) (fun t k => XS.iloadN X16.here hx rfl (hb hby d9_6) rfl k) ?_
  refine own_step (st' := T16.setTop (mkF m 10 #[.val (.ref x0), .val (.int x1), .val (.int (4 : Int32)), .val (.int (6 : Int32))] [])) (fun t k => XS.icmpNo X16.here hx rfl (hb hby d9_7) rfl (tlt (by decide)).2.1 k) ?_
  refine own_step (st' := T16.setTop (mkF m 11 #[.val (.ref x0), .val (.int x1), .val (.int (4 : Int32)), .val (.int (6 : Int32))] [(.ref x0)])) (fun t k => XS.aloadN X16.here hx rfl (hb hby d9_10) rfl rfl k) ?_
  refine own_step (st' := T16.setTop (mkF m 12 #[.val (.ref x0), .val (.int x1), .val (.int (4 : Int32)), .val (.int (6 : Int32))] [(.int (4 : Int32)), (.ref x0)])) (fun t k => XS.iloadN X16.here hx rfl (hb hby d9_11) rfl k) ?_
  refine own_step (st' := T16.setTop (mkF m 13 #[.val (.ref x0), .val (.int x1), .val (.int (4 : Int32)), .val (.int (6 : Int32))] [(.int x1), (.int (4 : Int32)), (.ref x0)])) (fun t k => XS.iloadN X16.here hx rfl (hb hby d9_12) rfl k) ?_
  obtain ⟨L22, hL22, rL22⟩ := own_bind rL17
  clear rL17
  obtain ⟨T21, h21, X21, e21, W21, V21, st21⟩ := own_stI X16 hx hZ e16 V16 (j := (4 : Int32)) (i := (4 : Int32).toNatClampNeg) (own_pt hL22).1 rfl (own_pt hL22).2.1 (g := (mkF m 13 #[.val (.ref x0), .val (.int x1), .val (.int (4 : Int32)), .val (.int (6 : Int32))] [(.int x1), (.int (4 : Int32)), (.ref x0)])) rfl rfl (hb hby d9_13)
  have V21 : Arv Z h21 x0 k0 .int (6 : Int32) ((L17.map Value.int).set (4 : Int32).toNatClampNeg (.int x1)) (.int (0 : Int32)) := V21
  rw [(own_pt hL22).2.2] at V21
  have K23 : Keep h0 h21 [x0] := K18.wr W21 (Or.inl (List.mem_of_getElem? (i := 0) rfl))
  have Z24 : n0 ≤ h21.size := Nat.le_trans Z19 (Keep.of_wr W21).1
  have N25 := Fr.snoc X21 N20 p_1
  refine own_step (st' := T21.setTop (mkF m 14 #[.val (.ref x0), .val (.int x1), .val (.int (4 : Int32)), .val (.int (6 : Int32))] [])) st21 ?_
  refine own_step (st' := T21.setTop (mkF m 17 #[.val (.ref x0), .val (.int x1), .val (.int (5 : Int32)), .val (.int (6 : Int32))] [])) (fun t k => XS.iinc X21.here hx rfl (hb hby d9_14) rfl (l' := #[.val (.ref x0), .val (.int x1), .val (.int (5 : Int32)), .val (.int (6 : Int32))]) rfl k) ?_
  refine own_step (st' := T21.setTop (mkF m 5 #[.val (.ref x0), .val (.int x1), .val (.int (5 : Int32)), .val (.int (6 : Int32))] [])) (fun t k => XS.goto X21.here hx rfl (pc0 := 17) (pc' := 5) rfl (hb hby d9_17) (by decide) (by decide) k) ?_
  refine own_step (st' := T21.setTop (mkF m 6 #[.val (.ref x0), .val (.int x1), .val (.int (5 : Int32)), .val (.int (6 : Int32))] [(.int (5 : Int32))])) (fun t k => XS.iloadN X21.here hx rfl (hb hby d9_5) rfl k) ?_
  refine own_step (st' := T21.setTop (mkF m 7 #[.val (.ref x0), .val (.int x1), .val (.int (5 : Int32)), .val (.int (6 : Int32))] [(.int (6 : Int32)), (.int (5 : Int32))])) (fun t k => XS.iloadN X21.here hx rfl (hb hby d9_6) rfl k) ?_
  refine own_step (st' := T21.setTop (mkF m 10 #[.val (.ref x0), .val (.int x1), .val (.int (5 : Int32)), .val (.int (6 : Int32))] [])) (fun t k => XS.icmpNo X21.here hx rfl (hb hby d9_7) rfl (tlt (by decide)).2.1 k) ?_
  refine own_step (st' := T21.setTop (mkF m 11 #[.val (.ref x0), .val (.int x1), .val (.int (5 : Int32)), .val (.int (6 : Int32))] [(.ref x0)])) (fun t k => XS.aloadN X21.here hx rfl (hb hby d9_10) rfl rfl k) ?_
  refine own_step (st' := T21.setTop (mkF m 12 #[.val (.ref x0), .val (.int x1), .val (.int (5 : Int32)), .val (.int (6 : Int32))] [(.int (5 : Int32)), (.ref x0)])) (fun t k => XS.iloadN X21.here hx rfl (hb hby d9_11) rfl k) ?_
  refine own_step (st' := T21.setTop (mkF m 13 #[.val (.ref x0), .val (.int x1), .val (.int (5 : Int32)), .val (.int (6 : Int32))] [(.int x1), (.int (5 : Int32)), (.ref x0)])) (fun t k => XS.iloadN X21.here hx rfl (hb hby d9_12) rfl k) ?_
  obtain ⟨L27, hL27, rL27⟩ := own_bind rL22
  clear rL22
  obtain ⟨T26, h26, X26, e26, W26, V26, st26⟩ := own_stI X21 hx hZ e21 V21 (j := (5 : Int32)) (i := (5 : Int32).toNatClampNeg) (own_pt hL27).1 rfl (own_pt hL27).2.1 (g := (mkF m 13 #[.val (.ref x0), .val (.int x1), .val (.int (5 : Int32)), .val (.int (6 : Int32))] [(.int x1), (.int (5 : Int32)), (.ref x0)])) rfl rfl (hb hby d9_13)
  have V26 : Arv Z h26 x0 k0 .int (6 : Int32) ((L22.map Value.int).set (5 : Int32).toNatClampNeg (.int x1)) (.int (0 : Int32)) := V26
  rw [(own_pt hL27).2.2] at V26
  have K28 : Keep h0 h26 [x0] := K23.wr W26 (Or.inl (List.mem_of_getElem? (i := 0) rfl))
  have Z29 : n0 ≤ h26.size := Nat.le_trans Z24 (Keep.of_wr W26).1
  have N30 := Fr.snoc X26 N25 p_1
  refine own_step (st' := T26.setTop (mkF m 14 #[.val (.ref x0), .val (.int x1), .val (.int (5 : Int32)), .val (.int (6 : Int32))] [])) st26 ?_
  refine own_step (st' := T26.setTop (mkF m 17 #[.val (.ref x0), .val (.int x1), .val (.int (6 : Int32)), .val (.int (6 : Int32))] [])) (fun t k => XS.iinc X26.here hx rfl (hb hby d9_14) rfl (l' := #[.val (.ref x0), .val (.int x1), .val (.int (6 : Int32)), .val (.int (6 : Int32))]) rfl k) ?_
  refine own_step (st' := T26.setTop (mkF m 5 #[.val (.ref x0), .val (.int x1), .val (.int (6 : Int32)), .val (.int (6 : Int32))] [])) (fun t k => XS.goto X26.here hx rfl (pc0 := 17) (pc' := 5) rfl (hb hby d9_17) (by decide) (by decide) k) ?_
  refine own_step (st' := T26.setTop (mkF m 6 #[.val (.ref x0), .val (.int x1), .val (.int (6 : Int32)), .val (.int (6 : Int32))] [(.int (6 : Int32))])) (fun t k => XS.iloadN X26.here hx rfl (hb hby d9_5) rfl k) ?_
  refine own_step (st' := T26.setTop (mkF m 7 #[.val (.ref x0), .val (.int x1), .val (.int (6 : Int32)), .val (.int (6 : Int32))] [(.int (6 : Int32)), (.int (6 : Int32))])) (fun t k => XS.iloadN X26.here hx rfl (hb hby d9_6) rfl k) ?_
  refine own_step (st' := T26.setTop (mkF m 20 #[.val (.ref x0), .val (.int x1), .val (.int (6 : Int32)), .val (.int (6 : Int32))] [])) (fun t k => XS.icmpYes X26.here hx rfl (pc0 := 7) (pc' := 20) rfl (hb hby d9_7) rfl (flt (by decide)).2.1 (by decide) (by decide) k) ?_
  refine own_ret X26 Bd.notSynchronized (none) (fun _ => rfl) (fun fs hr => X26.returnOut hx Bd.returns (hb hby d9_20) hr) ?_ (by decide) (by decide)
  rw [e26]
  have hq : some (L27) = some (Q') := rL27
  cases hq
  exact ⟨rfl, N30, K28, V26⟩
def m_tfc_f (x1 : Int32) (nC : Int32) : Nat → Nat → Int32 → Int32 → Int32 → List Int32 → List Int32 → List Int32 → List Int32 → List Int32 → Option (Int32)
  | 0, _, _, _, _, _, _, _, _, _ => none
  | f + 1, sel, i2, i3, i4, Ls0, Ls1, Ls2, Ls3, Ls4 => if sel = 0 then (if i4 < i2 then ((own_get nC Ls2 i4).bind fun z18 => (own_get (6 : Int32) Ls3 z18).bind fun z19 => (some (if i3 < ((z19 + i2) - i4) then ((z19 + i2) - i4) else i3)).bind fun u21 => m_tfc_f x1 nC f 0 i2 u21 (i4 + (1 : Int32)) Ls0 Ls1 Ls2 Ls3 Ls4) else (some (i3))) else (none)
theorem m_tfc_z (x1 : Int32) (nC : Int32) (sel : Nat) (i2 : Int32) (i3 : Int32) (i4 : Int32) (Ls0 : List Int32) (Ls1 : List Int32) (Ls2 : List Int32) (Ls3 : List Int32) (Ls4 : List Int32) : m_tfc_f x1 nC 0 sel i2 i3 i4 Ls0 Ls1 Ls2 Ls3 Ls4 = none := rfl
theorem m_tfc_19 (x1 : Int32) (nC : Int32) (f : Nat) (i2 : Int32) (i3 : Int32) (i4 : Int32) (Ls0 : List Int32) (Ls1 : List Int32) (Ls2 : List Int32) (Ls3 : List Int32) (Ls4 : List Int32) : m_tfc_f x1 nC (f + 1) 0 i2 i3 i4 Ls0 Ls1 Ls2 Ls3 Ls4 = (if i4 < i2 then ((own_get nC Ls2 i4).bind fun z18 => (own_get (6 : Int32) Ls3 z18).bind fun z19 => (some (if i3 < ((z19 + i2) - i4) then ((z19 + i2) - i4) else i3)).bind fun u21 => m_tfc_f x1 nC f 0 i2 u21 (i4 + (1 : Int32)) Ls0 Ls1 Ls2 Ls3 Ls4) else (some (i3))) := rfl
def m_tfc (x1 : Int32) (nC : Int32) (P : List Int32) (S : List Int32) (C : List Int32) (T : List Int32) (F : List Int32) : Option (Int32) := (own_get (7 : Int32) S (x1 + (1 : Int32))).bind fun z2 => (own_get (7 : Int32) S x1).bind fun z24 => m_tfc_f x1 nC 40 0 z2 (0 : Int32) z24 P S C T F
theorem d10_0 : decode prog_35_method_12_code 0 = .ok (.aload_n 0, 1) := by decide +kernel
theorem d10_1 : decode prog_35_method_12_code 1 = .ok (.getfield 13, 3) := by decide +kernel
theorem d10_4 : decode prog_35_method_12_code 4 = .ok (.iload_n 1, 1) := by decide +kernel
theorem d10_5 : decode prog_35_method_12_code 5 = .ok (.iconst 1, 1) := by decide +kernel
theorem d10_6 : decode prog_35_method_12_code 6 = .ok (.iadd, 1) := by decide +kernel
theorem d10_7 : decode prog_35_method_12_code 7 = .ok (.iaload, 1) := by decide +kernel
theorem d10_8 : decode prog_35_method_12_code 8 = .ok (.istore_n 2, 1) := by decide +kernel
theorem d10_9 : decode prog_35_method_12_code 9 = .ok (.iconst 0, 1) := by decide +kernel
theorem d10_10 : decode prog_35_method_12_code 10 = .ok (.istore_n 3, 1) := by decide +kernel
theorem d10_11 : decode prog_35_method_12_code 11 = .ok (.aload_n 0, 1) := by decide +kernel
theorem d10_12 : decode prog_35_method_12_code 12 = .ok (.getfield 13, 3) := by decide +kernel
theorem d10_15 : decode prog_35_method_12_code 15 = .ok (.iload_n 1, 1) := by decide +kernel
theorem d10_16 : decode prog_35_method_12_code 16 = .ok (.iaload, 1) := by decide +kernel
theorem d10_17 : decode prog_35_method_12_code 17 = .ok (.istore 4, 2) := by decide +kernel
theorem d10_19 : decode prog_35_method_12_code 19 = .ok (.iload 4, 2) := by decide +kernel
theorem d10_21 : decode prog_35_method_12_code 21 = .ok (.iload_n 2, 1) := by decide +kernel
theorem d10_22 : decode prog_35_method_12_code 22 = .ok (.if_icmp .ge 31, 3) := by decide +kernel
theorem d10_25 : decode prog_35_method_12_code 25 = .ok (.iload_n 3, 1) := by decide +kernel
theorem d10_26 : decode prog_35_method_12_code 26 = .ok (.aload_n 0, 1) := by decide +kernel
theorem d10_27 : decode prog_35_method_12_code 27 = .ok (.getfield 19, 3) := by decide +kernel
theorem d10_30 : decode prog_35_method_12_code 30 = .ok (.aload_n 0, 1) := by decide +kernel
theorem d10_31 : decode prog_35_method_12_code 31 = .ok (.getfield 16, 3) := by decide +kernel
theorem d10_34 : decode prog_35_method_12_code 34 = .ok (.iload 4, 2) := by decide +kernel
theorem d10_36 : decode prog_35_method_12_code 36 = .ok (.iaload, 1) := by decide +kernel
theorem d10_37 : decode prog_35_method_12_code 37 = .ok (.iaload, 1) := by decide +kernel
theorem d10_38 : decode prog_35_method_12_code 38 = .ok (.iload_n 2, 1) := by decide +kernel
theorem d10_39 : decode prog_35_method_12_code 39 = .ok (.iadd, 1) := by decide +kernel
theorem d10_40 : decode prog_35_method_12_code 40 = .ok (.iload 4, 2) := by decide +kernel
theorem d10_42 : decode prog_35_method_12_code 42 = .ok (.isub, 1) := by decide +kernel
theorem d10_43 : decode prog_35_method_12_code 43 = .ok (.invokestatic 137, 3) := by decide +kernel
theorem d10_46 : decode prog_35_method_12_code 46 = .ok (.istore_n 3, 1) := by decide +kernel
theorem d10_47 : decode prog_35_method_12_code 47 = .ok (.iinc 4 1, 3) := by decide +kernel
theorem d10_50 : decode prog_35_method_12_code 50 = .ok (.goto (-31), 3) := by decide +kernel
theorem d10_53 : decode prog_35_method_12_code 53 = .ok (.iload_n 3, 1) := by decide +kernel
theorem d10_54 : decode prog_35_method_12_code 54 = .ok (.ireturn, 1) := by decide +kernel
theorem pn_0 : plainName "com/example/rumorwire/rumorwire/TreeSolver" = true := by first | (simp [plainName, overriddenIn]; done) | decide +kernel
theorem ef_10_RI (m : MethodId) (x0 : Addr) (x1 : Int32) : entryFrame m #[(.ref x0), (.int x1)] 5 = mkF m 0 #[.val (.ref x0), .val (.int x1), .unset, .unset, .unset] [] := by first | (simp [entryFrame, mkF, argsToLocals, Value.category]; done) | rfl
def Q_rm10 (Z : State) (x0 : Addr) (x1 : Int32) (bP : Addr) (bS : Addr) (bC : Addr) (bT : Addr) (bF : Addr) (kP : ClassId) (kS : ClassId) (kC : ClassId) (kT : ClassId) (kF : ClassId) (nC : Int32) (P : List Int32) (S : List Int32) (C : List Int32) (T : List Int32) (F : List Int32) (r : Int32) (h0 : Heap) (n0 : Nat) (v : Option Value) (h : Heap) (L : List Loc) : Prop := v = some (.int r) ∧ Fr n0 L ∧ h = h0
set_option maxRecDepth 65536 in
set_option maxHeartbeats 40000000 in
theorem rm10 (l : Launch) (Z : State) (a0 : Array Value) (hw : ∀ d ∈ tables_1, d.before a0 Z = true) (ws : List Jvm.Cond) (x0 : Addr) (x1 : Int32) (bP : Addr) (bS : Addr) (bC : Addr) (bT : Addr) (bF : Addr) (kP : ClassId) (kS : ClassId) (kC : ClassId) (kT : ClassId) (kF : ClassId) (nC : Int32) (P : List Int32) (S : List Int32) (C : List Int32) (T : List Int32) (F : List Int32) (r : Int32) (h0 : Heap) (n0 : Nat) (Z0 : n0 ≤ h0.size) (p_0 : Fld Z h0 x0 "com/example/rumorwire/rumorwire/TreeSolver" "parent" "[I" (.ref bP)) (p_1 : Fld Z h0 x0 "com/example/rumorwire/rumorwire/TreeSolver" "childStart" "[I" (.ref bS)) (p_2 : Fld Z h0 x0 "com/example/rumorwire/rumorwire/TreeSolver" "children" "[I" (.ref bC)) (p_3 : Fld Z h0 x0 "com/example/rumorwire/rumorwire/TreeSolver" "time" "[I" (.ref bT)) (p_4 : Fld Z h0 x0 "com/example/rumorwire/rumorwire/TreeSolver" "finished" "[I" (.ref bF)) (p_5 : Arv Z h0 bP kP .int (6 : Int32) (P.map Value.int) (.int (0 : Int32))) (p_6 : Arv Z h0 bS kS .int (7 : Int32) (S.map Value.int) (.int (0 : Int32))) (p_7 : Arv Z h0 bC kC .int nC (C.map Value.int) (.int (0 : Int32))) (p_8 : Arv Z h0 bT kT .int (6 : Int32) (T.map Value.int) (.int (0 : Int32))) (p_9 : Arv Z h0 bF kF .int (6 : Int32) (F.map Value.int) (.int (0 : Int32))) (p_10 : m_tfc x1 nC P S C T F = some (r)) :
    MetFree l (⟨"com/example/rumorwire/rumorwire/TreeSolver", "timeFromChildren", "(I)I"⟩ : MethodName) (head1 (Jvm.Cond.code (⟨"com/example/rumorwire/rumorwire/TreeSolver", "timeFromChildren", "(I)I"⟩ : MethodName) prog_35_method_12_code 5 (some .int) :: ws) ({ frames := 1, cells := 0, slots := 0, locals := 13 } : Room)) (fun a U => a = #[(.ref x0), (.int x1)] ∧ Z.Warmed39 U.vm ∧ U.heap = h0) (fun _ _ _ _ _ => True) (fun _ U o U' => ∃ v L, o = .returned v ∧ Q_rm10 Z x0 x1 bP bS bC bT bF kP kS kC kT kF nC P S C T F r h0 n0 v U'.heap L ∧ FrameEnd U o U' L ({ frames := 1, cells := 0, slots := 0, locals := 13 } : Room).cells ({ frames := 1, cells := 0, slots := 0, locals := 13 } : Room).slots) := by
  refine MetFree.of_bodySF (plainFor_of_name pn_0) hisR ?_
  intro p e s m args below meth c s₁ Bd hml0 hP hK
  obtain ⟨rfl, hZ, hh⟩ := hP
  have hx := Bd.exec
  have hby := Bd.bytes
  have hml : c.maxLocals = 5 := hml0
  have hown : s.vm.findClass "com/example/rumorwire/rumorwire/TreeSolver" = some m.cls := findClass_of_methodNamed Bd.named
  have hnm := (name_of_methodNamed Bd.named Bd.method).1
  have X0 : Stand p l e ({ frames := 1, cells := 0, slots := 0, locals := 13 } : Room) s m #[(.ref x0), (.int x1)] below meth c s₁ [] 0 0 := Stand.of_body Bd
  have e0 : s₁.heap = h0 := by rw [← hh, Bd.state]; rfl
  have N0 := Fr.nil n0
  show own_Ends p e below s ({ frames := 1, cells := 0, slots := 0, locals := 13 } : Room).cells ({ frames := 1, cells := 0, slots := 0, locals := 13 } : Room).slots (Q_rm10 Z x0 x1 bP bS bC bT bF kP kS kC kT kF nC P S C T F r h0 n0) (s₁.setTop (entryFrame m #[(.ref x0), (.int x1)] 5))
  rw [ef_10_RI]
  refine own_step (st' := s₁.setTop (mkF m 1 #[.val (.ref x0), .val (.int x1), .unset, .unset, .unset] [(.ref x0)])) (fun t k => XS.aloadN X0.here hx rfl (hb hby d10_0) rfl rfl k) ?_
  obtain ⟨T1, X1, e1, st1⟩ := getF X0 hx hZ hown (host := "") (Or.inl (hw _ (List.mem_of_getElem? (i := 30) rfl))) Via.refl e0 p_1 (g := (mkF m 1 #[.val (.ref x0), .val (.int x1), .unset, .unset, .unset] [(.ref x0)])) rfl rfl (hb hby d10_1)
  refine own_step (st' := T1.setTop (mkF m 4 #[.val (.ref x0), .val (.int x1), .unset, .unset, .unset] [(.ref bS)])) st1 ?_
  refine own_step (st' := T1.setTop (mkF m 5 #[.val (.ref x0), .val (.int x1), .unset, .unset, .unset] [(.int x1), (.ref bS)])) (fun t k => XS.iloadN X1.here hx rfl (hb hby d10_4) rfl k) ?_
  refine own_step (st' := T1.setTop (mkF m 6 #[.val (.ref x0), .val (.int x1), .unset, .unset, .unset] [(.int (1 : Int32)), (.int x1), (.ref bS)])) (fun t k => XS.iconst X1.here hx rfl (hb hby d10_5) k) ?_
  refine own_step (st' := T1.setTop (mkF m 7 #[.val (.ref x0), .val (.int x1), .unset, .unset, .unset] [(.int (x1 + (1 : Int32))), (.ref bS)])) (fun t k => XS.iadd X1.here hx rfl (hb hby d10_6) rfl k) ?_
  obtain ⟨z2, hz2, rz2⟩ := own_bind p_10
  clear p_10
  refine own_step (st' := T1.setTop (mkF m 8 #[.val (.ref x0), .val (.int x1), .unset, .unset, .unset] [(.int z2)])) (fun t k => own_ldI X1 hx hZ e1 p_6 (j := (x1 + (1 : Int32))) (v := (.int z2)) (own_gd hz2).1 (own_gd hz2).2 (g := (mkF m 7 #[.val (.ref x0), .val (.int x1), .unset, .unset, .unset] [(.int (x1 + (1 : Int32))), (.ref bS)])) rfl rfl (hb hby d10_7) t k) ?_
  refine own_step (st' := T1.setTop (mkF m 9 #[.val (.ref x0), .val (.int x1), .val (.int z2), .unset, .unset] [])) (fun t k => XS.istoreN X1.here hx rfl (hb hby d10_8) rfl (l' := #[.val (.ref x0), .val (.int x1), .val (.int z2), .unset, .unset]) rfl k) ?_
  have J3 : ∀ (k3 : Nat) (T3 : State) (h3 : Heap) (lc3 : List Loc) (i2 : Int32) (i3 : Int32) (i4 : Int32) (Ls0 : List Int32) (Ls1 : List Int32) (Ls2 : List Int32) (Ls3 : List Int32) (Ls4 : List Int32) (X3 : Stand p l e ({ frames := 1, cells := 0, slots := 0, locals := 13 } : Room) s m #[(.ref x0), (.int x1)] below meth c T3 lc3 0 0) (e3 : T3.heap = h3) (N3 : Fr n0 lc3) (Z3 : n0 ≤ h3.size) (f4 : Fld Z h3 x0 "com/example/rumorwire/rumorwire/TreeSolver" "parent" "[I" (.ref bP)) (f5 : Fld Z h3 x0 "com/example/rumorwire/rumorwire/TreeSolver" "childStart" "[I" (.ref bS)) (f6 : Fld Z h3 x0 "com/example/rumorwire/rumorwire/TreeSolver" "children" "[I" (.ref bC)) (f7 : Fld Z h3 x0 "com/example/rumorwire/rumorwire/TreeSolver" "time" "[I" (.ref bT)) (f8 : Fld Z h3 x0 "com/example/rumorwire/rumorwire/TreeSolver" "finished" "[I" (.ref bF)) (f9 : Arv Z h3 bP kP .int (6 : Int32) (Ls0.map Value.int) (.int (0 : Int32))) (f10 : Arv Z h3 bS kS .int (7 : Int32) (Ls1.map Value.int) (.int (0 : Int32))) (f11 : Arv Z h3 bC kC .int nC (Ls2.map Value.int) (.int (0 : Int32))) (f12 : Arv Z h3 bT kT .int (6 : Int32) (Ls3.map Value.int) (.int (0 : Int32))) (f13 : Arv Z h3 bF kF .int (6 : Int32) (Ls4.map Value.int) (.int (0 : Int32))) (K3 : Keep h0 h3 []) (pu3 : h3 = h0) (hr : m_tfc_f x1 nC k3 0 i2 i3 i4 Ls0 Ls1 Ls2 Ls3 Ls4 = some (r)), own_Ends p e below s ({ frames := 1, cells := 0, slots := 0, locals := 13 } : Room).cells ({ frames := 1, cells := 0, slots := 0, locals := 13 } : Room).slots (Q_rm10 Z x0 x1 bP bS bC bT bF kP kS kC kT kF nC P S C T F r h0 n0) (T3.setTop (mkF m 19 #[.val (.ref x0), .val (.int x1), .val (.int i2), .val (.int i3), .val (.int i4)] [])) := by
    intro k3
    induction k3 using Nat.strongRecOn with
    | _ k3 ih3 =>
      intro T3 h3 lc3 i2 i3 i4 Ls0 Ls1 Ls2 Ls3 Ls4 X3 e3 N3 Z3 f4 f5 f6 f7 f8 f9 f10 f11 f12 f13 K3 pu3 hr
      obtain ⟨fu3, rfl⟩ : ∃ f, k3 = f + 1 := by
        cases k3 with
        | zero => rw [m_tfc_z] at hr; cases hr
        | succ f => exact ⟨f, rfl⟩
      rw [m_tfc_19] at hr
      refine own_step (st' := T3.setTop (mkF m 21 #[.val (.ref x0), .val (.int x1), .val (.int i2), .val (.int i3), .val (.int i4)] [(.int i4)])) (fun t k => XS.iload X3.here hx rfl (hb hby d10_19) rfl k) ?_
      refine own_step (st' := T3.setTop (mkF m 22 #[.val (.ref x0), .val (.int x1), .val (.int i2), .val (.int i3), .val (.int i4)] [(.int i2), (.int i4)])) (fun t k => XS.iloadN X3.here hx rfl (hb hby d10_21) rfl k) ?_
      by_cases hc14 : i4 < i2
      · have r15 := own_if1 hc14 hr
        clear hr
        refine own_step (st' := T3.setTop (mkF m 25 #[.val (.ref x0), .val (.int x1), .val (.int i2), .val (.int i3), .val (.int i4)] [])) (fun t k => XS.icmpNo X3.here hx rfl (hb hby d10_22) rfl (tlt hc14).2.1 k) ?_
        refine own_step (st' := T3.setTop (mkF m 26 #[.val (.ref x0), .val (.int x1), .val (.int i2), .val (.int i3), .val (.int i4)] [(.int i3)])) (fun t k => XS.iloadN X3.here hx rfl (hb hby d10_25) rfl k) ?_
        refine own_step (st' := T3.setTop (mkF m 27 #[.val (.ref x0), .val (.int x1), .val (.int i2), .val (.int i3), .val (.int i4)] [(.ref x0), (.int i3)])) (fun t k => XS.aloadN X3.here hx rfl (hb hby d10_26) rfl rfl k) ?_
        obtain ⟨T16, X16, e16, st16⟩ := getF X3 hx hZ hown (host := "") (Or.inl (hw _ (List.mem_of_getElem? (i := 34) rfl))) Via.refl e3 f7 (g := (mkF m 27 #[.val (.ref x0), .val (.int x1), .val (.int i2), .val (.int i3), .val (.int i4)] [(.ref x0), (.int i3)])) rfl rfl (hb hby d10_27)
        refine own_step (st' := T16.setTop (mkF m 30 #[.val (.ref x0), .val (.int x1), .val (.int i2), .val (.int i3), .val (.int i4)] [(.ref bT), (.int i3)])) st16 ?_
        refine own_step (st' := T16.setTop (mkF m 31 #[.val (.ref x0), .val (.int x1), .val (.int i2), .val (.int i3), .val (.int i4)] [(.ref x0), (.ref bT), (.int i3)])) (fun t k => XS.aloadN X16.here hx rfl (hb hby d10_30) rfl rfl k) ?_
        obtain ⟨T17, X17, e17, st17⟩ := getF X16 hx hZ hown (host := "") (Or.inl (hw _ (List.mem_of_getElem? (i := 32) rfl))) Via.refl e16 f6 (g := (mkF m 31 #[.val (.ref x0), .val (.int x1), .val (.int i2), .val (.int i3), .val (.int i4)] [(.ref x0), (.ref bT), (.int i3)])) rfl rfl (hb hby d10_31)
        refine own_step (st' := T17.setTop (mkF m 34 #[.val (.ref x0), .val (.int x1), .val (.int i2), .val (.int i3), .val (.int i4)] [(.ref bC), (.ref bT), (.int i3)])) st17 ?_
        refine own_step (st' := T17.setTop (mkF m 36 #[.val (.ref x0), .val (.int x1), .val (.int i2), .val (.int i3), .val (.int i4)] [(.int i4), (.ref bC), (.ref bT), (.int i3)])) (fun t k => XS.iload X17.here hx rfl (hb hby d10_34) rfl k) ?_
        obtain ⟨z18, hz18, rz18⟩ := own_bind r15
        clear r15
        refine own_step (st' := T17.setTop (mkF m 37 #[.val (.ref x0), .val (.int x1), .val (.int i2), .val (.int i3), .val (.int i4)] [(.int z18), (.ref bT), (.int i3)])) (fun t k => own_ldI X17 hx hZ e17 f11 (j := i4) (v := (.int z18)) (own_gd hz18).1 (own_gd hz18).2 (g := (mkF m 36 #[.val (.ref x0), .val (.int x1), .val (.int i2), .val (.int i3), .val (.int i4)] [(.int i4), (.ref bC), (.ref bT), (.int i3)])) rfl rfl (hb hby d10_36) t k) ?_
        obtain ⟨z19, hz19, rz19⟩ := own_bind rz18
        clear rz18
        refine own_step (st' := T17.setTop (mkF m 38 #[.val (.ref x0), .val (.int x1), .val (.int i2), .val (.int i3), .val (.int i4)] [(.int z19), (.int i3)])) (fun t k => own_ldI X17 hx hZ e17 f12 (j := z18) (v := (.int z19)) (own_gd hz19).1 (own_gd hz19).2 (g := (mkF m 37 #[.val (.ref x0), .val (.int x1), .val (.int i2), .val (.int i3), .val (.int i4)] [(.int z18), (.ref bT), (.int i3)])) rfl rfl (hb hby d10_37) t k) ?_
        refine own_step (st' := T17.setTop (mkF m 39 #[.val (.ref x0), .val (.int x1), .val (.int i2), .val (.int i3), .val (.int i4)] [(.int i2), (.int z19), (.int i3)])) (fun t k => XS.iloadN X17.here hx rfl (hb hby d10_38) rfl k) ?_
        refine own_step (st' := T17.setTop (mkF m 40 #[.val (.ref x0), .val (.int x1), .val (.int i2), .val (.int i3), .val (.int i4)] [(.int (z19 + i2)), (.int i3)])) (fun t k => XS.iadd X17.here hx rfl (hb hby d10_39) rfl k) ?_
        refine own_step (st' := T17.setTop (mkF m 42 #[.val (.ref x0), .val (.int x1), .val (.int i2), .val (.int i3), .val (.int i4)] [(.int i4), (.int (z19 + i2)), (.int i3)])) (fun t k => XS.iload X17.here hx rfl (hb hby d10_40) rfl k) ?_
        refine own_step (st' := T17.setTop (mkF m 43 #[.val (.ref x0), .val (.int x1), .val (.int i2), .val (.int i3), .val (.int i4)] [(.int ((z19 + i2) - i4)), (.int i3)])) (fun t k => XS.isub X17.here hx rfl (hb hby d10_42) rfl k) ?_
        obtain ⟨_, _, ⟨T20, L20, k20, n20⟩, -, X20, ⟨Lc20, hQ20, l20, y20, z20⟩, st20⟩ := Jvm.LawKit.callS X17 hx (y := (⟨"java/lang/Math", "max", "(II)I"⟩ : MethodName)) hown (mvT hZ (hw _ (List.mem_of_getElem? (i := 50) rfl))) (mvT hZ (hw _ (List.mem_of_getElem? (i := 10) rfl))) (mvT hZ (hw _ (List.mem_of_getElem? (i := 11) rfl))) (mvT hZ (hw _ (List.mem_of_getElem? (i := 12) rfl))) (by decide) (backOf (W := 0) (rm3 l Z a0 hw [] i3 ((z19 + i2) - i4) h3 n0 Z3) hZ (hw _ (List.mem_of_getElem? (i := 12) rfl)) (hw _ (List.mem_of_getElem? (i := 11) rfl)) (by decide) (by decide)) (g := (mkF m 43 #[.val (.ref x0), .val (.int x1), .val (.int i2), .val (.int i3), .val (.int i4)] [(.int ((z19 + i2) - i4)), (.int i3)])) rfl (by rw [hml]; rfl) (argsL := [(.int i3), (.int ((z19 + i2) - i4))]) (rest := []) (lenOf pd_2 rfl) rfl (by show 2 * 0 + _ ≤ _; exact Nat.le_of_eq rfl) (hb hby d10_43) (fun _ _ => ⟨rfl, e17, (by decide : 0 + 0 ≤ _), (by decide : 0 + 0 ≤ _)⟩)
        dsimp only [Pt.U, Pt.locs, Pt.cells, Pt.slots] at X20 l20 y20 z20 st20 hQ20
        subst y20 z20
        obtain ⟨rfl, N20q, e20⟩ := hQ20
        have N20 := Fr.app N3 N20q
        rw [← l20] at N20
        clear l20
        refine own_step (st' := T20.setTop (mkF m 46 #[.val (.ref x0), .val (.int x1), .val (.int i2), .val (.int i3), .val (.int i4)] [(.int (if i3 < ((z19 + i2) - i4) then ((z19 + i2) - i4) else i3))])) st20 ?_
        obtain ⟨u21, hu21, ru21⟩ := own_bind rz19
        clear rz19
        have gu21 : (if i3 < ((z19 + i2) - i4) then ((z19 + i2) - i4) else i3) = u21 := Option.some.inj hu21
        rw [gu21]
        refine own_step (st' := T20.setTop (mkF m 47 #[.val (.ref x0), .val (.int x1), .val (.int i2), .val (.int u21), .val (.int i4)] [])) (fun t k => XS.istoreN X20.here hx rfl (hb hby d10_46) rfl (l' := #[.val (.ref x0), .val (.int x1), .val (.int i2), .val (.int u21), .val (.int i4)]) rfl k) ?_
        refine own_step (st' := T20.setTop (mkF m 50 #[.val (.ref x0), .val (.int x1), .val (.int i2), .val (.int u21), .val (.int (i4 + (1 : Int32)))] [])) (fun t k => XS.iinc X20.here hx rfl (hb hby d10_47) rfl (l' := #[.val (.ref x0), .val (.int x1), .val (.int i2), .val (.int u21), .val (.int (i4 + (1 : Int32)))]) rfl k) ?_
        refine own_step (st' := T20.setTop (mkF m 19 #[.val (.ref x0), .val (.int x1), .val (.int i2), .val (.int u21), .val (.int (i4 + (1 : Int32)))] [])) (fun t k => XS.goto X20.here hx rfl (pc0 := 50) (pc' := 19) rfl (hb hby d10_50) (by decide) (by decide) k) ?_
        exact ih3 fu3 (by omega) _ _ _ i2 u21 (i4 + (1 : Int32)) Ls0 Ls1 Ls2 Ls3 Ls4 X20 e20 N20 Z3 f4 f5 f6 f7 f8 f9 f10 f11 f12 f13 K3 pu3 ru21
      · have r22 := own_if0 hc14 hr
        clear hr
        refine own_step (st' := T3.setTop (mkF m 53 #[.val (.ref x0), .val (.int x1), .val (.int i2), .val (.int i3), .val (.int i4)] [])) (fun t k => XS.icmpYes X3.here hx rfl (pc0 := 22) (pc' := 53) rfl (hb hby d10_22) rfl (flt hc14).2.1 (by decide) (by decide) k) ?_
        refine own_step (st' := T3.setTop (mkF m 54 #[.val (.ref x0), .val (.int x1), .val (.int i2), .val (.int i3), .val (.int i4)] [(.int i3)])) (fun t k => XS.iloadN X3.here hx rfl (hb hby d10_53) rfl k) ?_
        refine own_ret X3 Bd.notSynchronized (some (.int i3)) (fun h => by rw [Bd.returns] at h; cases h) (fun fs hr => own_retI X3 hx Bd.returns (hb hby d10_54) hr) ?_ (by decide) (by decide)
        rw [e3]
        have hq : some (i3) = some (r) := r22
        cases hq
        exact ⟨(by first | rfl | (simp only [if_neg hc14]; done) | (simp only [if_neg hc14]; rfl)), N3, pu3⟩
  refine own_step (st' := T1.setTop (mkF m 10 #[.val (.ref x0), .val (.int x1), .val (.int z2), .unset, .unset] [(.int (0 : Int32))])) (fun t k => XS.iconst X1.here hx rfl (hb hby d10_9) k) ?_
  refine own_step (st' := T1.setTop (mkF m 11 #[.val (.ref x0), .val (.int x1), .val (.int z2), .val (.int (0 : Int32)), .unset] [])) (fun t k => XS.istoreN X1.here hx rfl (hb hby d10_10) rfl (l' := #[.val (.ref x0), .val (.int x1), .val (.int z2), .val (.int (0 : Int32)), .unset]) rfl k) ?_
  refine own_step (st' := T1.setTop (mkF m 12 #[.val (.ref x0), .val (.int x1), .val (.int z2), .val (.int (0 : Int32)), .unset] [(.ref x0)])) (fun t k => XS.aloadN X1.here hx rfl (hb hby d10_11) rfl rfl k) ?_
  obtain ⟨T23, X23, e23, st23⟩ := getF X1 hx hZ hown (host := "") (Or.inl (hw _ (List.mem_of_getElem? (i := 30) rfl))) Via.refl e1 p_1 (g := (mkF m 12 #[.val (.ref x0), .val (.int x1), .val (.int z2), .val (.int (0 : Int32)), .unset] [(.ref x0)])) rfl rfl (hb hby d10_12)
  refine own_step (st' := T23.setTop (mkF m 15 #[.val (.ref x0), .val (.int x1), .val (.int z2), .val (.int (0 : Int32)), .unset] [(.ref bS)])) st23 ?_
  refine own_step (st' := T23.setTop (mkF m 16 #[.val (.ref x0), .val (.int x1), .val (.int z2), .val (.int (0 : Int32)), .unset] [(.int x1), (.ref bS)])) (fun t k => XS.iloadN X23.here hx rfl (hb hby d10_15) rfl k) ?_
  obtain ⟨z24, hz24, rz24⟩ := own_bind rz2
  clear rz2
  refine own_step (st' := T23.setTop (mkF m 17 #[.val (.ref x0), .val (.int x1), .val (.int z2), .val (.int (0 : Int32)), .unset] [(.int z24)])) (fun t k => own_ldI X23 hx hZ e23 p_6 (j := x1) (v := (.int z24)) (own_gd hz24).1 (own_gd hz24).2 (g := (mkF m 16 #[.val (.ref x0), .val (.int x1), .val (.int z2), .val (.int (0 : Int32)), .unset] [(.int x1), (.ref bS)])) rfl rfl (hb hby d10_16) t k) ?_
  refine own_step (st' := T23.setTop (mkF m 19 #[.val (.ref x0), .val (.int x1), .val (.int z2), .val (.int (0 : Int32)), .val (.int z24)] [])) (fun t k => XS.istore X23.here hx rfl (hb hby d10_17) rfl (l' := #[.val (.ref x0), .val (.int x1), .val (.int z2), .val (.int (0 : Int32)), .val (.int z24)]) rfl k) ?_
  exact J3 _ _ _ _ z2 (0 : Int32) z24 P S C T F X23 e23 N0 Z0 p_0 p_1 p_2 p_3 p_4 p_5 p_6 p_7 p_8 p_9 (Keep.refl h0 []) rfl rz24
def m_fin_f (nC : Int32) : Nat → Nat → Int32 → Int32 → Int32 → List Int32 → List Int32 → List Int32 → List Int32 → List Int32 → List Int32 → List Int32 → List Int32 → Option (List Int32 × List Int32 × List Int32)
  | 0, _, _, _, _, _, _, _, _, _, _, _, _ => none
  | f + 1, sel, i5, i6, i7, Ls0, Ls1, Ls2, Ls3, Ls4, Ls5, Ls6, Ls7 => if sel = 0 then (if i5 < (6 : Int32) then ((own_get (7 : Int32) Ls1 i5).bind fun z293 => (own_get (7 : Int32) Ls1 (i5 + (1 : Int32))).bind fun z295 => if z293 = z295 then ((own_get (6 : Int32) Ls7 (0 : Int32)).bind fun z298 => (own_put (6 : Int32) Ls5 i5 z298).bind fun L300 => (own_put (6 : Int32) Ls7 (0 : Int32) i5).bind fun L318 => m_fin_f nC f 0 (i5 + (1 : Int32)) (0 : Int32) (0 : Int32) Ls0 Ls1 Ls2 Ls3 Ls4 L300 Ls6 L318) else (m_fin_f nC f 0 (i5 + (1 : Int32)) (0 : Int32) (0 : Int32) Ls0 Ls1 Ls2 Ls3 Ls4 Ls5 Ls6 Ls7)) else (m_fin_f nC f 1 (0 : Int32) (0 : Int32) (0 : Int32) Ls0 Ls1 Ls2 Ls3 Ls4 Ls5 Ls6 Ls7)) else (if sel = 1 then (if i5 < (6 : Int32) then ((own_get (6 : Int32) Ls7 i6).bind fun z273 => m_fin_f nC f 2 i5 i6 z273 Ls0 Ls1 Ls2 Ls3 Ls4 Ls5 Ls6 Ls7) else (some (Ls2, Ls3, Ls4))) else (if sel = 2 then (if i7 < (0 : Int32) then (m_fin_f nC f 1 i5 (i6 + (1 : Int32)) (0 : Int32) Ls0 Ls1 Ls2 Ls3 Ls4 Ls5 Ls6 Ls7) else ((own_put (6 : Int32) Ls4 i5 i7).bind fun L139 => (own_get (6 : Int32) Ls0 i7).bind fun z157 => if z157 < (0 : Int32) then (m_fin_f nC f 3 (i5 + (1 : Int32)) i6 i7 Ls0 Ls1 Ls2 Ls3 L139 Ls5 Ls6 Ls7) else ((own_get (7 : Int32) Ls1 z157).bind fun z163 => (own_get (6 : Int32) Ls6 z157).bind fun z164 => (own_put (6 : Int32) Ls6 z157 (z164 + (1 : Int32))).bind fun L166 => (own_put nC Ls2 (z163 + z164) i7).bind fun L184 => (own_get (7 : Int32) Ls1 z157).bind fun z202 => (own_get (6 : Int32) L166 z157).bind fun z203 => (own_get (7 : Int32) Ls1 (z157 + (1 : Int32))).bind fun z205 => if (z202 + z203) = z205 then ((m_tfc z157 nC Ls0 Ls1 L184 Ls3 L139).bind fun o209 => (own_put (6 : Int32) Ls3 z157 o209).bind fun L212 => (own_get (6 : Int32) L212 z157).bind fun z230 => (own_get (6 : Int32) Ls7 z230).bind fun z231 => (own_put (6 : Int32) Ls5 z157 z231).bind fun L233 => (own_get (6 : Int32) L212 z157).bind fun z251 => (own_put (6 : Int32) Ls7 z251 z157).bind fun L253 => m_fin_f nC f 3 (i5 + (1 : Int32)) i6 i7 Ls0 Ls1 L184 L212 L139 L233 L166 L253) else (m_fin_f nC f 3 (i5 + (1 : Int32)) i6 i7 Ls0 Ls1 L184 Ls3 L139 Ls5 L166 Ls7)))) else (if sel = 3 then ((own_get (6 : Int32) Ls5 i7).bind fun z133 => m_fin_f nC f 2 i5 i6 z133 Ls0 Ls1 Ls2 Ls3 Ls4 Ls5 Ls6 Ls7) else (none))))
theorem m_fin_z (nC : Int32) (sel : Nat) (i5 : Int32) (i6 : Int32) (i7 : Int32) (Ls0 : List Int32) (Ls1 : List Int32) (Ls2 : List Int32) (Ls3 : List Int32) (Ls4 : List Int32) (Ls5 : List Int32) (Ls6 : List Int32) (Ls7 : List Int32) : m_fin_f nC 0 sel i5 i6 i7 Ls0 Ls1 Ls2 Ls3 Ls4 Ls5 Ls6 Ls7 = none := rfl
theorem m_fin_27 (nC : Int32) (f : Nat) (i5 : Int32) (i6 : Int32) (i7 : Int32) (Ls0 : List Int32) (Ls1 : List Int32) (Ls2 : List Int32) (Ls3 : List Int32) (Ls4 : List Int32) (Ls5 : List Int32) (Ls6 : List Int32) (Ls7 : List Int32) : m_fin_f nC (f + 1) 0 i5 i6 i7 Ls0 Ls1 Ls2 Ls3 Ls4 Ls5 Ls6 Ls7 = (if i5 < (6 : Int32) then ((own_get (7 : Int32) Ls1 i5).bind fun z293 => (own_get (7 : Int32) Ls1 (i5 + (1 : Int32))).bind fun z295 => if z293 = z295 then ((own_get (6 : Int32) Ls7 (0 : Int32)).bind fun z298 => (own_put (6 : Int32) Ls5 i5 z298).bind fun L300 => (own_put (6 : Int32) Ls7 (0 : Int32) i5).bind fun L318 => m_fin_f nC f 0 (i5 + (1 : Int32)) (0 : Int32) (0 : Int32) Ls0 Ls1 Ls2 Ls3 Ls4 L300 Ls6 L318) else (m_fin_f nC f 0 (i5 + (1 : Int32)) (0 : Int32) (0 : Int32) Ls0 Ls1 Ls2 Ls3 Ls4 Ls5 Ls6 Ls7)) else (m_fin_f nC f 1 (0 : Int32) (0 : Int32) (0 : Int32) Ls0 Ls1 Ls2 Ls3 Ls4 Ls5 Ls6 Ls7)) := rfl
theorem m_fin_76 (nC : Int32) (f : Nat) (i5 : Int32) (i6 : Int32) (i7 : Int32) (Ls0 : List Int32) (Ls1 : List Int32) (Ls2 : List Int32) (Ls3 : List Int32) (Ls4 : List Int32) (Ls5 : List Int32) (Ls6 : List Int32) (Ls7 : List Int32) : m_fin_f nC (f + 1) 1 i5 i6 i7 Ls0 Ls1 Ls2 Ls3 Ls4 Ls5 Ls6 Ls7 = (if i5 < (6 : Int32) then ((own_get (6 : Int32) Ls7 i6).bind fun z273 => m_fin_f nC f 2 i5 i6 z273 Ls0 Ls1 Ls2 Ls3 Ls4 Ls5 Ls6 Ls7) else (some (Ls2, Ls3, Ls4))) := rfl
theorem m_fin_88 (nC : Int32) (f : Nat) (i5 : Int32) (i6 : Int32) (i7 : Int32) (Ls0 : List Int32) (Ls1 : List Int32) (Ls2 : List Int32) (Ls3 : List Int32) (Ls4 : List Int32) (Ls5 : List Int32) (Ls6 : List Int32) (Ls7 : List Int32) : m_fin_f nC (f + 1) 2 i5 i6 i7 Ls0 Ls1 Ls2 Ls3 Ls4 Ls5 Ls6 Ls7 = (if i7 < (0 : Int32) then (m_fin_f nC f 1 i5 (i6 + (1 : Int32)) (0 : Int32) Ls0 Ls1 Ls2 Ls3 Ls4 Ls5 Ls6 Ls7) else ((own_put (6 : Int32) Ls4 i5 i7).bind fun L139 => (own_get (6 : Int32) Ls0 i7).bind fun z157 => if z157 < (0 : Int32) then (m_fin_f nC f 3 (i5 + (1 : Int32)) i6 i7 Ls0 Ls1 Ls2 Ls3 L139 Ls5 Ls6 Ls7) else ((own_get (7 : Int32) Ls1 z157).bind fun z163 => (own_get (6 : Int32) Ls6 z157).bind fun z164 => (own_put (6 : Int32) Ls6 z157 (z164 + (1 : Int32))).bind fun L166 => (own_put nC Ls2 (z163 + z164) i7).bind fun L184 => (own_get (7 : Int32) Ls1 z157).bind fun z202 => (own_get (6 : Int32) L166 z157).bind fun z203 => (own_get (7 : Int32) Ls1 (z157 + (1 : Int32))).bind fun z205 => if (z202 + z203) = z205 then ((m_tfc z157 nC Ls0 Ls1 L184 Ls3 L139).bind fun o209 => (own_put (6 : Int32) Ls3 z157 o209).bind fun L212 => (own_get (6 : Int32) L212 z157).bind fun z230 => (own_get (6 : Int32) Ls7 z230).bind fun z231 => (own_put (6 : Int32) Ls5 z157 z231).bind fun L233 => (own_get (6 : Int32) L212 z157).bind fun z251 => (own_put (6 : Int32) Ls7 z251 z157).bind fun L253 => m_fin_f nC f 3 (i5 + (1 : Int32)) i6 i7 Ls0 Ls1 L184 L212 L139 L233 L166 L253) else (m_fin_f nC f 3 (i5 + (1 : Int32)) i6 i7 Ls0 Ls1 L184 Ls3 L139 Ls5 L166 Ls7)))) := rfl
theorem m_fin_206 (nC : Int32) (f : Nat) (i5 : Int32) (i6 : Int32) (i7 : Int32) (Ls0 : List Int32) (Ls1 : List Int32) (Ls2 : List Int32) (Ls3 : List Int32) (Ls4 : List Int32) (Ls5 : List Int32) (Ls6 : List Int32) (Ls7 : List Int32) : m_fin_f nC (f + 1) 3 i5 i6 i7 Ls0 Ls1 Ls2 Ls3 Ls4 Ls5 Ls6 Ls7 = ((own_get (6 : Int32) Ls5 i7).bind fun z133 => m_fin_f nC f 2 i5 i6 z133 Ls0 Ls1 Ls2 Ls3 Ls4 Ls5 Ls6 Ls7) := rfl
def m_fin (nC : Int32) (P : List Int32) (S : List Int32) (C : List Int32) (T : List Int32) (F : List Int32) : Option (List Int32 × List Int32 × List Int32) := (m_fill ([0, 0, 0, 0, 0, 0] : List Int32) (-1 : Int32)).bind fun o71 => m_fin_f nC 80 0 (0 : Int32) (0 : Int32) (0 : Int32) P S C T F ([0, 0, 0, 0, 0, 0] : List Int32) ([0, 0, 0, 0, 0, 0] : List Int32) o71
theorem d8_0 : decode prog_35_method_11_code 0 = .ok (.aload_n 0, 1) := by decide +kernel
theorem d8_1 : decode prog_35_method_11_code 1 = .ok (.getfield 19, 3) := by decide +kernel
theorem d8_4 : decode prog_35_method_11_code 4 = .ok (.arraylength, 1) := by decide +kernel
theorem d8_5 : decode prog_35_method_11_code 5 = .ok (.istore_n 1, 1) := by decide +kernel
theorem d8_6 : decode prog_35_method_11_code 6 = .ok (.iload_n 1, 1) := by decide +kernel
theorem d8_7 : decode prog_35_method_11_code 7 = .ok (.newarray .int, 2) := by decide +kernel
theorem d8_9 : decode prog_35_method_11_code 9 = .ok (.astore_n 2, 1) := by decide +kernel
theorem d8_10 : decode prog_35_method_11_code 10 = .ok (.iload_n 1, 1) := by decide +kernel
theorem d8_11 : decode prog_35_method_11_code 11 = .ok (.newarray .int, 2) := by decide +kernel
theorem d8_13 : decode prog_35_method_11_code 13 = .ok (.astore_n 3, 1) := by decide +kernel
theorem d8_14 : decode prog_35_method_11_code 14 = .ok (.iload_n 1, 1) := by decide +kernel
theorem d8_15 : decode prog_35_method_11_code 15 = .ok (.newarray .int, 2) := by decide +kernel
theorem d8_17 : decode prog_35_method_11_code 17 = .ok (.astore 4, 2) := by decide +kernel
theorem d8_19 : decode prog_35_method_11_code 19 = .ok (.aload_n 2, 1) := by decide +kernel
theorem d8_20 : decode prog_35_method_11_code 20 = .ok (.iconst (-1), 1) := by decide +kernel
theorem d8_21 : decode prog_35_method_11_code 21 = .ok (.invokestatic 128, 3) := by decide +kernel
theorem d8_24 : decode prog_35_method_11_code 24 = .ok (.iconst 0, 1) := by decide +kernel
theorem d8_25 : decode prog_35_method_11_code 25 = .ok (.istore 5, 2) := by decide +kernel
theorem d8_27 : decode prog_35_method_11_code 27 = .ok (.iload 5, 2) := by decide +kernel
theorem d8_29 : decode prog_35_method_11_code 29 = .ok (.iload_n 1, 1) := by decide +kernel
theorem d8_30 : decode prog_35_method_11_code 30 = .ok (.if_icmp .ge 40, 3) := by decide +kernel
theorem d8_33 : decode prog_35_method_11_code 33 = .ok (.aload_n 0, 1) := by decide +kernel
theorem d8_34 : decode prog_35_method_11_code 34 = .ok (.getfield 13, 3) := by decide +kernel
theorem d8_37 : decode prog_35_method_11_code 37 = .ok (.iload 5, 2) := by decide +kernel
theorem d8_39 : decode prog_35_method_11_code 39 = .ok (.iaload, 1) := by decide +kernel
theorem d8_40 : decode prog_35_method_11_code 40 = .ok (.aload_n 0, 1) := by decide +kernel
theorem d8_41 : decode prog_35_method_11_code 41 = .ok (.getfield 13, 3) := by decide +kernel
theorem d8_44 : decode prog_35_method_11_code 44 = .ok (.iload 5, 2) := by decide +kernel
theorem d8_46 : decode prog_35_method_11_code 46 = .ok (.iconst 1, 1) := by decide +kernel
theorem d8_47 : decode prog_35_method_11_code 47 = .ok (.iadd, 1) := by decide +kernel
theorem d8_48 : decode prog_35_method_11_code 48 = .ok (.iaload, 1) := by decide +kernel
theorem d8_49 : decode prog_35_method_11_code 49 = .ok (.if_icmp .ne 15, 3) := by decide +kernel
theorem d8_52 : decode prog_35_method_11_code 52 = .ok (.aload_n 3, 1) := by decide +kernel
theorem d8_53 : decode prog_35_method_11_code 53 = .ok (.iload 5, 2) := by decide +kernel
theorem d8_55 : decode prog_35_method_11_code 55 = .ok (.aload_n 2, 1) := by decide +kernel
theorem d8_56 : decode prog_35_method_11_code 56 = .ok (.iconst 0, 1) := by decide +kernel
theorem d8_57 : decode prog_35_method_11_code 57 = .ok (.iaload, 1) := by decide +kernel
theorem d8_58 : decode prog_35_method_11_code 58 = .ok (.iastore, 1) := by decide +kernel
theorem d8_59 : decode prog_35_method_11_code 59 = .ok (.aload_n 2, 1) := by decide +kernel
theorem d8_60 : decode prog_35_method_11_code 60 = .ok (.iconst 0, 1) := by decide +kernel
theorem d8_61 : decode prog_35_method_11_code 61 = .ok (.iload 5, 2) := by decide +kernel
theorem d8_63 : decode prog_35_method_11_code 63 = .ok (.iastore, 1) := by decide +kernel
theorem d8_64 : decode prog_35_method_11_code 64 = .ok (.iinc 5 1, 3) := by decide +kernel
theorem d8_67 : decode prog_35_method_11_code 67 = .ok (.goto (-40), 3) := by decide +kernel
theorem d8_70 : decode prog_35_method_11_code 70 = .ok (.iconst 0, 1) := by decide +kernel
theorem d8_71 : decode prog_35_method_11_code 71 = .ok (.istore 5, 2) := by decide +kernel
theorem d8_73 : decode prog_35_method_11_code 73 = .ok (.iconst 0, 1) := by decide +kernel
theorem d8_74 : decode prog_35_method_11_code 74 = .ok (.istore 6, 2) := by decide +kernel
theorem d8_76 : decode prog_35_method_11_code 76 = .ok (.iload 5, 2) := by decide +kernel
theorem d8_78 : decode prog_35_method_11_code 78 = .ok (.iload_n 1, 1) := by decide +kernel
theorem d8_79 : decode prog_35_method_11_code 79 = .ok (.if_icmp .ge 142, 3) := by decide +kernel
theorem d8_82 : decode prog_35_method_11_code 82 = .ok (.aload_n 2, 1) := by decide +kernel
theorem d8_83 : decode prog_35_method_11_code 83 = .ok (.iload 6, 2) := by decide +kernel
theorem d8_85 : decode prog_35_method_11_code 85 = .ok (.iaload, 1) := by decide +kernel
theorem d8_86 : decode prog_35_method_11_code 86 = .ok (.istore 7, 2) := by decide +kernel
theorem d8_88 : decode prog_35_method_11_code 88 = .ok (.iload 7, 2) := by decide +kernel
theorem d8_90 : decode prog_35_method_11_code 90 = .ok (.ifCond .lt 125, 3) := by decide +kernel
theorem d8_93 : decode prog_35_method_11_code 93 = .ok (.aload_n 0, 1) := by decide +kernel
theorem d8_94 : decode prog_35_method_11_code 94 = .ok (.getfield 22, 3) := by decide +kernel
theorem d8_97 : decode prog_35_method_11_code 97 = .ok (.iload 5, 2) := by decide +kernel
theorem d8_99 : decode prog_35_method_11_code 99 = .ok (.iinc 5 1, 3) := by decide +kernel
theorem d8_102 : decode prog_35_method_11_code 102 = .ok (.iload 7, 2) := by decide +kernel
theorem d8_104 : decode prog_35_method_11_code 104 = .ok (.iastore, 1) := by decide +kernel
theorem d8_105 : decode prog_35_method_11_code 105 = .ok (.aload_n 0, 1) := by decide +kernel
theorem d8_106 : decode prog_35_method_11_code 106 = .ok (.getfield 7, 3) := by decide +kernel
theorem d8_109 : decode prog_35_method_11_code 109 = .ok (.iload 7, 2) := by decide +kernel
theorem d8_111 : decode prog_35_method_11_code 111 = .ok (.iaload, 1) := by decide +kernel
theorem d8_112 : decode prog_35_method_11_code 112 = .ok (.istore 8, 2) := by decide +kernel
theorem d8_114 : decode prog_35_method_11_code 114 = .ok (.iload 8, 2) := by decide +kernel
theorem d8_116 : decode prog_35_method_11_code 116 = .ok (.ifCond .lt 90, 3) := by decide +kernel
theorem d8_119 : decode prog_35_method_11_code 119 = .ok (.aload_n 0, 1) := by decide +kernel
theorem d8_120 : decode prog_35_method_11_code 120 = .ok (.getfield 16, 3) := by decide +kernel
theorem d8_123 : decode prog_35_method_11_code 123 = .ok (.aload_n 0, 1) := by decide +kernel
theorem d8_124 : decode prog_35_method_11_code 124 = .ok (.getfield 13, 3) := by decide +kernel
theorem d8_127 : decode prog_35_method_11_code 127 = .ok (.iload 8, 2) := by decide +kernel
theorem d8_129 : decode prog_35_method_11_code 129 = .ok (.iaload, 1) := by decide +kernel
theorem d8_130 : decode prog_35_method_11_code 130 = .ok (.aload 4, 2) := by decide +kernel
theorem d8_132 : decode prog_35_method_11_code 132 = .ok (.iload 8, 2) := by decide +kernel
theorem d8_134 : decode prog_35_method_11_code 134 = .ok (.dup2, 1) := by decide +kernel
theorem d8_135 : decode prog_35_method_11_code 135 = .ok (.iaload, 1) := by decide +kernel
theorem d8_136 : decode prog_35_method_11_code 136 = .ok (.dup_x2, 1) := by decide +kernel
theorem d8_137 : decode prog_35_method_11_code 137 = .ok (.iconst 1, 1) := by decide +kernel
theorem d8_138 : decode prog_35_method_11_code 138 = .ok (.iadd, 1) := by decide +kernel
theorem d8_139 : decode prog_35_method_11_code 139 = .ok (.iastore, 1) := by decide +kernel
theorem d8_140 : decode prog_35_method_11_code 140 = .ok (.iadd, 1) := by decide +kernel
theorem d8_141 : decode prog_35_method_11_code 141 = .ok (.iload 7, 2) := by decide +kernel
theorem d8_143 : decode prog_35_method_11_code 143 = .ok (.iastore, 1) := by decide +kernel
theorem d8_144 : decode prog_35_method_11_code 144 = .ok (.aload_n 0, 1) := by decide +kernel
theorem d8_145 : decode prog_35_method_11_code 145 = .ok (.getfield 13, 3) := by decide +kernel
theorem d8_148 : decode prog_35_method_11_code 148 = .ok (.iload 8, 2) := by decide +kernel
theorem d8_150 : decode prog_35_method_11_code 150 = .ok (.iaload, 1) := by decide +kernel
theorem d8_151 : decode prog_35_method_11_code 151 = .ok (.aload 4, 2) := by decide +kernel
theorem d8_153 : decode prog_35_method_11_code 153 = .ok (.iload 8, 2) := by decide +kernel
theorem d8_155 : decode prog_35_method_11_code 155 = .ok (.iaload, 1) := by decide +kernel
theorem d8_156 : decode prog_35_method_11_code 156 = .ok (.iadd, 1) := by decide +kernel
theorem d8_157 : decode prog_35_method_11_code 157 = .ok (.aload_n 0, 1) := by decide +kernel
theorem d8_158 : decode prog_35_method_11_code 158 = .ok (.getfield 13, 3) := by decide +kernel
theorem d8_161 : decode prog_35_method_11_code 161 = .ok (.iload 8, 2) := by decide +kernel
theorem d8_163 : decode prog_35_method_11_code 163 = .ok (.iconst 1, 1) := by decide +kernel
theorem d8_164 : decode prog_35_method_11_code 164 = .ok (.iadd, 1) := by decide +kernel
theorem d8_165 : decode prog_35_method_11_code 165 = .ok (.iaload, 1) := by decide +kernel
theorem d8_166 : decode prog_35_method_11_code 166 = .ok (.if_icmp .ne 40, 3) := by decide +kernel
theorem d8_169 : decode prog_35_method_11_code 169 = .ok (.aload_n 0, 1) := by decide +kernel
theorem d8_170 : decode prog_35_method_11_code 170 = .ok (.getfield 19, 3) := by decide +kernel
theorem d8_173 : decode prog_35_method_11_code 173 = .ok (.iload 8, 2) := by decide +kernel
theorem d8_175 : decode prog_35_method_11_code 175 = .ok (.aload_n 0, 1) := by decide +kernel
theorem d8_176 : decode prog_35_method_11_code 176 = .ok (.iload 8, 2) := by decide +kernel
theorem d8_178 : decode prog_35_method_11_code 178 = .ok (.invokevirtual 134, 3) := by decide +kernel
theorem d8_181 : decode prog_35_method_11_code 181 = .ok (.iastore, 1) := by decide +kernel
theorem d8_182 : decode prog_35_method_11_code 182 = .ok (.aload_n 3, 1) := by decide +kernel
theorem d8_183 : decode prog_35_method_11_code 183 = .ok (.iload 8, 2) := by decide +kernel
theorem d8_185 : decode prog_35_method_11_code 185 = .ok (.aload_n 2, 1) := by decide +kernel
theorem d8_186 : decode prog_35_method_11_code 186 = .ok (.aload_n 0, 1) := by decide +kernel
theorem d8_187 : decode prog_35_method_11_code 187 = .ok (.getfield 19, 3) := by decide +kernel
theorem d8_190 : decode prog_35_method_11_code 190 = .ok (.iload 8, 2) := by decide +kernel
theorem d8_192 : decode prog_35_method_11_code 192 = .ok (.iaload, 1) := by decide +kernel
theorem d8_193 : decode prog_35_method_11_code 193 = .ok (.iaload, 1) := by decide +kernel
theorem d8_194 : decode prog_35_method_11_code 194 = .ok (.iastore, 1) := by decide +kernel
theorem d8_195 : decode prog_35_method_11_code 195 = .ok (.aload_n 2, 1) := by decide +kernel
theorem d8_196 : decode prog_35_method_11_code 196 = .ok (.aload_n 0, 1) := by decide +kernel
theorem d8_197 : decode prog_35_method_11_code 197 = .ok (.getfield 19, 3) := by decide +kernel
theorem d8_200 : decode prog_35_method_11_code 200 = .ok (.iload 8, 2) := by decide +kernel
theorem d8_202 : decode prog_35_method_11_code 202 = .ok (.iaload, 1) := by decide +kernel
theorem d8_203 : decode prog_35_method_11_code 203 = .ok (.iload 8, 2) := by decide +kernel
theorem d8_205 : decode prog_35_method_11_code 205 = .ok (.iastore, 1) := by decide +kernel
theorem d8_206 : decode prog_35_method_11_code 206 = .ok (.aload_n 3, 1) := by decide +kernel
theorem d8_207 : decode prog_35_method_11_code 207 = .ok (.iload 7, 2) := by decide +kernel
theorem d8_209 : decode prog_35_method_11_code 209 = .ok (.iaload, 1) := by decide +kernel
theorem d8_210 : decode prog_35_method_11_code 210 = .ok (.istore 7, 2) := by decide +kernel
theorem d8_212 : decode prog_35_method_11_code 212 = .ok (.goto (-124), 3) := by decide +kernel
theorem d8_215 : decode prog_35_method_11_code 215 = .ok (.iinc 6 1, 3) := by decide +kernel
theorem d8_218 : decode prog_35_method_11_code 218 = .ok (.goto (-142), 3) := by decide +kernel
theorem d8_221 : decode prog_35_method_11_code 221 = .ok (.return_, 1) := by decide +kernel
theorem ef_8_R (m : MethodId) (x0 : Addr) : entryFrame m #[(.ref x0)] 9 = mkF m 0 #[.val (.ref x0), .unset, .unset, .unset, .unset, .unset, .unset, .unset, .unset] [] := by first | (simp [entryFrame, mkF, argsToLocals, Value.category]; done) | rfl
def Q_rm8 (Z : State) (x0 : Addr) (bP : Addr) (bS : Addr) (bC : Addr) (bT : Addr) (bF : Addr) (kP : ClassId) (kS : ClassId) (kC : ClassId) (kT : ClassId) (kF : ClassId) (nC : Int32) (P : List Int32) (S : List Int32) (C : List Int32) (T : List Int32) (F : List Int32) (C' : List Int32) (T' : List Int32) (F' : List Int32) (h0 : Heap) (n0 : Nat) (v : Option Value) (h : Heap) (L : List Loc) : Prop := v = none ∧ Fr n0 L ∧ Keep h0 h [bC, bT, bF] ∧ Arv Z h bC kC .int nC (C'.map Value.int) (.int (0 : Int32)) ∧ Arv Z h bT kT .int (6 : Int32) (T'.map Value.int) (.int (0 : Int32)) ∧ Arv Z h bF kF .int (6 : Int32) (F'.map Value.int) (.int (0 : Int32))
set_option maxRecDepth 65536 in
set_option maxHeartbeats 40000000 in
theorem rm8 (l : Launch) (Z : State) (a0 : Array Value) (hw : ∀ d ∈ tables_1, d.before a0 Z = true) (ws : List Jvm.Cond) (x0 : Addr) (bP : Addr) (bS : Addr) (bC : Addr) (bT : Addr) (bF : Addr) (kP : ClassId) (kS : ClassId) (kC : ClassId) (kT : ClassId) (kF : ClassId) (nC : Int32) (P : List Int32) (S : List Int32) (C : List Int32) (T : List Int32) (F : List Int32) (C' : List Int32) (T' : List Int32) (F' : List Int32) (h0 : Heap) (n0 : Nat) (Z0 : n0 ≤ h0.size) (p_0 : Fld Z h0 x0 "com/example/rumorwire/rumorwire/TreeSolver" "parent" "[I" (.ref bP)) (p_1 : Fld Z h0 x0 "com/example/rumorwire/rumorwire/TreeSolver" "childStart" "[I" (.ref bS)) (p_2 : Fld Z h0 x0 "com/example/rumorwire/rumorwire/TreeSolver" "children" "[I" (.ref bC)) (p_3 : Fld Z h0 x0 "com/example/rumorwire/rumorwire/TreeSolver" "time" "[I" (.ref bT)) (p_4 : Fld Z h0 x0 "com/example/rumorwire/rumorwire/TreeSolver" "finished" "[I" (.ref bF)) (p_5 : Arv Z h0 bP kP .int (6 : Int32) (P.map Value.int) (.int (0 : Int32))) (p_6 : Arv Z h0 bS kS .int (7 : Int32) (S.map Value.int) (.int (0 : Int32))) (p_7 : Arv Z h0 bC kC .int nC (C.map Value.int) (.int (0 : Int32))) (p_8 : Arv Z h0 bT kT .int (6 : Int32) (T.map Value.int) (.int (0 : Int32))) (p_9 : Arv Z h0 bF kF .int (6 : Int32) (F.map Value.int) (.int (0 : Int32))) (p_10 : x0 ≠ bP) (p_11 : x0 ≠ bS) (p_12 : x0 ≠ bC) (p_13 : x0 ≠ bT) (p_14 : x0 ≠ bF) (p_15 : bP ≠ bS) (p_16 : bP ≠ bC) (p_17 : bP ≠ bT) (p_18 : bP ≠ bF) (p_19 : bS ≠ bC) (p_20 : bS ≠ bT) (p_21 : bS ≠ bF) (p_22 : bC ≠ bT) (p_23 : bC ≠ bF) (p_24 : bT ≠ bF) (p_25 : n0 ≤ bC) (p_26 : n0 ≤ bT) (p_27 : n0 ≤ bF) (p_28 : Exa Z h0 x0 "com/example/rumorwire/rumorwire/TreeSolver") (p_29 : m_fin nC P S C T F = some (C', T', F')) :
    MetFree l (⟨"com/example/rumorwire/rumorwire/TreeSolver", "finishInOrderOfTime", "()V"⟩ : MethodName) (head1 (Jvm.Cond.code (⟨"com/example/rumorwire/rumorwire/TreeSolver", "finishInOrderOfTime", "()V"⟩ : MethodName) prog_35_method_11_code 9 none :: ws) ({ frames := 2, cells := 3, slots := 18, locals := 31 } : Room)) (fun a U => a = #[(.ref x0)] ∧ Z.Warmed39 U.vm ∧ U.heap = h0) (fun _ _ _ _ _ => True) (fun _ U o U' => ∃ v L, o = .returned v ∧ Q_rm8 Z x0 bP bS bC bT bF kP kS kC kT kF nC P S C T F C' T' F' h0 n0 v U'.heap L ∧ FrameEnd U o U' L ({ frames := 2, cells := 3, slots := 18, locals := 31 } : Room).cells ({ frames := 2, cells := 3, slots := 18, locals := 31 } : Room).slots) := by
  refine MetFree.of_bodySF (plainFor_of_name pn_0) hisR ?_
  intro p e s m args below meth c s₁ Bd hml0 hP hK
  obtain ⟨rfl, hZ, hh⟩ := hP
  have hx := Bd.exec
  have hby := Bd.bytes
  have hml : c.maxLocals = 9 := hml0
  have hown : s.vm.findClass "com/example/rumorwire/rumorwire/TreeSolver" = some m.cls := findClass_of_methodNamed Bd.named
  have hnm := (name_of_methodNamed Bd.named Bd.method).1
  have X0 : Stand p l e ({ frames := 2, cells := 3, slots := 18, locals := 31 } : Room) s m #[(.ref x0)] below meth c s₁ [] 0 0 := Stand.of_body Bd
  have e0 : s₁.heap = h0 := by rw [← hh, Bd.state]; rfl
  have N0 := Fr.nil n0
  show own_Ends p e below s ({ frames := 2, cells := 3, slots := 18, locals := 31 } : Room).cells ({ frames := 2, cells := 3, slots := 18, locals := 31 } : Room).slots (Q_rm8 Z x0 bP bS bC bT bF kP kS kC kT kF nC P S C T F C' T' F' h0 n0) (s₁.setTop (entryFrame m #[(.ref x0)] 9))
  rw [ef_8_R]
  refine own_step (st' := s₁.setTop (mkF m 1 #[.val (.ref x0), .unset, .unset, .unset, .unset, .unset, .unset, .unset, .unset] [(.ref x0)])) (fun t k => XS.aloadN X0.here hx rfl (hb hby d8_0) rfl rfl k) ?_
  obtain ⟨T1, X1, e1, st1⟩ := getF X0 hx hZ hown (host := "") (Or.inl (hw _ (List.mem_of_getElem? (i := 34) rfl))) Via.refl e0 p_3 (g := (mkF m 1 #[.val (.ref x0), .unset, .unset, .unset, .unset, .unset, .unset, .unset, .unset] [(.ref x0)])) rfl rfl (hb hby d8_1)
  refine own_step (st' := T1.setTop (mkF m 4 #[.val (.ref x0), .unset, .unset, .unset, .unset, .unset, .unset, .unset, .unset] [(.ref bT)])) st1 ?_
  refine own_step (st' := T1.setTop (mkF m 5 #[.val (.ref x0), .unset, .unset, .unset, .unset, .unset, .unset, .unset, .unset] [(.int (6 : Int32))])) (fun t k => own_len X1 hx hZ e1 p_8 (g := (mkF m 4 #[.val (.ref x0), .unset, .unset, .unset, .unset, .unset, .unset, .unset, .unset] [(.ref bT)])) rfl rfl (hb hby d8_4) t k) ?_
  refine own_step (st' := T1.setTop (mkF m 6 #[.val (.ref x0), .val (.int (6 : Int32)), .unset, .unset, .unset, .unset, .unset, .unset, .unset] [])) (fun t k => XS.istoreN X1.here hx rfl (hb hby d8_5) rfl (l' := #[.val (.ref x0), .val (.int (6 : Int32)), .unset, .unset, .unset, .unset, .unset, .unset, .unset]) rfl k) ?_
  refine own_step (st' := T1.setTop (mkF m 7 #[.val (.ref x0), .val (.int (6 : Int32)), .unset, .unset, .unset, .unset, .unset, .unset, .unset] [(.int (6 : Int32))])) (fun t k => XS.iloadN X1.here hx rfl (hb hby d8_6) rfl k) ?_
  obtain ⟨T2, h2, k2, X2, e2, E2, A2, st2⟩ := newP X1 hx hZ (hw _ (List.mem_of_getElem? (i := 0) rfl)) e1 (g := (mkF m 7 #[.val (.ref x0), .val (.int (6 : Int32)), .unset, .unset, .unset, .unset, .unset, .unset, .unset] [(.int (6 : Int32))])) rfl (hb hby d8_7) rfl (by decide) (cap := 6) (by decide) (by decide) (by decide) (by decide)
  obtain ⟨b2, g2⟩ : ∃ z, z = h0.size := ⟨_, rfl⟩
  rw [← g2] at A2 st2
  have ne3 : x0 ≠ b2 := Nat.ne_of_lt (Nat.lt_of_lt_of_le p_0.lt (Nat.le_of_eq g2.symm))
  have ne4 : bP ≠ b2 := Nat.ne_of_lt (Nat.lt_of_lt_of_le p_5.lt (Nat.le_of_eq g2.symm))
  have ne5 : bS ≠ b2 := Nat.ne_of_lt (Nat.lt_of_lt_of_le p_6.lt (Nat.le_of_eq g2.symm))
  have ne6 : bC ≠ b2 := Nat.ne_of_lt (Nat.lt_of_lt_of_le p_7.lt (Nat.le_of_eq g2.symm))
  have ne7 : bT ≠ b2 := Nat.ne_of_lt (Nat.lt_of_lt_of_le p_8.lt (Nat.le_of_eq g2.symm))
  have ne8 : bF ≠ b2 := Nat.ne_of_lt (Nat.lt_of_lt_of_le p_9.lt (Nat.le_of_eq g2.symm))
  have g_b2 : n0 ≤ b2 := Nat.le_trans Z0 (Nat.le_of_eq g2.symm)
  have sz_b2 : h0.size ≤ b2 := Nat.le_trans (Keep.refl h0 [bC, bT, bF]).1 (Nat.le_of_eq g2.symm)
  have f9 := p_0.ext E2
  have f10 := p_1.ext E2
  have f11 := p_2.ext E2
  have f12 := p_3.ext E2
  have f13 := p_4.ext E2
  have f14 := p_5.ext E2
  have f15 := p_6.ext E2
  have f16 := p_7.ext E2
  have f17 := p_8.ext E2
  have f18 := p_9.ext E2
  have f19 := p_28.ext E2
  have K20 : Keep h0 h2 [bC, bT, bF] := (Keep.refl h0 [bC, bT, bF]).ext E2
  have Z21 : n0 ≤ h2.size := Nat.le_trans Z0 E2.1
  have V2 : Arv Z h2 b2 k2 .int (6 : Int32) [(.int (0 : Int32)), (.int (0 : Int32)), (.int (0 : Int32)), (.int (0 : Int32)), (.int (0 : Int32)), (.int (0 : Int32))] (.int (0 : Int32)) := (Arv.new A2 (by decide)).pad (pad_rep [] (.int (0 : Int32)) 6)
  refine own_step (st' := T2.setTop (mkF m 9 #[.val (.ref x0), .val (.int (6 : Int32)), .unset, .unset, .unset, .unset, .unset, .unset, .unset] [(.ref b2)])) st2 ?_
  have vp22 : Arv Z h2 b2 k2 .int (6 : Int32) (([0, 0, 0, 0, 0, 0] : List Int32).map Value.int) (.int (0 : Int32)) := V2
  refine own_step (st' := T2.setTop (mkF m 10 #[.val (.ref x0), .val (.int (6 : Int32)), .val (.ref b2), .unset, .unset, .unset, .unset, .unset, .unset] [])) (fun t k => XS.astoreN X2.here hx rfl (hb hby d8_9) rfl rfl (l' := #[.val (.ref x0), .val (.int (6 : Int32)), .val (.ref b2), .unset, .unset, .unset, .unset, .unset, .unset]) rfl k) ?_
  refine own_step (st' := T2.setTop (mkF m 11 #[.val (.ref x0), .val (.int (6 : Int32)), .val (.ref b2), .unset, .unset, .unset, .unset, .unset, .unset] [(.int (6 : Int32))])) (fun t k => XS.iloadN X2.here hx rfl (hb hby d8_10) rfl k) ?_
  obtain ⟨T23, h23, k23, X23, e23, E23, A23, st23⟩ := newP X2 hx hZ (hw _ (List.mem_of_getElem? (i := 0) rfl)) e2 (g := (mkF m 11 #[.val (.ref x0), .val (.int (6 : Int32)), .val (.ref b2), .unset, .unset, .unset, .unset, .unset, .unset] [(.int (6 : Int32))])) rfl (hb hby d8_11) rfl (by decide) (cap := 6) (by decide) (by decide) (by decide) (by decide)
  obtain ⟨b23, g23⟩ : ∃ z, z = h2.size := ⟨_, rfl⟩
  rw [← g23] at A23 st23
  have ne24 : x0 ≠ b23 := Nat.ne_of_lt (Nat.lt_of_lt_of_le f9.lt (Nat.le_of_eq g23.symm))
  have ne25 : bP ≠ b23 := Nat.ne_of_lt (Nat.lt_of_lt_of_le f14.lt (Nat.le_of_eq g23.symm))
  have ne26 : bS ≠ b23 := Nat.ne_of_lt (Nat.lt_of_lt_of_le f15.lt (Nat.le_of_eq g23.symm))
  have ne27 : bC ≠ b23 := Nat.ne_of_lt (Nat.lt_of_lt_of_le f16.lt (Nat.le_of_eq g23.symm))
  have ne28 : bT ≠ b23 := Nat.ne_of_lt (Nat.lt_of_lt_of_le f17.lt (Nat.le_of_eq g23.symm))
  have ne29 : bF ≠ b23 := Nat.ne_of_lt (Nat.lt_of_lt_of_le f18.lt (Nat.le_of_eq g23.symm))
  have ne30 : b2 ≠ b23 := Nat.ne_of_lt (Nat.lt_of_lt_of_le vp22.lt (Nat.le_of_eq g23.symm))
  have g_b23 : n0 ≤ b23 := Nat.le_trans Z21 (Nat.le_of_eq g23.symm)
  have sz_b23 : h0.size ≤ b23 := Nat.le_trans K20.1 (Nat.le_of_eq g23.symm)
  have f31 := f9.ext E23
  have f32 := f10.ext E23
  have f33 := f11.ext E23
  have f34 := f12.ext E23
  have f35 := f13.ext E23
  have f36 := f14.ext E23
  have f37 := f15.ext E23
  have f38 := f16.ext E23
  have f39 := f17.ext E23
  have f40 := f18.ext E23
  have f41 := f19.ext E23
  have f42 := vp22.ext E23
  have K43 : Keep h0 h23 [bC, bT, bF] := K20.ext E23
  have Z44 : n0 ≤ h23.size := Nat.le_trans Z21 E23.1
  have V23 : Arv Z h23 b23 k23 .int (6 : Int32) [(.int (0 : Int32)), (.int (0 : Int32)), (.int (0 : Int32)), (.int (0 : Int32)), (.int (0 : Int32)), (.int (0 : Int32))] (.int (0 : Int32)) := (Arv.new A23 (by decide)).pad (pad_rep [] (.int (0 : Int32)) 6)
  refine own_step (st' := T23.setTop (mkF m 13 #[.val (.ref x0), .val (.int (6 : Int32)), .val (.ref b2), .unset, .unset, .unset, .unset, .unset, .unset] [(.ref b23)])) st23 ?_
  have vp45 : Arv Z h23 b23 k23 .int (6 : Int32) (([0, 0, 0, 0, 0, 0] : List Int32).map Value.int) (.int (0 : Int32)) := V23
  refine own_step (st' := T23.setTop (mkF m 14 #[.val (.ref x0), .val (.int (6 : Int32)), .val (.ref b2), .val (.ref b23), .unset, .unset, .unset, .unset, .unset] [])) (fun t k => XS.astoreN X23.here hx rfl (hb hby d8_13) rfl rfl (l' := #[.val (.ref x0), .val (.int (6 : Int32)), .val (.ref b2), .val (.ref b23), .unset, .unset, .unset, .unset, .unset]) rfl k) ?_
  refine own_step (st' := T23.setTop (mkF m 15 #[.val (.ref x0), .val (.int (6 : Int32)), .val (.ref b2), .val (.ref b23), .unset, .unset, .unset, .unset, .unset] [(.int (6 : Int32))])) (fun t k => XS.iloadN X23.here hx rfl (hb hby d8_14) rfl k) ?_
  obtain ⟨T46, h46, k46, X46, e46, E46, A46, st46⟩ := newP X23 hx hZ (hw _ (List.mem_of_getElem? (i := 0) rfl)) e23 (g := (mkF m 15 #[.val (.ref x0), .val (.int (6 : Int32)), .val (.ref b2), .val (.ref b23), .unset, .unset, .unset, .unset, .unset] [(.int (6 : Int32))])) rfl (hb hby d8_15) rfl (by decide) (cap := 6) (by decide) (by decide) (by decide) (by decide)
  obtain ⟨b46, g46⟩ : ∃ z, z = h23.size := ⟨_, rfl⟩
  rw [← g46] at A46 st46
  have ne47 : x0 ≠ b46 := Nat.ne_of_lt (Nat.lt_of_lt_of_le f31.lt (Nat.le_of_eq g46.symm))
  have ne48 : bP ≠ b46 := Nat.ne_of_lt (Nat.lt_of_lt_of_le f36.lt (Nat.le_of_eq g46.symm))
  have ne49 : bS ≠ b46 := Nat.ne_of_lt (Nat.lt_of_lt_of_le f37.lt (Nat.le_of_eq g46.symm))
  have ne50 : bC ≠ b46 := Nat.ne_of_lt (Nat.lt_of_lt_of_le f38.lt (Nat.le_of_eq g46.symm))
  have ne51 : bT ≠ b46 := Nat.ne_of_lt (Nat.lt_of_lt_of_le f39.lt (Nat.le_of_eq g46.symm))
  have ne52 : bF ≠ b46 := Nat.ne_of_lt (Nat.lt_of_lt_of_le f40.lt (Nat.le_of_eq g46.symm))
  have ne53 : b2 ≠ b46 := Nat.ne_of_lt (Nat.lt_of_lt_of_le f42.lt (Nat.le_of_eq g46.symm))
  have ne54 : b23 ≠ b46 := Nat.ne_of_lt (Nat.lt_of_lt_of_le vp45.lt (Nat.le_of_eq g46.symm))
  have g_b46 : n0 ≤ b46 := Nat.le_trans Z44 (Nat.le_of_eq g46.symm)
  have sz_b46 : h0.size ≤ b46 := Nat.le_trans K43.1 (Nat.le_of_eq g46.symm)
  have f55 := f31.ext E46
  have f56 := f32.ext E46
  have f57 := f33.ext E46
  have f58 := f34.ext E46
  have f59 := f35.ext E46
  have f60 := f36.ext E46
  have f61 := f37.ext E46
  have f62 := f38.ext E46
  have f63 := f39.ext E46
  have f64 := f40.ext E46
  have f65 := f41.ext E46
  have f66 := f42.ext E46
  have f67 := vp45.ext E46
  have K68 : Keep h0 h46 [bC, bT, bF] := K43.ext E46
  have Z69 : n0 ≤ h46.size := Nat.le_trans Z44 E46.1
  have V46 : Arv Z h46 b46 k46 .int (6 : Int32) [(.int (0 : Int32)), (.int (0 : Int32)), (.int (0 : Int32)), (.int (0 : Int32)), (.int (0 : Int32)), (.int (0 : Int32))] (.int (0 : Int32)) := (Arv.new A46 (by decide)).pad (pad_rep [] (.int (0 : Int32)) 6)
  refine own_step (st' := T46.setTop (mkF m 17 #[.val (.ref x0), .val (.int (6 : Int32)), .val (.ref b2), .val (.ref b23), .unset, .unset, .unset, .unset, .unset] [(.ref b46)])) st46 ?_
  have vp70 : Arv Z h46 b46 k46 .int (6 : Int32) (([0, 0, 0, 0, 0, 0] : List Int32).map Value.int) (.int (0 : Int32)) := V46
  refine own_step (st' := T46.setTop (mkF m 19 #[.val (.ref x0), .val (.int (6 : Int32)), .val (.ref b2), .val (.ref b23), .val (.ref b46), .unset, .unset, .unset, .unset] [])) (fun t k => XS.astore X46.here hx rfl (hb hby d8_17) rfl rfl (l' := #[.val (.ref x0), .val (.int (6 : Int32)), .val (.ref b2), .val (.ref b23), .val (.ref b46), .unset, .unset, .unset, .unset]) rfl k) ?_
  refine own_step (st' := T46.setTop (mkF m 20 #[.val (.ref x0), .val (.int (6 : Int32)), .val (.ref b2), .val (.ref b23), .val (.ref b46), .unset, .unset, .unset, .unset] [(.ref b2)])) (fun t k => XS.aloadN X46.here hx rfl (hb hby d8_19) rfl rfl k) ?_
  refine own_step (st' := T46.setTop (mkF m 21 #[.val (.ref x0), .val (.int (6 : Int32)), .val (.ref b2), .val (.ref b23), .val (.ref b46), .unset, .unset, .unset, .unset] [(.int (-1 : Int32)), (.ref b2)])) (fun t k => XS.iconst X46.here hx rfl (hb hby d8_20) k) ?_
  obtain ⟨o71, ho71, ro71⟩ := own_bind p_29
  clear p_29
  obtain ⟨_, _, ⟨T72, L72, k72, n72⟩, -, X72, ⟨Lc72, hQ72, l72, y72, z72⟩, st72⟩ := Jvm.LawKit.callS X46 hx (y := (⟨"java/util/Arrays", "fill", "([II)V"⟩ : MethodName)) hown (mvT hZ (hw _ (List.mem_of_getElem? (i := 42) rfl))) (mvT hZ (hw _ (List.mem_of_getElem? (i := 43) rfl))) (mvT hZ (hw _ (List.mem_of_getElem? (i := 44) rfl))) (mvT hZ (hw _ (List.mem_of_getElem? (i := 45) rfl))) (by decide) (backOf (W := 0) (rm9 l Z a0 hw [] b2 (-1 : Int32) k2 ([0, 0, 0, 0, 0, 0] : List Int32) o71 h46 n0 Z69 f66 g_b2 ho71) hZ (hw _ (List.mem_of_getElem? (i := 45) rfl)) (hw _ (List.mem_of_getElem? (i := 44) rfl)) (by decide) (by decide)) (g := (mkF m 21 #[.val (.ref x0), .val (.int (6 : Int32)), .val (.ref b2), .val (.ref b23), .val (.ref b46), .unset, .unset, .unset, .unset] [(.int (-1 : Int32)), (.ref b2)])) rfl (by rw [hml]; rfl) (argsL := [(.ref b2), (.int (-1 : Int32))]) (rest := []) (lenOf pd_7 rfl) rfl (by show 2 * 0 + _ ≤ _; exact Nat.le_of_eq rfl) (hb hby d8_21) (fun _ _ => ⟨rfl, e46, (by decide : 3 + 0 ≤ _), (by decide : 18 + 0 ≤ _)⟩)
  dsimp only [Pt.U, Pt.locs, Pt.cells, Pt.slots] at X72 l72 y72 z72 st72 hQ72
  subst y72 z72
  obtain ⟨rfl, N72q, K72, pq72_0⟩ := hQ72
  have N72 := Fr.app N0 N72q
  rw [← l72] at N72
  clear l72
  obtain ⟨h72, e72⟩ : ∃ z, T72.heap = z := ⟨_, rfl⟩
  rw [e72] at K72 pq72_0
  have f73 := f55.keep K72 (ninS ne3 nin0)
  have f74 := f56.keep K72 (ninS ne3 nin0)
  have f75 := f57.keep K72 (ninS ne3 nin0)
  have f76 := f58.keep K72 (ninS ne3 nin0)
  have f77 := f59.keep K72 (ninS ne3 nin0)
  have f78 := f60.keep K72 (ninS ne4 nin0)
  have f79 := f61.keep K72 (ninS ne5 nin0)
  have f80 := f62.keep K72 (ninS ne6 nin0)
  have f81 := f63.keep K72 (ninS ne7 nin0)
  have f82 := f64.keep K72 (ninS ne8 nin0)
  have f83 := f65.keep K72
  have f84 := f67.keep K72 (ninS (Ne.symm ne30) nin0)
  have f85 := vp70.keep K72 (ninS (Ne.symm ne53) nin0)
  have K86 : Keep h0 h72 [bC, bT, bF] := K68.trans K72 (allS (Or.inr sz_b2) all0)
  have Z87 : n0 ≤ h72.size := Nat.le_trans Z69 K72.1
  refine own_step (st' := T72.setTop (mkF m 24 #[.val (.ref x0), .val (.int (6 : Int32)), .val (.ref b2), .val (.ref b23), .val (.ref b46), .unset, .unset, .unset, .unset] [])) st72 ?_
  have J88 : ∀ (k88 : Nat) (T88 : State) (h88 : Heap) (lc88 : List Loc) (i5 : Int32) (i6 : Int32) (sl7 : Slot) (sl8 : Slot) (Ls0 : List Int32) (Ls1 : List Int32) (Ls2 : List Int32) (Ls3 : List Int32) (Ls4 : List Int32) (Ls5 : List Int32) (Ls6 : List Int32) (Ls7 : List Int32) (X88 : Stand p l e ({ frames := 2, cells := 3, slots := 18, locals := 31 } : Room) s m #[(.ref x0)] below meth c T88 lc88 3 18) (e88 : T88.heap = h88) (N88 : Fr n0 lc88) (Z88 : n0 ≤ h88.size) (f89 : Fld Z h88 x0 "com/example/rumorwire/rumorwire/TreeSolver" "parent" "[I" (.ref bP)) (f90 : Fld Z h88 x0 "com/example/rumorwire/rumorwire/TreeSolver" "childStart" "[I" (.ref bS)) (f91 : Fld Z h88 x0 "com/example/rumorwire/rumorwire/TreeSolver" "children" "[I" (.ref bC)) (f92 : Fld Z h88 x0 "com/example/rumorwire/rumorwire/TreeSolver" "time" "[I" (.ref bT)) (f93 : Fld Z h88 x0 "com/example/rumorwire/rumorwire/TreeSolver" "finished" "[I" (.ref bF)) (f94 : Arv Z h88 bP kP .int (6 : Int32) (Ls0.map Value.int) (.int (0 : Int32))) (f95 : Arv Z h88 bS kS .int (7 : Int32) (Ls1.map Value.int) (.int (0 : Int32))) (f96 : Arv Z h88 bC kC .int nC (Ls2.map Value.int) (.int (0 : Int32))) (f97 : Arv Z h88 bT kT .int (6 : Int32) (Ls3.map Value.int) (.int (0 : Int32))) (f98 : Arv Z h88 bF kF .int (6 : Int32) (Ls4.map Value.int) (.int (0 : Int32))) (f99 : Exa Z h88 x0 "com/example/rumorwire/rumorwire/TreeSolver") (f100 : Arv Z h88 b23 k23 .int (6 : Int32) (Ls5.map Value.int) (.int (0 : Int32))) (f101 : Arv Z h88 b46 k46 .int (6 : Int32) (Ls6.map Value.int) (.int (0 : Int32))) (f102 : Arv Z h88 b2 k2 .int (6 : Int32) (Ls7.map Value.int) (.int (0 : Int32))) (K88 : Keep h0 h88 [bC, bT, bF]) (hr : m_fin_f nC k88 1 i5 i6 (0 : Int32) Ls0 Ls1 Ls2 Ls3 Ls4 Ls5 Ls6 Ls7 = some (C', T', F')) (hsl7 : sl7 = .unset ∨ ∃ w, sl7 = .val w ∧ w.category = 1) (hsl8 : sl8 = .unset ∨ ∃ w, sl8 = .val w ∧ w.category = 1), own_Ends p e below s ({ frames := 2, cells := 3, slots := 18, locals := 31 } : Room).cells ({ frames := 2, cells := 3, slots := 18, locals := 31 } : Room).slots (Q_rm8 Z x0 bP bS bC bT bF kP kS kC kT kF nC P S C T F C' T' F' h0 n0) (T88.setTop (mkF m 76 #[.val (.ref x0), .val (.int (6 : Int32)), .val (.ref b2), .val (.ref b23), .val (.ref b46), .val (.int i5), .val (.int i6), sl7, sl8] [])) := by
    intro k88
    induction k88 using Nat.strongRecOn with
    | _ k88 ih88 =>
      intro T88 h88 lc88 i5 i6 sl7 sl8 Ls0 Ls1 Ls2 Ls3 Ls4 Ls5 Ls6 Ls7 X88 e88 N88 Z88 f89 f90 f91 f92 f93 f94 f95 f96 f97 f98 f99 f100 f101 f102 K88 hr hsl7 hsl8
      obtain ⟨fu88, rfl⟩ : ∃ f, k88 = f + 1 := by
        cases k88 with
        | zero => rw [m_fin_z] at hr; cases hr
        | succ f => exact ⟨f, rfl⟩
      rw [m_fin_76] at hr
      have J103 : ∀ (k103 : Nat) (T103 : State) (h103 : Heap) (lc103 : List Loc) (i5 : Int32) (i6 : Int32) (i7 : Int32) (sl8 : Slot) (Ls0 : List Int32) (Ls1 : List Int32) (Ls2 : List Int32) (Ls3 : List Int32) (Ls4 : List Int32) (Ls5 : List Int32) (Ls6 : List Int32) (Ls7 : List Int32) (X103 : Stand p l e ({ frames := 2, cells := 3, slots := 18, locals := 31 } : Room) s m #[(.ref x0)] below meth c T103 lc103 3 18) (e103 : T103.heap = h103) (N103 : Fr n0 lc103) (Z103 : n0 ≤ h103.size) (f104 : Fld Z h103 x0 "com/example/rumorwire/rumorwire/TreeSolver" "parent" "[I" (.ref bP)) (f105 : Fld Z h103 x0 "com/example/rumorwire/rumorwire/TreeSolver" "childStart" "[I" (.ref bS)) (f106 : Fld Z h103 x0 "com/example/rumorwire/rumorwire/TreeSolver" "children" "[I" (.ref bC)) (f107 : Fld Z h103 x0 "com/example/rumorwire/rumorwire/TreeSolver" "time" "[I" (.ref bT)) (f108 : Fld Z h103 x0 "com/example/rumorwire/rumorwire/TreeSolver" "finished" "[I" (.ref bF)) (f109 : Arv Z h103 bP kP .int (6 : Int32) (Ls0.map Value.int) (.int (0 : Int32))) (f110 : Arv Z h103 bS kS .int (7 : Int32) (Ls1.map Value.int) (.int (0 : Int32))) (f111 : Arv Z h103 bC kC .int nC (Ls2.map Value.int) (.int (0 : Int32))) (f112 : Arv Z h103 bT kT .int (6 : Int32) (Ls3.map Value.int) (.int (0 : Int32))) (f113 : Arv Z h103 bF kF .int (6 : Int32) (Ls4.map Value.int) (.int (0 : Int32))) (f114 : Exa Z h103 x0 "com/example/rumorwire/rumorwire/TreeSolver") (f115 : Arv Z h103 b23 k23 .int (6 : Int32) (Ls5.map Value.int) (.int (0 : Int32))) (f116 : Arv Z h103 b46 k46 .int (6 : Int32) (Ls6.map Value.int) (.int (0 : Int32))) (f117 : Arv Z h103 b2 k2 .int (6 : Int32) (Ls7.map Value.int) (.int (0 : Int32))) (K103 : Keep h0 h103 [bC, bT, bF]) (hr : m_fin_f nC k103 2 i5 i6 i7 Ls0 Ls1 Ls2 Ls3 Ls4 Ls5 Ls6 Ls7 = some (C', T', F')) (hsl8 : sl8 = .unset ∨ ∃ w, sl8 = .val w ∧ w.category = 1) (hk88 : k103 < fu88 + 1), own_Ends p e below s ({ frames := 2, cells := 3, slots := 18, locals := 31 } : Room).cells ({ frames := 2, cells := 3, slots := 18, locals := 31 } : Room).slots (Q_rm8 Z x0 bP bS bC bT bF kP kS kC kT kF nC P S C T F C' T' F' h0 n0) (T103.setTop (mkF m 88 #[.val (.ref x0), .val (.int (6 : Int32)), .val (.ref b2), .val (.ref b23), .val (.ref b46), .val (.int i5), .val (.int i6), .val (.int i7), sl8] [])) := by
        intro k103
        induction k103 using Nat.strongRecOn with
        | _ k103 ih103 =>
          intro T103 h103 lc103 i5 i6 i7 sl8 Ls0 Ls1 Ls2 Ls3 Ls4 Ls5 Ls6 Ls7 X103 e103 N103 Z103 f104 f105 f106 f107 f108 f109 f110 f111 f112 f113 f114 f115 f116 f117 K103 hr hsl8 hk88
          obtain ⟨fu103, rfl⟩ : ∃ f, k103 = f + 1 := by
            cases k103 with
            | zero => rw [m_fin_z] at hr; cases hr
            | succ f => exact ⟨f, rfl⟩
          rw [m_fin_88] at hr
          have J118 : ∀ (k118 : Nat) (T118 : State) (h118 : Heap) (lc118 : List Loc) (i5 : Int32) (i6 : Int32) (i7 : Int32) (sl8 : Slot) (Ls0 : List Int32) (Ls1 : List Int32) (Ls2 : List Int32) (Ls3 : List Int32) (Ls4 : List Int32) (Ls5 : List Int32) (Ls6 : List Int32) (Ls7 : List Int32) (X118 : Stand p l e ({ frames := 2, cells := 3, slots := 18, locals := 31 } : Room) s m #[(.ref x0)] below meth c T118 lc118 3 18) (e118 : T118.heap = h118) (N118 : Fr n0 lc118) (Z118 : n0 ≤ h118.size) (f119 : Fld Z h118 x0 "com/example/rumorwire/rumorwire/TreeSolver" "parent" "[I" (.ref bP)) (f120 : Fld Z h118 x0 "com/example/rumorwire/rumorwire/TreeSolver" "childStart" "[I" (.ref bS)) (f121 : Fld Z h118 x0 "com/example/rumorwire/rumorwire/TreeSolver" "children" "[I" (.ref bC)) (f122 : Fld Z h118 x0 "com/example/rumorwire/rumorwire/TreeSolver" "time" "[I" (.ref bT)) (f123 : Fld Z h118 x0 "com/example/rumorwire/rumorwire/TreeSolver" "finished" "[I" (.ref bF)) (f124 : Arv Z h118 bP kP .int (6 : Int32) (Ls0.map Value.int) (.int (0 : Int32))) (f125 : Arv Z h118 bS kS .int (7 : Int32) (Ls1.map Value.int) (.int (0 : Int32))) (f126 : Arv Z h118 bC kC .int nC (Ls2.map Value.int) (.int (0 : Int32))) (f127 : Arv Z h118 bT kT .int (6 : Int32) (Ls3.map Value.int) (.int (0 : Int32))) (f128 : Arv Z h118 bF kF .int (6 : Int32) (Ls4.map Value.int) (.int (0 : Int32))) (f129 : Exa Z h118 x0 "com/example/rumorwire/rumorwire/TreeSolver") (f130 : Arv Z h118 b23 k23 .int (6 : Int32) (Ls5.map Value.int) (.int (0 : Int32))) (f131 : Arv Z h118 b46 k46 .int (6 : Int32) (Ls6.map Value.int) (.int (0 : Int32))) (f132 : Arv Z h118 b2 k2 .int (6 : Int32) (Ls7.map Value.int) (.int (0 : Int32))) (K118 : Keep h0 h118 [bC, bT, bF]) (hr : m_fin_f nC k118 3 i5 i6 i7 Ls0 Ls1 Ls2 Ls3 Ls4 Ls5 Ls6 Ls7 = some (C', T', F')) (hsl8 : sl8 = .unset ∨ ∃ w, sl8 = .val w ∧ w.category = 1) (hk206 : k118 < fu103 + 1), own_Ends p e below s ({ frames := 2, cells := 3, slots := 18, locals := 31 } : Room).cells ({ frames := 2, cells := 3, slots := 18, locals := 31 } : Room).slots (Q_rm8 Z x0 bP bS bC bT bF kP kS kC kT kF nC P S C T F C' T' F' h0 n0) (T118.setTop (mkF m 206 #[.val (.ref x0), .val (.int (6 : Int32)), .val (.ref b2), .val (.ref b23), .val (.ref b46), .val (.int i5), .val (.int i6), .val (.int i7), sl8] [])) := by
            intro k118
            induction k118 using Nat.strongRecOn with
            | _ k118 ih118 =>
              intro T118 h118 lc118 i5 i6 i7 sl8 Ls0 Ls1 Ls2 Ls3 Ls4 Ls5 Ls6 Ls7 X118 e118 N118 Z118 f119 f120 f121 f122 f123 f124 f125 f126 f127 f128 f129 f130 f131 f132 K118 hr hsl8 hk206
              obtain ⟨fu118, rfl⟩ : ∃ f, k118 = f + 1 := by
                cases k118 with
                | zero => rw [m_fin_z] at hr; cases hr
                | succ f => exact ⟨f, rfl⟩
              rw [m_fin_206] at hr
              refine own_step (st' := T118.setTop (mkF m 207 #[.val (.ref x0), .val (.int (6 : Int32)), .val (.ref b2), .val (.ref b23), .val (.ref b46), .val (.int i5), .val (.int i6), .val (.int i7), sl8] [(.ref b23)])) (fun t k => XS.aloadN X118.here hx rfl (hb hby d8_206) rfl rfl k) ?_
              refine own_step (st' := T118.setTop (mkF m 209 #[.val (.ref x0), .val (.int (6 : Int32)), .val (.ref b2), .val (.ref b23), .val (.ref b46), .val (.int i5), .val (.int i6), .val (.int i7), sl8] [(.int i7), (.ref b23)])) (fun t k => XS.iload X118.here hx rfl (hb hby d8_207) rfl k) ?_
              obtain ⟨z133, hz133, rz133⟩ := own_bind hr
              clear hr
              refine own_step (st' := T118.setTop (mkF m 210 #[.val (.ref x0), .val (.int (6 : Int32)), .val (.ref b2), .val (.ref b23), .val (.ref b46), .val (.int i5), .val (.int i6), .val (.int i7), sl8] [(.int z133)])) (fun t k => own_ldI X118 hx hZ e118 f130 (j := i7) (v := (.int z133)) (own_gd hz133).1 (own_gd hz133).2 (g := (mkF m 209 #[.val (.ref x0), .val (.int (6 : Int32)), .val (.ref b2), .val (.ref b23), .val (.ref b46), .val (.int i5), .val (.int i6), .val (.int i7), sl8] [(.int i7), (.ref b23)])) rfl rfl (hb hby d8_209) t k) ?_
              refine own_step (st' := T118.setTop (mkF m 212 #[.val (.ref x0), .val (.int (6 : Int32)), .val (.ref b2), .val (.ref b23), .val (.ref b46), .val (.int i5), .val (.int i6), .val (.int z133), sl8] [])) (fun t k => XS.istore X118.here hx rfl (hb hby d8_210) rfl (l' := #[.val (.ref x0), .val (.int (6 : Int32)), .val (.ref b2), .val (.ref b23), .val (.ref b46), .val (.int i5), .val (.int i6), .val (.int z133), sl8]) rfl k) ?_
              refine own_step (st' := T118.setTop (mkF m 88 #[.val (.ref x0), .val (.int (6 : Int32)), .val (.ref b2), .val (.ref b23), .val (.ref b46), .val (.int i5), .val (.int i6), .val (.int z133), sl8] [])) (fun t k => XS.goto X118.here hx rfl (pc0 := 212) (pc' := 88) rfl (hb hby d8_212) (by decide) (by decide) k) ?_
              exact ih103 fu118 (by omega) _ _ _ i5 i6 z133 sl8 Ls0 Ls1 Ls2 Ls3 Ls4 Ls5 Ls6 Ls7 X118 e118 N118 Z118 f119 f120 f121 f122 f123 f124 f125 f126 f127 f128 f129 f130 f131 f132 K118 rz133 hsl8 (by omega)
          refine own_step (st' := T103.setTop (mkF m 90 #[.val (.ref x0), .val (.int (6 : Int32)), .val (.ref b2), .val (.ref b23), .val (.ref b46), .val (.int i5), .val (.int i6), .val (.int i7), sl8] [(.int i7)])) (fun t k => XS.iload X103.here hx rfl (hb hby d8_88) rfl k) ?_
          by_cases hc134 : i7 < (0 : Int32)
          · have r135 := own_if1 hc134 hr
            clear hr
            refine own_step (st' := T103.setTop (mkF m 215 #[.val (.ref x0), .val (.int (6 : Int32)), .val (.ref b2), .val (.ref b23), .val (.ref b46), .val (.int i5), .val (.int i6), .val (.int i7), sl8] [])) (fun t k => XS.ifYes X103.here hx rfl (pc0 := 90) (pc' := 215) rfl (hb hby d8_90) rfl ((if0 _ _).trans (tlt hc134).1) (by decide) (by decide) k) ?_
            refine own_step (st' := T103.setTop (mkF m 218 #[.val (.ref x0), .val (.int (6 : Int32)), .val (.ref b2), .val (.ref b23), .val (.ref b46), .val (.int i5), .val (.int (i6 + (1 : Int32))), .val (.int i7), sl8] [])) (fun t k => XS.iinc X103.here hx rfl (hb hby d8_215) rfl (l' := #[.val (.ref x0), .val (.int (6 : Int32)), .val (.ref b2), .val (.ref b23), .val (.ref b46), .val (.int i5), .val (.int (i6 + (1 : Int32))), .val (.int i7), sl8]) rfl k) ?_
            refine own_step (st' := T103.setTop (mkF m 76 #[.val (.ref x0), .val (.int (6 : Int32)), .val (.ref b2), .val (.ref b23), .val (.ref b46), .val (.int i5), .val (.int (i6 + (1 : Int32))), .val (.int i7), sl8] [])) (fun t k => XS.goto X103.here hx rfl (pc0 := 218) (pc' := 76) rfl (hb hby d8_218) (by decide) (by decide) k) ?_
            exact ih88 fu103 (by omega) _ _ _ i5 (i6 + (1 : Int32)) (.val (.int i7)) sl8 Ls0 Ls1 Ls2 Ls3 Ls4 Ls5 Ls6 Ls7 X103 e103 N103 Z103 f104 f105 f106 f107 f108 f109 f110 f111 f112 f113 f114 f115 f116 f117 K103 r135 (Or.inr ⟨_, rfl, rfl⟩) hsl8
          · have r136 := own_if0 hc134 hr
            clear hr
            refine own_step (st' := T103.setTop (mkF m 93 #[.val (.ref x0), .val (.int (6 : Int32)), .val (.ref b2), .val (.ref b23), .val (.ref b46), .val (.int i5), .val (.int i6), .val (.int i7), sl8] [])) (fun t k => XS.ifNo X103.here hx rfl (hb hby d8_90) rfl ((if0 _ _).trans (flt hc134).1) k) ?_
            refine own_step (st' := T103.setTop (mkF m 94 #[.val (.ref x0), .val (.int (6 : Int32)), .val (.ref b2), .val (.ref b23), .val (.ref b46), .val (.int i5), .val (.int i6), .val (.int i7), sl8] [(.ref x0)])) (fun t k => XS.aloadN X103.here hx rfl (hb hby d8_93) rfl rfl k) ?_
            obtain ⟨T137, X137, e137, st137⟩ := getF X103 hx hZ hown (host := "") (Or.inl (hw _ (List.mem_of_getElem? (i := 36) rfl))) Via.refl e103 f108 (g := (mkF m 94 #[.val (.ref x0), .val (.int (6 : Int32)), .val (.ref b2), .val (.ref b23), .val (.ref b46), .val (.int i5), .val (.int i6), .val (.int i7), sl8] [(.ref x0)])) rfl rfl (hb hby d8_94)
            refine own_step (st' := T137.setTop (mkF m 97 #[.val (.ref x0), .val (.int (6 : Int32)), .val (.ref b2), .val (.ref b23), .val (.ref b46), .val (.int i5), .val (.int i6), .val (.int i7), sl8] [(.ref bF)])) st137 ?_
            refine own_step (st' := T137.setTop (mkF m 99 #[.val (.ref x0), .val (.int (6 : Int32)), .val (.ref b2), .val (.ref b23), .val (.ref b46), .val (.int i5), .val (.int i6), .val (.int i7), sl8] [(.int i5), (.ref bF)])) (fun t k => XS.iload X137.here hx rfl (hb hby d8_97) rfl k) ?_
            refine own_step (st' := T137.setTop (mkF m 102 #[.val (.ref x0), .val (.int (6 : Int32)), .val (.ref b2), .val (.ref b23), .val (.ref b46), .val (.int (i5 + (1 : Int32))), .val (.int i6), .val (.int i7), sl8] [(.int i5), (.ref bF)])) (fun t k => XS.iinc X137.here hx rfl (hb hby d8_99) rfl (l' := #[.val (.ref x0), .val (.int (6 : Int32)), .val (.ref b2), .val (.ref b23), .val (.ref b46), .val (.int (i5 + (1 : Int32))), .val (.int i6), .val (.int i7), sl8]) rfl k) ?_
            refine own_step (st' := T137.setTop (mkF m 104 #[.val (.ref x0), .val (.int (6 : Int32)), .val (.ref b2), .val (.ref b23), .val (.ref b46), .val (.int (i5 + (1 : Int32))), .val (.int i6), .val (.int i7), sl8] [(.int i7), (.int i5), (.ref bF)])) (fun t k => XS.iload X137.here hx rfl (hb hby d8_102) rfl k) ?_
            obtain ⟨L139, hL139, rL139⟩ := own_bind r136
            clear r136
            obtain ⟨T138, h138, X138, e138, W138, V138, st138⟩ := own_stI X137 hx hZ e137 f113 (j := i5) (i := i5.toNatClampNeg) (own_pt hL139).1 rfl (own_pt hL139).2.1 (g := (mkF m 104 #[.val (.ref x0), .val (.int (6 : Int32)), .val (.ref b2), .val (.ref b23), .val (.ref b46), .val (.int (i5 + (1 : Int32))), .val (.int i6), .val (.int i7), sl8] [(.int i7), (.int i5), (.ref bF)])) rfl rfl (hb hby d8_104)
            have V138 : Arv Z h138 bF kF .int (6 : Int32) ((Ls4.map Value.int).set i5.toNatClampNeg (.int i7)) (.int (0 : Int32)) := V138
            rw [(own_pt hL139).2.2] at V138
            have f140 := f104.other W138 (Or.inl p_14)
            have f141 := f105.other W138 (Or.inl p_14)
            have f142 := f106.other W138 (Or.inl p_14)
            have f143 := f107.other W138 (Or.inl p_14)
            have f144 := f108.other W138 (Or.inl p_14)
            have f145 := f109.other W138 p_18
            have f146 := f110.other W138 p_21
            have f147 := f111.other W138 p_23
            have f148 := f112.other W138 p_24
            have f149 := f114.wr W138
            have f150 := f115.other W138 (Ne.symm ne29)
            have f151 := f116.other W138 (Ne.symm ne52)
            have f152 := f117.other W138 (Ne.symm ne8)
            have K153 : Keep h0 h138 [bC, bT, bF] := K103.wr W138 (Or.inl (List.mem_of_getElem? (i := 2) rfl))
            have Z154 : n0 ≤ h138.size := Nat.le_trans Z103 (Keep.of_wr W138).1
            have N155 := Fr.snoc X138 N103 p_27
            refine own_step (st' := T138.setTop (mkF m 105 #[.val (.ref x0), .val (.int (6 : Int32)), .val (.ref b2), .val (.ref b23), .val (.ref b46), .val (.int (i5 + (1 : Int32))), .val (.int i6), .val (.int i7), sl8] [])) st138 ?_
            refine own_step (st' := T138.setTop (mkF m 106 #[.val (.ref x0), .val (.int (6 : Int32)), .val (.ref b2), .val (.ref b23), .val (.ref b46), .val (.int (i5 + (1 : Int32))), .val (.int i6), .val (.int i7), sl8] [(.ref x0)])) (fun t k => XS.aloadN X138.here hx rfl (hb hby d8_105) rfl rfl k) ?_
            obtain ⟨T156, X156, e156, st156⟩ := getF X138 hx hZ hown (host := "") (Or.inl (hw _ (List.mem_of_getElem? (i := 28) rfl))) Via.refl e138 f140 (g := (mkF m 106 #[.val (.ref x0), .val (.int (6 : Int32)), .val (.ref b2), .val (.ref b23), .val (.ref b46), .val (.int (i5 + (1 : Int32))), .val (.int i6), .val (.int i7), sl8] [(.ref x0)])) rfl rfl (hb hby d8_106)
            refine own_step (st' := T156.setTop (mkF m 109 #[.val (.ref x0), .val (.int (6 : Int32)), .val (.ref b2), .val (.ref b23), .val (.ref b46), .val (.int (i5 + (1 : Int32))), .val (.int i6), .val (.int i7), sl8] [(.ref bP)])) st156 ?_
            refine own_step (st' := T156.setTop (mkF m 111 #[.val (.ref x0), .val (.int (6 : Int32)), .val (.ref b2), .val (.ref b23), .val (.ref b46), .val (.int (i5 + (1 : Int32))), .val (.int i6), .val (.int i7), sl8] [(.int i7), (.ref bP)])) (fun t k => XS.iload X156.here hx rfl (hb hby d8_109) rfl k) ?_
            obtain ⟨z157, hz157, rz157⟩ := own_bind rL139
            clear rL139
            refine own_step (st' := T156.setTop (mkF m 112 #[.val (.ref x0), .val (.int (6 : Int32)), .val (.ref b2), .val (.ref b23), .val (.ref b46), .val (.int (i5 + (1 : Int32))), .val (.int i6), .val (.int i7), sl8] [(.int z157)])) (fun t k => own_ldI X156 hx hZ e156 f145 (j := i7) (v := (.int z157)) (own_gd hz157).1 (own_gd hz157).2 (g := (mkF m 111 #[.val (.ref x0), .val (.int (6 : Int32)), .val (.ref b2), .val (.ref b23), .val (.ref b46), .val (.int (i5 + (1 : Int32))), .val (.int i6), .val (.int i7), sl8] [(.int i7), (.ref bP)])) rfl rfl (hb hby d8_111) t k) ?_
            refine own_step (st' := T156.setTop (mkF m 114 #[.val (.ref x0), .val (.int (6 : Int32)), .val (.ref b2), .val (.ref b23), .val (.ref b46), .val (.int (i5 + (1 : Int32))), .val (.int i6), .val (.int i7), .val (.int z157)] [])) (fun t k => XS.istore X156.here hx rfl (hb hby d8_112) rfl (l' := #[.val (.ref x0), .val (.int (6 : Int32)), .val (.ref b2), .val (.ref b23), .val (.ref b46), .val (.int (i5 + (1 : Int32))), .val (.int i6), .val (.int i7), .val (.int z157)]) (XS.store1 rfl hsl8 rfl) k) ?_
            refine own_step (st' := T156.setTop (mkF m 116 #[.val (.ref x0), .val (.int (6 : Int32)), .val (.ref b2), .val (.ref b23), .val (.ref b46), .val (.int (i5 + (1 : Int32))), .val (.int i6), .val (.int i7), .val (.int z157)] [(.int z157)])) (fun t k => XS.iload X156.here hx rfl (hb hby d8_114) rfl k) ?_
            by_cases hc158 : z157 < (0 : Int32)
            · have r159 := own_if1 hc158 rz157
              clear rz157
              refine own_step (st' := T156.setTop (mkF m 206 #[.val (.ref x0), .val (.int (6 : Int32)), .val (.ref b2), .val (.ref b23), .val (.ref b46), .val (.int (i5 + (1 : Int32))), .val (.int i6), .val (.int i7), .val (.int z157)] [])) (fun t k => XS.ifYes X156.here hx rfl (pc0 := 116) (pc' := 206) rfl (hb hby d8_116) rfl ((if0 _ _).trans (tlt hc158).1) (by decide) (by decide) k) ?_
              exact J118 _ _ _ _ (i5 + (1 : Int32)) i6 i7 (.val (.int z157)) Ls0 Ls1 Ls2 Ls3 L139 Ls5 Ls6 Ls7 X156 e156 N155 Z154 f140 f141 f142 f143 f144 f145 f146 f147 f148 V138 f149 f150 f151 f152 K153 r159 (Or.inr ⟨_, rfl, rfl⟩) (by omega)
            · have r160 := own_if0 hc158 rz157
              clear rz157
              refine own_step (st' := T156.setTop (mkF m 119 #[.val (.ref x0), .val (.int (6 : Int32)), .val (.ref b2), .val (.ref b23), .val (.ref b46), .val (.int (i5 + (1 : Int32))), .val (.int i6), .val (.int i7), .val (.int z157)] [])) (fun t k => XS.ifNo X156.here hx rfl (hb hby d8_116) rfl ((if0 _ _).trans (flt hc158).1) k) ?_
              refine own_step (st' := T156.setTop (mkF m 120 #[.val (.ref x0), .val (.int (6 : Int32)), .val (.ref b2), .val (.ref b23), .val (.ref b46), .val (.int (i5 + (1 : Int32))), .val (.int i6), .val (.int i7), .val (.int z157)] [(.ref x0)])) (fun t k => XS.aloadN X156.here hx rfl (hb hby d8_119) rfl rfl k) ?_
              obtain ⟨T161, X161, e161, st161⟩ := getF X156 hx hZ hown (host := "") (Or.inl (hw _ (List.mem_of_getElem? (i := 32) rfl))) Via.refl e156 f142 (g := (mkF m 120 #[.val (.ref x0), .val (.int (6 : Int32)), .val (.ref b2), .val (.ref b23), .val (.ref b46), .val (.int (i5 + (1 : Int32))), .val (.int i6), .val (.int i7), .val (.int z157)] [(.ref x0)])) rfl rfl (hb hby d8_120)
              refine own_step (st' := T161.setTop (mkF m 123 #[.val (.ref x0), .val (.int (6 : Int32)), .val (.ref b2), .val (.ref b23), .val (.ref b46), .val (.int (i5 + (1 : Int32))), .val (.int i6), .val (.int i7), .val (.int z157)] [(.ref bC)])) st161 ?_
              refine own_step (st' := T161.setTop (mkF m 124 #[.val (.ref x0), .val (.int (6 : Int32)), .val (.ref b2), .val (.ref b23), .val (.ref b46), .val (.int (i5 + (1 : Int32))), .val (.int i6), .val (.int i7), .val (.int z157)] [(.ref x0), (.ref bC)])) (fun t k => XS.aloadN X161.here hx rfl (hb hby d8_123) rfl rfl k) ?_
              obtain ⟨T162, X162, e162, st162⟩ := getF X161 hx hZ hown (host := "") (Or.inl (hw _ (List.mem_of_getElem? (i := 30) rfl))) Via.refl e161 f141 (g := (mkF m 124 #[.val (.ref x0), .val (.int (6 : Int32)), .val (.ref b2), .val (.ref b23), .val (.ref b46), .val (.int (i5 + (1 : Int32))), .val (.int i6), .val (.int i7), .val (.int z157)] [(.ref x0), (.ref bC)])) rfl rfl (hb hby d8_124)
              refine own_step (st' := T162.setTop (mkF m 127 #[.val (.ref x0), .val (.int (6 : Int32)), .val (.ref b2), .val (.ref b23), .val (.ref b46), .val (.int (i5 + (1 : Int32))), .val (.int i6), .val (.int i7), .val (.int z157)] [(.ref bS), (.ref bC)])) st162 ?_
              refine own_step (st' := T162.setTop (mkF m 129 #[.val (.ref x0), .val (.int (6 : Int32)), .val (.ref b2), .val (.ref b23), .val (.ref b46), .val (.int (i5 + (1 : Int32))), .val (.int i6), .val (.int i7), .val (.int z157)] [(.int z157), (.ref bS), (.ref bC)])) (fun t k => XS.iload X162.here hx rfl (hb hby d8_127) rfl k) ?_
              obtain ⟨z163, hz163, rz163⟩ := own_bind r160
              clear r160
              refine own_step (st' := T162.setTop (mkF m 130 #[.val (.ref x0), .val (.int (6 : Int32)), .val (.ref b2), .val (.ref b23), .val (.ref b46), .val (.int (i5 + (1 : Int32))), .val (.int i6), .val (.int i7), .val (.int z157)] [(.int z163), (.ref bC)])) (fun t k => own_ldI X162 hx hZ e162 f146 (j := z157) (v := (.int z163)) (own_gd hz163).1 (own_gd hz163).2 (g := (mkF m 129 #[.val (.ref x0), .val (.int (6 : Int32)), .val (.ref b2), .val (.ref b23), .val (.ref b46), .val (.int (i5 + (1 : Int32))), .val (.int i6), .val (.int i7), .val (.int z157)] [(.int z157), (.ref bS), (.ref bC)])) rfl rfl (hb hby d8_129) t k) ?_
              refine own_step (st' := T162.setTop (mkF m 132 #[.val (.ref x0), .val (.int (6 : Int32)), .val (.ref b2), .val (.ref b23), .val (.ref b46), .val (.int (i5 + (1 : Int32))), .val (.int i6), .val (.int i7), .val (.int z157)] [(.ref b46), (.int z163), (.ref bC)])) (fun t k => XS.aload X162.here hx rfl (hb hby d8_130) rfl rfl k) ?_
              refine own_step (st' := T162.setTop (mkF m 134 #[.val (.ref x0), .val (.int (6 : Int32)), .val (.ref b2), .val (.ref b23), .val (.ref b46), .val (.int (i5 + (1 : Int32))), .val (.int i6), .val (.int i7), .val (.int z157)] [(.int z157), (.ref b46), (.int z163), (.ref bC)])) (fun t k => XS.iload X162.here hx rfl (hb hby d8_132) rfl k) ?_
              refine own_step (st' := T162.setTop (mkF m 135 #[.val (.ref x0), .val (.int (6 : Int32)), .val (.ref b2), .val (.ref b23), .val (.ref b46), .val (.int (i5 + (1 : Int32))), .val (.int i6), .val (.int i7), .val (.int z157)] [(.int z157), (.ref b46), (.int z157), (.ref b46), (.int z163), (.ref bC)])) (fun t k => Jvm.Free.XT.dup2 X162.here hx rfl (hb hby d8_134) rfl rfl rfl k) ?_
              obtain ⟨z164, hz164, rz164⟩ := own_bind rz163
              clear rz163
              refine own_step (st' := T162.setTop (mkF m 136 #[.val (.ref x0), .val (.int (6 : Int32)), .val (.ref b2), .val (.ref b23), .val (.ref b46), .val (.int (i5 + (1 : Int32))), .val (.int i6), .val (.int i7), .val (.int z157)] [(.int z164), (.int z157), (.ref b46), (.int z163), (.ref bC)])) (fun t k => own_ldI X162 hx hZ e162 f151 (j := z157) (v := (.int z164)) (own_gd hz164).1 (own_gd hz164).2 (g := (mkF m 135 #[.val (.ref x0), .val (.int (6 : Int32)), .val (.ref b2), .val (.ref b23), .val (.ref b46), .val (.int (i5 + (1 : Int32))), .val (.int i6), .val (.int i7), .val (.int z157)] [(.int z157), (.ref b46), (.int z157), (.ref b46), (.int z163), (.ref bC)])) rfl rfl (hb hby d8_135) t k) ?_
              refine own_step (st' := T162.setTop (mkF m 137 #[.val (.ref x0), .val (.int (6 : Int32)), .val (.ref b2), .val (.ref b23), .val (.ref b46), .val (.int (i5 + (1 : Int32))), .val (.int i6), .val (.int i7), .val (.int z157)] [(.int z164), (.int z157), (.ref b46), (.int z164), (.int z163), (.ref bC)])) (fun t k => own_dupX2 X162.here hx rfl (hb hby d8_136) rfl rfl rfl rfl k) ?_
              refine own_step (st' := T162.setTop (mkF m 138 #[.val (.ref x0), .val (.int (6 : Int32)), .val (.ref b2), .val (.ref b23), .val (.ref b46), .val (.int (i5 + (1 : Int32))), .val (.int i6), .val (.int i7), .val (.int z157)] [(.int (1 : Int32)), (.int z164), (.int z157), (.ref b46), (.int z164), (.int z163), (.ref bC)])) (fun t k => XS.iconst X162.here hx rfl (hb hby d8_137) k) ?_
              refine own_step (st' := T162.setTop (mkF m 139 #[.val (.ref x0), .val (.int (6 : Int32)), .val (.ref b2), .val (.ref b23), .val (.ref b46), .val (.int (i5 + (1 : Int32))), .val (.int i6), .val (.int i7), .val (.int z157)] [(.int (z164 + (1 : Int32))), (.int z157), (.ref b46), (.int z164), (.int z163), (.ref bC)])) (fun t k => XS.iadd X162.here hx rfl (hb hby d8_138) rfl k) ?_
              obtain ⟨L166, hL166, rL166⟩ := own_bind rz164
              clear rz164
              obtain ⟨T165, h165, X165, e165, W165, V165, st165⟩ := own_stI X162 hx hZ e162 f151 (j := z157) (i := z157.toNatClampNeg) (own_pt hL166).1 rfl (own_pt hL166).2.1 (g := (mkF m 139 #[.val (.ref x0), .val (.int (6 : Int32)), .val (.ref b2), .val (.ref b23), .val (.ref b46), .val (.int (i5 + (1 : Int32))), .val (.int i6), .val (.int i7), .val (.int z157)] [(.int (z164 + (1 : Int32))), (.int z157), (.ref b46), (.int z164), (.int z163), (.ref bC)])) rfl rfl (hb hby d8_139)
              have V165 : Arv Z h165 b46 k46 .int (6 : Int32) ((Ls6.map Value.int).set z157.toNatClampNeg (.int (z164 + (1 : Int32)))) (.int (0 : Int32)) := V165
              rw [(own_pt hL166).2.2] at V165
              have f167 := f140.other W165 (Or.inl ne47)
              have f168 := f141.other W165 (Or.inl ne47)
              have f169 := f142.other W165 (Or.inl ne47)
              have f170 := f143.other W165 (Or.inl ne47)
              have f171 := f144.other W165 (Or.inl ne47)
              have f172 := f145.other W165 ne48
              have f173 := f146.other W165 ne49
              have f174 := f147.other W165 ne50
              have f175 := f148.other W165 ne51
              have f176 := f149.wr W165
              have f177 := f150.other W165 ne54
              have f178 := f152.other W165 ne53
              have f179 := V138.other W165 ne52
              have K180 : Keep h0 h165 [bC, bT, bF] := K153.wr W165 (Or.inr sz_b46)
              have Z181 : n0 ≤ h165.size := Nat.le_trans Z154 (Keep.of_wr W165).1
              have N182 := Fr.snoc X165 N155 g_b46
              refine own_step (st' := T165.setTop (mkF m 140 #[.val (.ref x0), .val (.int (6 : Int32)), .val (.ref b2), .val (.ref b23), .val (.ref b46), .val (.int (i5 + (1 : Int32))), .val (.int i6), .val (.int i7), .val (.int z157)] [(.int z164), (.int z163), (.ref bC)])) st165 ?_
              refine own_step (st' := T165.setTop (mkF m 141 #[.val (.ref x0), .val (.int (6 : Int32)), .val (.ref b2), .val (.ref b23), .val (.ref b46), .val (.int (i5 + (1 : Int32))), .val (.int i6), .val (.int i7), .val (.int z157)] [(.int (z163 + z164)), (.ref bC)])) (fun t k => XS.iadd X165.here hx rfl (hb hby d8_140) rfl k) ?_
              refine own_step (st' := T165.setTop (mkF m 143 #[.val (.ref x0), .val (.int (6 : Int32)), .val (.ref b2), .val (.ref b23), .val (.ref b46), .val (.int (i5 + (1 : Int32))), .val (.int i6), .val (.int i7), .val (.int z157)] [(.int i7), (.int (z163 + z164)), (.ref bC)])) (fun t k => XS.iload X165.here hx rfl (hb hby d8_141) rfl k) ?_
              obtain ⟨L184, hL184, rL184⟩ := own_bind rL166
              clear rL166
              obtain ⟨T183, h183, X183, e183, W183, V183, st183⟩ := own_stI X165 hx hZ e165 f174 (j := (z163 + z164)) (i := (z163 + z164).toNatClampNeg) (own_pt hL184).1 rfl (own_pt hL184).2.1 (g := (mkF m 143 #[.val (.ref x0), .val (.int (6 : Int32)), .val (.ref b2), .val (.ref b23), .val (.ref b46), .val (.int (i5 + (1 : Int32))), .val (.int i6), .val (.int i7), .val (.int z157)] [(.int i7), (.int (z163 + z164)), (.ref bC)])) rfl rfl (hb hby d8_143)
              have V183 : Arv Z h183 bC kC .int nC ((Ls2.map Value.int).set (z163 + z164).toNatClampNeg (.int i7)) (.int (0 : Int32)) := V183
              rw [(own_pt hL184).2.2] at V183
              have f185 := f167.other W183 (Or.inl p_12)
              have f186 := f168.other W183 (Or.inl p_12)
              have f187 := f169.other W183 (Or.inl p_12)
              have f188 := f170.other W183 (Or.inl p_12)
              have f189 := f171.other W183 (Or.inl p_12)
              have f190 := f172.other W183 p_16
              have f191 := f173.other W183 p_19
              have f192 := f175.other W183 (Ne.symm p_22)
              have f193 := f176.wr W183
              have f194 := f177.other W183 (Ne.symm ne27)
              have f195 := f178.other W183 (Ne.symm ne6)
              have f196 := f179.other W183 (Ne.symm p_23)
              have f197 := V165.other W183 (Ne.symm ne50)
              have K198 : Keep h0 h183 [bC, bT, bF] := K180.wr W183 (Or.inl (List.mem_of_getElem? (i := 0) rfl))
              have Z199 : n0 ≤ h183.size := Nat.le_trans Z181 (Keep.of_wr W183).1
              have N200 := Fr.snoc X183 N182 p_25
              refine own_step (st' := T183.setTop (mkF m 144 #[.val (.ref x0), .val (.int (6 : Int32)), .val (.ref b2), .val (.ref b23), .val (.ref b46), .val (.int (i5 + (1 : Int32))), .val (.int i6), .val (.int i7), .val (.int z157)] [])) st183 ?_
              refine own_step (st' := T183.setTop (mkF m 145 #[.val (.ref x0), .val (.int (6 : Int32)), .val (.ref b2), .val (.ref b23), .val (.ref b46), .val (.int (i5 + (1 : Int32))), .val (.int i6), .val (.int i7), .val (.int z157)] [(.ref x0)])) (fun t k => XS.aloadN X183.here hx rfl (hb hby d8_144) rfl rfl k) ?_
              obtain ⟨T201, X201, e201, st201⟩ := getF X183 hx hZ hown (host := "") (Or.inl (hw _ (List.mem_of_getElem? (i := 30) rfl))) Via.refl e183 f186 (g := (mkF m 145 #[.val (.ref x0), .val (.int (6 : Int32)), .val (.ref b2), .val (.ref b23), .val (.ref b46), .val (.int (i5 + (1 : Int32))), .val (.int i6), .val (.int i7), .val (.int z157)] [(.ref x0)])) rfl rfl (hb hby d8_145)
              refine own_step (st' := T201.setTop (mkF m 148 #[.val (.ref x0), .val (.int (6 : Int32)), .val (.ref b2), .val (.ref b23), .val (.ref b46), .val (.int (i5 + (1 : Int32))), .val (.int i6), .val (.int i7), .val (.int z157)] [(.ref bS)])) st201 ?_
              refine own_step (st' := T201.setTop (mkF m 150 #[.val (.ref x0), .val (.int (6 : Int32)), .val (.ref b2), .val (.ref b23), .val (.ref b46), .val (.int (i5 + (1 : Int32))), .val (.int i6), .val (.int i7), .val (.int z157)] [(.int z157), (.ref bS)])) (fun t k => XS.iload X201.here hx rfl (hb hby d8_148) rfl k) ?_
              obtain ⟨z202, hz202, rz202⟩ := own_bind rL184
              clear rL184
              refine own_step (st' := T201.setTop (mkF m 151 #[.val (.ref x0), .val (.int (6 : Int32)), .val (.ref b2), .val (.ref b23), .val (.ref b46), .val (.int (i5 + (1 : Int32))), .val (.int i6), .val (.int i7), .val (.int z157)] [(.int z202)])) (fun t k => own_ldI X201 hx hZ e201 f191 (j := z157) (v := (.int z202)) (own_gd hz202).1 (own_gd hz202).2 (g := (mkF m 150 #[.val (.ref x0), .val (.int (6 : Int32)), .val (.ref b2), .val (.ref b23), .val (.ref b46), .val (.int (i5 + (1 : Int32))), .val (.int i6), .val (.int i7), .val (.int z157)] [(.int z157), (.ref bS)])) rfl rfl (hb hby d8_150) t k) ?_
              refine own_step (st' := T201.setTop (mkF m 153 #[.val (.ref x0), .val (.int (6 : Int32)), .val (.ref b2), .val (.ref b23), .val (.ref b46), .val (.int (i5 + (1 : Int32))), .val (.int i6), .val (.int i7), .val (.int z157)] [(.ref b46), (.int z202)])) (fun t k => XS.aload X201.here hx rfl (hb hby d8_151) rfl rfl k) ?_
              refine own_step (st' := T201.setTop (mkF m 155 #[.val (.ref x0), .val (.int (6 : Int32)), .val (.ref b2), .val (.ref b23), .val (.ref b46), .val (.int (i5 + (1 : Int32))), .val (.int i6), .val (.int i7), .val (.int z157)] [(.int z157), (.ref b46), (.int z202)])) (fun t k => XS.iload X201.here hx rfl (hb hby d8_153) rfl k) ?_
              obtain ⟨z203, hz203, rz203⟩ := own_bind rz202
              clear rz202
              refine own_step (st' := T201.setTop (mkF m 156 #[.val (.ref x0), .val (.int (6 : Int32)), .val (.ref b2), .val (.ref b23), .val (.ref b46), .val (.int (i5 + (1 : Int32))), .val (.int i6), .val (.int i7), .val (.int z157)] [(.int z203), (.int z202)])) (fun t k => own_ldI X201 hx hZ e201 f197 (j := z157) (v := (.int z203)) (own_gd hz203).1 (own_gd hz203).2 (g := (mkF m 155 #[.val (.ref x0), .val (.int (6 : Int32)), .val (.ref b2), .val (.ref b23), .val (.ref b46), .val (.int (i5 + (1 : Int32))), .val (.int i6), .val (.int i7), .val (.int z157)] [(.int z157), (.ref b46), (.int z202)])) rfl rfl (hb hby d8_155) t k) ?_
              refine own_step (st' := T201.setTop (mkF m 157 #[.val (.ref x0), .val (.int (6 : Int32)), .val (.ref b2), .val (.ref b23), .val (.ref b46), .val (.int (i5 + (1 : Int32))), .val (.int i6), .val (.int i7), .val (.int z157)] [(.int (z202 + z203))])) (fun t k => XS.iadd X201.here hx rfl (hb hby d8_156) rfl k) ?_
              refine own_step (st' := T201.setTop (mkF m 158 #[.val (.ref x0), .val (.int (6 : Int32)), .val (.ref b2), .val (.ref b23), .val (.ref b46), .val (.int (i5 + (1 : Int32))), .val (.int i6), .val (.int i7), .val (.int z157)] [(.ref x0), (.int (z202 + z203))])) (fun t k => XS.aloadN X201.here hx rfl (hb hby d8_157) rfl rfl k) ?_
              obtain ⟨T204, X204, e204, st204⟩ := getF X201 hx hZ hown (host := "") (Or.inl (hw _ (List.mem_of_getElem? (i := 30) rfl))) Via.refl e201 f186 (g := (mkF m 158 #[.val (.ref x0), .val (.int (6 : Int32)), .val (.ref b2), .val (.ref b23), .val (.ref b46), .val (.int (i5 + (1 : Int32))), .val (.int i6), .val (.int i7), .val (.int z157)] [(.ref x0), (.int (z202 + z203))])) rfl rfl (hb hby d8_158)
              refine own_step (st' := T204.setTop (mkF m 161 #[.val (.ref x0), .val (.int (6 : Int32)), .val (.ref b2), .val (.ref b23), .val (.ref b46), .val (.int (i5 + (1 : Int32))), .val (.int i6), .val (.int i7), .val (.int z157)] [(.ref bS), (.int (z202 + z203))])) st204 ?_
              refine own_step (st' := T204.setTop (mkF m 163 #[.val (.ref x0), .val (.int (6 : Int32)), .val (.ref b2), .val (.ref b23), .val (.ref b46), .val (.int (i5 + (1 : Int32))), .val (.int i6), .val (.int i7), .val (.int z157)] [(.int z157), (.ref bS), (.int (z202 + z203))])) (fun t k => XS.iload X204.here hx rfl (hb hby d8_161) rfl k) ?_
              refine own_step (st' := T204.setTop (mkF m 164 #[.val (.ref x0), .val (.int (6 : Int32)), .val (.ref b2), .val (.ref b23), .val (.ref b46), .val (.int (i5 + (1 : Int32))), .val (.int i6), .val (.int i7), .val (.int z157)] [(.int (1 : Int32)), (.int z157), (.ref bS), (.int (z202 + z203))])) (fun t k => XS.iconst X204.here hx rfl (hb hby d8_163) k) ?_
              refine own_step (st' := T204.setTop (mkF m 165 #[.val (.ref x0), .val (.int (6 : Int32)), .val (.ref b2), .val (.ref b23), .val (.ref b46), .val (.int (i5 + (1 : Int32))), .val (.int i6), .val (.int i7), .val (.int z157)] [(.int (z157 + (1 : Int32))), (.ref bS), (.int (z202 + z203))])) (fun t k => XS.iadd X204.here hx rfl (hb hby d8_164) rfl k) ?_
              obtain ⟨z205, hz205, rz205⟩ := own_bind rz203
              clear rz203
              refine own_step (st' := T204.setTop (mkF m 166 #[.val (.ref x0), .val (.int (6 : Int32)), .val (.ref b2), .val (.ref b23), .val (.ref b46), .val (.int (i5 + (1 : Int32))), .val (.int i6), .val (.int i7), .val (.int z157)] [(.int z205), (.int (z202 + z203))])) (fun t k => own_ldI X204 hx hZ e204 f191 (j := (z157 + (1 : Int32))) (v := (.int z205)) (own_gd hz205).1 (own_gd hz205).2 (g := (mkF m 165 #[.val (.ref x0), .val (.int (6 : Int32)), .val (.ref b2), .val (.ref b23), .val (.ref b46), .val (.int (i5 + (1 : Int32))), .val (.int i6), .val (.int i7), .val (.int z157)] [(.int (z157 + (1 : Int32))), (.ref bS), (.int (z202 + z203))])) rfl rfl (hb hby d8_165) t k) ?_
              by_cases hc206 : (z202 + z203) = z205
              · have r207 := own_if1 hc206 rz205
                clear rz205
                refine own_step (st' := T204.setTop (mkF m 169 #[.val (.ref x0), .val (.int (6 : Int32)), .val (.ref b2), .val (.ref b23), .val (.ref b46), .val (.int (i5 + (1 : Int32))), .val (.int i6), .val (.int i7), .val (.int z157)] [])) (fun t k => XS.icmpNo X204.here hx rfl (hb hby d8_166) rfl (teq hc206).2 k) ?_
                refine own_step (st' := T204.setTop (mkF m 170 #[.val (.ref x0), .val (.int (6 : Int32)), .val (.ref b2), .val (.ref b23), .val (.ref b46), .val (.int (i5 + (1 : Int32))), .val (.int i6), .val (.int i7), .val (.int z157)] [(.ref x0)])) (fun t k => XS.aloadN X204.here hx rfl (hb hby d8_169) rfl rfl k) ?_
                obtain ⟨T208, X208, e208, st208⟩ := getF X204 hx hZ hown (host := "") (Or.inl (hw _ (List.mem_of_getElem? (i := 34) rfl))) Via.refl e204 f188 (g := (mkF m 170 #[.val (.ref x0), .val (.int (6 : Int32)), .val (.ref b2), .val (.ref b23), .val (.ref b46), .val (.int (i5 + (1 : Int32))), .val (.int i6), .val (.int i7), .val (.int z157)] [(.ref x0)])) rfl rfl (hb hby d8_170)
                refine own_step (st' := T208.setTop (mkF m 173 #[.val (.ref x0), .val (.int (6 : Int32)), .val (.ref b2), .val (.ref b23), .val (.ref b46), .val (.int (i5 + (1 : Int32))), .val (.int i6), .val (.int i7), .val (.int z157)] [(.ref bT)])) st208 ?_
                refine own_step (st' := T208.setTop (mkF m 175 #[.val (.ref x0), .val (.int (6 : Int32)), .val (.ref b2), .val (.ref b23), .val (.ref b46), .val (.int (i5 + (1 : Int32))), .val (.int i6), .val (.int i7), .val (.int z157)] [(.int z157), (.ref bT)])) (fun t k => XS.iload X208.here hx rfl (hb hby d8_173) rfl k) ?_
                refine own_step (st' := T208.setTop (mkF m 176 #[.val (.ref x0), .val (.int (6 : Int32)), .val (.ref b2), .val (.ref b23), .val (.ref b46), .val (.int (i5 + (1 : Int32))), .val (.int i6), .val (.int i7), .val (.int z157)] [(.ref x0), (.int z157), (.ref bT)])) (fun t k => XS.aloadN X208.here hx rfl (hb hby d8_175) rfl rfl k) ?_
                refine own_step (st' := T208.setTop (mkF m 178 #[.val (.ref x0), .val (.int (6 : Int32)), .val (.ref b2), .val (.ref b23), .val (.ref b46), .val (.int (i5 + (1 : Int32))), .val (.int i6), .val (.int i7), .val (.int z157)] [(.int z157), (.ref x0), (.int z157), (.ref bT)])) (fun t k => XS.iload X208.here hx rfl (hb hby d8_176) rfl k) ?_
                obtain ⟨o209, ho209, ro209⟩ := own_bind r207
                clear r207
                obtain ⟨cq210, q210, q210'⟩ := f193.cell
                obtain ⟨_, _, ⟨T210, L210, k210, n210⟩, -, X210, ⟨Lc210, hQ210, l210, y210, z210⟩, st210⟩ := X208.privateBack hx (y := (⟨"com/example/rumorwire/rumorwire/TreeSolver", "timeFromChildren", "(I)I"⟩ : MethodName)) hown (mvT hZ (hw _ (List.mem_of_getElem? (i := 46) rfl))) (mvT hZ (hw _ (List.mem_of_getElem? (i := 47) rfl))) (own_selp (y := (⟨"com/example/rumorwire/rumorwire/TreeSolver", "timeFromChildren", "(I)I"⟩ : MethodName)) (mvT hZ (hw _ (List.mem_of_getElem? (i := 47) rfl))) (own_nf (args := #[]) (y := (⟨"com/example/rumorwire/rumorwire/TreeSolver", "informedIn", "()[I"⟩ : MethodName)) rfl (mvT hZ (hw _ (List.mem_of_getElem? (i := 53) rfl))) (notFace_of_selects (args := #[]) (mvT hZ (hw _ (List.mem_of_getElem? (i := 54) rfl))))) (Cond.privateMethod_at (mvP hZ (hw _ (List.mem_of_getElem? (i := 48) rfl)) (args := #[]))) (by decide)) (Cond.privateMethod_at (mvP hZ (hw _ (List.mem_of_getElem? (i := 48) rfl)) (args := #[]))) (mvT hZ (hw _ (List.mem_of_getElem? (i := 49) rfl))) (by decide) (backOf (W := 2) (rm10 l Z a0 hw [] x0 z157 bP bS bC bT bF kP kS kC kT kF nC Ls0 Ls1 L184 Ls3 L139 o209 h183 n0 Z199 f185 f186 f187 f188 f189 f190 f191 V183 f192 f196 ho209) hZ (hw _ (List.mem_of_getElem? (i := 49) rfl)) (hw _ (List.mem_of_getElem? (i := 21) rfl)) (by decide) (by decide)) (g := (mkF m 178 #[.val (.ref x0), .val (.int (6 : Int32)), .val (.ref b2), .val (.ref b23), .val (.ref b46), .val (.int (i5 + (1 : Int32))), .val (.int i6), .val (.int i7), .val (.int z157)] [(.int z157), (.ref x0), (.int z157), (.ref bT)])) rfl (by rw [hml]; rfl) (Steps.refl _) (a := x0) (by rw [e208]; exact q210) q210' (argsL := [(.int z157)]) (rest := [(.int z157), (.ref bT)]) (lenOf pd_8 rfl) rfl (by show 2 * 0 + _ ≤ _; exact Nat.le_of_eq rfl) (hb hby d8_178) (fun _ _ => ⟨rfl, e208, (by decide : 3 + 0 ≤ _), (by decide : 18 + 0 ≤ _)⟩)
                dsimp only [Pt.U, Pt.locs, Pt.cells, Pt.slots] at X210 l210 y210 z210 st210 hQ210
                subst y210 z210
                obtain ⟨rfl, N210q, e210⟩ := hQ210
                have N210 := Fr.app N200 N210q
                rw [← l210] at N210
                clear l210
                refine own_step (st' := T210.setTop (mkF m 181 #[.val (.ref x0), .val (.int (6 : Int32)), .val (.ref b2), .val (.ref b23), .val (.ref b46), .val (.int (i5 + (1 : Int32))), .val (.int i6), .val (.int i7), .val (.int z157)] [(.int o209), (.int z157), (.ref bT)])) (fun t k => st210.trans k) ?_
                obtain ⟨L212, hL212, rL212⟩ := own_bind ro209
                clear ro209
                obtain ⟨T211, h211, X211, e211, W211, V211, st211⟩ := own_stI X210 hx hZ e210 f192 (j := z157) (i := z157.toNatClampNeg) (own_pt hL212).1 rfl (own_pt hL212).2.1 (g := (mkF m 181 #[.val (.ref x0), .val (.int (6 : Int32)), .val (.ref b2), .val (.ref b23), .val (.ref b46), .val (.int (i5 + (1 : Int32))), .val (.int i6), .val (.int i7), .val (.int z157)] [(.int o209), (.int z157), (.ref bT)])) rfl rfl (hb hby d8_181)
                have V211 : Arv Z h211 bT kT .int (6 : Int32) ((Ls3.map Value.int).set z157.toNatClampNeg (.int o209)) (.int (0 : Int32)) := V211
                rw [(own_pt hL212).2.2] at V211
                have f213 := f185.other W211 (Or.inl p_13)
                have f214 := f186.other W211 (Or.inl p_13)
                have f215 := f187.other W211 (Or.inl p_13)
                have f216 := f188.other W211 (Or.inl p_13)
                have f217 := f189.other W211 (Or.inl p_13)
                have f218 := f190.other W211 p_17
                have f219 := f191.other W211 p_20
                have f220 := f193.wr W211
                have f221 := f194.other W211 (Ne.symm ne28)
                have f222 := f195.other W211 (Ne.symm ne7)
                have f223 := f196.other W211 (Ne.symm p_24)
                have f224 := f197.other W211 (Ne.symm ne51)
                have f225 := V183.other W211 p_22
                have K226 : Keep h0 h211 [bC, bT, bF] := K198.wr W211 (Or.inl (List.mem_of_getElem? (i := 1) rfl))
                have Z227 : n0 ≤ h211.size := Nat.le_trans Z199 (Keep.of_wr W211).1
                have N228 := Fr.snoc X211 N210 p_26
                refine own_step (st' := T211.setTop (mkF m 182 #[.val (.ref x0), .val (.int (6 : Int32)), .val (.ref b2), .val (.ref b23), .val (.ref b46), .val (.int (i5 + (1 : Int32))), .val (.int i6), .val (.int i7), .val (.int z157)] [])) st211 ?_
                refine own_step (st' := T211.setTop (mkF m 183 #[.val (.ref x0), .val (.int (6 : Int32)), .val (.ref b2), .val (.ref b23), .val (.ref b46), .val (.int (i5 + (1 : Int32))), .val (.int i6), .val (.int i7), .val (.int z157)] [(.ref b23)])) (fun t k => XS.aloadN X211.here hx rfl (hb hby d8_182) rfl rfl k) ?_
                refine own_step (st' := T211.setTop (mkF m 185 #[.val (.ref x0), .val (.int (6 : Int32)), .val (.ref b2), .val (.ref b23), .val (.ref b46), .val (.int (i5 + (1 : Int32))), .val (.int i6), .val (.int i7), .val (.int z157)] [(.int z157), (.ref b23)])) (fun t k => XS.iload X211.here hx rfl (hb hby d8_183) rfl k) ?_
                refine own_step (st' := T211.setTop (mkF m 186 #[.val (.ref x0), .val (.int (6 : Int32)), .val (.ref b2), .val (.ref b23), .val (.ref b46), .val (.int (i5 + (1 : Int32))), .val (.int i6), .val (.int i7), .val (.int z157)] [(.ref b2), (.int z157), (.ref b23)])) (fun t k => XS.aloadN X211.here hx rfl (hb hby d8_185) rfl rfl k) ?_
                refine own_step (st' := T211.setTop (mkF m 187 #[.val (.ref x0), .val (.int (6 : Int32)), .val (.ref b2), .val (.ref b23), .val (.ref b46), .val (.int (i5 + (1 : Int32))), .val (.int i6), .val (.int i7), .val (.int z157)] [(.ref x0), (.ref b2), (.int z157), (.ref b23)])) (fun t k => XS.aloadN X211.here hx rfl (hb hby d8_186) rfl rfl k) ?_
                obtain ⟨T229, X229, e229, st229⟩ := getF X211 hx hZ hown (host := "") (Or.inl (hw _ (List.mem_of_getElem? (i := 34) rfl))) Via.refl e211 f216 (g := (mkF m 187 #[.val (.ref x0), .val (.int (6 : Int32)), .val (.ref b2), .val (.ref b23), .val (.ref b46), .val (.int (i5 + (1 : Int32))), .val (.int i6), .val (.int i7), .val (.int z157)] [(.ref x0), (.ref b2), (.int z157), (.ref b23)])) rfl rfl (hb hby d8_187)
                refine own_step (st' := T229.setTop (mkF m 190 #[.val (.ref x0), .val (.int (6 : Int32)), .val (.ref b2), .val (.ref b23), .val (.ref b46), .val (.int (i5 + (1 : Int32))), .val (.int i6), .val (.int i7), .val (.int z157)] [(.ref bT), (.ref b2), (.int z157), (.ref b23)])) st229 ?_
                refine own_step (st' := T229.setTop (mkF m 192 #[.val (.ref x0), .val (.int (6 : Int32)), .val (.ref b2), .val (.ref b23), .val (.ref b46), .val (.int (i5 + (1 : Int32))), .val (.int i6), .val (.int i7), .val (.int z157)] [(.int z157), (.ref bT), (.ref b2), (.int z157), (.ref b23)])) (fun t k => XS.iload X229.here hx rfl (hb hby d8_190) rfl k) ?_
                obtain ⟨z230, hz230, rz230⟩ := own_bind rL212
                clear rL212
                refine own_step (st' := T229.setTop (mkF m 193 #[.val (.ref x0), .val (.int (6 : Int32)), .val (.ref b2), .val (.ref b23), .val (.ref b46), .val (.int (i5 + (1 : Int32))), .val (.int i6), .val (.int i7), .val (.int z157)] [(.int z230), (.ref b2), (.int z157), (.ref b23)])) (fun t k => own_ldI X229 hx hZ e229 V211 (j := z157) (v := (.int z230)) (own_gd hz230).1 (own_gd hz230).2 (g := (mkF m 192 #[.val (.ref x0), .val (.int (6 : Int32)), .val (.ref b2), .val (.ref b23), .val (.ref b46), .val (.int (i5 + (1 : Int32))), .val (.int i6), .val (.int i7), .val (.int z157)] [(.int z157), (.ref bT), (.ref b2), (.int z157), (.ref b23)])) rfl rfl (hb hby d8_192) t k) ?_
                obtain ⟨z231, hz231, rz231⟩ := own_bind rz230
                clear rz230
                refine own_step (st' := T229.setTop (mkF m 194 #[.val (.ref x0), .val (.int (6 : Int32)), .val (.ref b2), .val (.ref b23), .val (.ref b46), .val (.int (i5 + (1 : Int32))), .val (.int i6), .val (.int i7), .val (.int z157)] [(.int z231), (.int z157), (.ref b23)])) (fun t k => own_ldI X229 hx hZ e229 f222 (j := z230) (v := (.int z231)) (own_gd hz231).1 (own_gd hz231).2 (g := (mkF m 193 #[.val (.ref x0), .val (.int (6 : Int32)), .val (.ref b2), .val (.ref b23), .val (.ref b46), .val (.int (i5 + (1 : Int32))), .val (.int i6), .val (.int i7), .val (.int z157)] [(.int z230), (.ref b2), (.int z157), (.ref b23)])) rfl rfl (hb hby d8_193) t k) ?_
                obtain ⟨L233, hL233, rL233⟩ := own_bind rz231
                clear rz231
                obtain ⟨T232, h232, X232, e232, W232, V232, st232⟩ := own_stI X229 hx hZ e229 f221 (j := z157) (i := z157.toNatClampNeg) (own_pt hL233).1 rfl (own_pt hL233).2.1 (g := (mkF m 194 #[.val (.ref x0), .val (.int (6 : Int32)), .val (.ref b2), .val (.ref b23), .val (.ref b46), .val (.int (i5 + (1 : Int32))), .val (.int i6), .val (.int i7), .val (.int z157)] [(.int z231), (.int z157), (.ref b23)])) rfl rfl (hb hby d8_194)
                have V232 : Arv Z h232 b23 k23 .int (6 : Int32) ((Ls5.map Value.int).set z157.toNatClampNeg (.int z231)) (.int (0 : Int32)) := V232
                rw [(own_pt hL233).2.2] at V232
                have f234 := f213.other W232 (Or.inl ne24)
                have f235 := f214.other W232 (Or.inl ne24)
                have f236 := f215.other W232 (Or.inl ne24)
                have f237 := f216.other W232 (Or.inl ne24)
                have f238 := f217.other W232 (Or.inl ne24)
                have f239 := f218.other W232 ne25
                have f240 := f219.other W232 ne26
                have f241 := f220.wr W232
                have f242 := f222.other W232 ne30
                have f243 := f223.other W232 ne29
                have f244 := f224.other W232 (Ne.symm ne54)
                have f245 := f225.other W232 ne27
                have f246 := V211.other W232 ne28
                have K247 : Keep h0 h232 [bC, bT, bF] := K226.wr W232 (Or.inr sz_b23)
                have Z248 : n0 ≤ h232.size := Nat.le_trans Z227 (Keep.of_wr W232).1
                have N249 := Fr.snoc X232 N228 g_b23
                refine own_step (st' := T232.setTop (mkF m 195 #[.val (.ref x0), .val (.int (6 : Int32)), .val (.ref b2), .val (.ref b23), .val (.ref b46), .val (.int (i5 + (1 : Int32))), .val (.int i6), .val (.int i7), .val (.int z157)] [])) st232 ?_
                refine own_step (st' := T232.setTop (mkF m 196 #[.val (.ref x0), .val (.int (6 : Int32)), .val (.ref b2), .val (.ref b23), .val (.ref b46), .val (.int (i5 + (1 : Int32))), .val (.int i6), .val (.int i7), .val (.int z157)] [(.ref b2)])) (fun t k => XS.aloadN X232.here hx rfl (hb hby d8_195) rfl rfl k) ?_
                refine own_step (st' := T232.setTop (mkF m 197 #[.val (.ref x0), .val (.int (6 : Int32)), .val (.ref b2), .val (.ref b23), .val (.ref b46), .val (.int (i5 + (1 : Int32))), .val (.int i6), .val (.int i7), .val (.int z157)] [(.ref x0), (.ref b2)])) (fun t k => XS.aloadN X232.here hx rfl (hb hby d8_196) rfl rfl k) ?_
                obtain ⟨T250, X250, e250, st250⟩ := getF X232 hx hZ hown (host := "") (Or.inl (hw _ (List.mem_of_getElem? (i := 34) rfl))) Via.refl e232 f237 (g := (mkF m 197 #[.val (.ref x0), .val (.int (6 : Int32)), .val (.ref b2), .val (.ref b23), .val (.ref b46), .val (.int (i5 + (1 : Int32))), .val (.int i6), .val (.int i7), .val (.int z157)] [(.ref x0), (.ref b2)])) rfl rfl (hb hby d8_197)
                refine own_step (st' := T250.setTop (mkF m 200 #[.val (.ref x0), .val (.int (6 : Int32)), .val (.ref b2), .val (.ref b23), .val (.ref b46), .val (.int (i5 + (1 : Int32))), .val (.int i6), .val (.int i7), .val (.int z157)] [(.ref bT), (.ref b2)])) st250 ?_
                refine own_step (st' := T250.setTop (mkF m 202 #[.val (.ref x0), .val (.int (6 : Int32)), .val (.ref b2), .val (.ref b23), .val (.ref b46), .val (.int (i5 + (1 : Int32))), .val (.int i6), .val (.int i7), .val (.int z157)] [(.int z157), (.ref bT), (.ref b2)])) (fun t k => XS.iload X250.here hx rfl (hb hby d8_200) rfl k) ?_
                obtain ⟨z251, hz251, rz251⟩ := own_bind rL233
                clear rL233
                refine own_step (st' := T250.setTop (mkF m 203 #[.val (.ref x0), .val (.int (6 : Int32)), .val (.ref b2), .val (.ref b23), .val (.ref b46), .val (.int (i5 + (1 : Int32))), .val (.int i6), .val (.int i7), .val (.int z157)] [(.int z251), (.ref b2)])) (fun t k => own_ldI X250 hx hZ e250 f246 (j := z157) (v := (.int z251)) (own_gd hz251).1 (own_gd hz251).2 (g := (mkF m 202 #[.val (.ref x0), .val (.int (6 : Int32)), .val (.ref b2), .val (.ref b23), .val (.ref b46), .val (.int (i5 + (1 : Int32))), .val (.int i6), .val (.int i7), .val (.int z157)] [(.int z157), (.ref bT), (.ref b2)])) rfl rfl (hb hby d8_202) t k) ?_
                refine own_step (st' := T250.setTop (mkF m 205 #[.val (.ref x0), .val (.int (6 : Int32)), .val (.ref b2), .val (.ref b23), .val (.ref b46), .val (.int (i5 + (1 : Int32))), .val (.int i6), .val (.int i7), .val (.int z157)] [(.int z157), (.int z251), (.ref b2)])) (fun t k => XS.iload X250.here hx rfl (hb hby d8_203) rfl k) ?_
                obtain ⟨L253, hL253, rL253⟩ := own_bind rz251
                clear rz251
                obtain ⟨T252, h252, X252, e252, W252, V252, st252⟩ := own_stI X250 hx hZ e250 f242 (j := z251) (i := z251.toNatClampNeg) (own_pt hL253).1 rfl (own_pt hL253).2.1 (g := (mkF m 205 #[.val (.ref x0), .val (.int (6 : Int32)), .val (.ref b2), .val (.ref b23), .val (.ref b46), .val (.int (i5 + (1 : Int32))), .val (.int i6), .val (.int i7), .val (.int z157)] [(.int z157), (.int z251), (.ref b2)])) rfl rfl (hb hby d8_205)
                have V252 : Arv Z h252 b2 k2 .int (6 : Int32) ((Ls7.map Value.int).set z251.toNatClampNeg (.int z157)) (.int (0 : Int32)) := V252
                rw [(own_pt hL253).2.2] at V252
                have f254 := f234.other W252 (Or.inl ne3)
                have f255 := f235.other W252 (Or.inl ne3)
                have f256 := f236.other W252 (Or.inl ne3)
                have f257 := f237.other W252 (Or.inl ne3)
                have f258 := f238.other W252 (Or.inl ne3)
                have f259 := f239.other W252 ne4
                have f260 := f240.other W252 ne5
                have f261 := f241.wr W252
                have f262 := f243.other W252 ne8
                have f263 := f244.other W252 (Ne.symm ne53)
                have f264 := f245.other W252 ne6
                have f265 := f246.other W252 ne7
                have f266 := V232.other W252 (Ne.symm ne30)
                have K267 : Keep h0 h252 [bC, bT, bF] := K247.wr W252 (Or.inr sz_b2)
                have Z268 : n0 ≤ h252.size := Nat.le_trans Z248 (Keep.of_wr W252).1
                have N269 := Fr.snoc X252 N249 g_b2
                refine own_step (st' := T252.setTop (mkF m 206 #[.val (.ref x0), .val (.int (6 : Int32)), .val (.ref b2), .val (.ref b23), .val (.ref b46), .val (.int (i5 + (1 : Int32))), .val (.int i6), .val (.int i7), .val (.int z157)] [])) st252 ?_
                exact J118 _ _ _ _ (i5 + (1 : Int32)) i6 i7 (.val (.int z157)) Ls0 Ls1 L184 L212 L139 L233 L166 L253 X252 e252 N269 Z268 f254 f255 f256 f257 f258 f259 f260 f264 f265 f262 f261 f266 f263 V252 K267 rL253 (Or.inr ⟨_, rfl, rfl⟩) (by omega)
              · have r270 := own_if0 hc206 rz205
                clear rz205
                refine own_step (st' := T204.setTop (mkF m 206 #[.val (.ref x0), .val (.int (6 : Int32)), .val (.ref b2), .val (.ref b23), .val (.ref b46), .val (.int (i5 + (1 : Int32))), .val (.int i6), .val (.int i7), .val (.int z157)] [])) (fun t k => XS.icmpYes X204.here hx rfl (pc0 := 166) (pc' := 206) rfl (hb hby d8_166) rfl (feq hc206).2 (by decide) (by decide) k) ?_
                exact J118 _ _ _ _ (i5 + (1 : Int32)) i6 i7 (.val (.int z157)) Ls0 Ls1 L184 Ls3 L139 Ls5 L166 Ls7 X204 e204 N200 Z199 f185 f186 f187 f188 f189 f190 f191 V183 f192 f196 f193 f194 f197 f195 K198 r270 (Or.inr ⟨_, rfl, rfl⟩) (by omega)
      refine own_step (st' := T88.setTop (mkF m 78 #[.val (.ref x0), .val (.int (6 : Int32)), .val (.ref b2), .val (.ref b23), .val (.ref b46), .val (.int i5), .val (.int i6), sl7, sl8] [(.int i5)])) (fun t k => XS.iload X88.here hx rfl (hb hby d8_76) rfl k) ?_
      refine own_step (st' := T88.setTop (mkF m 79 #[.val (.ref x0), .val (.int (6 : Int32)), .val (.ref b2), .val (.ref b23), .val (.ref b46), .val (.int i5), .val (.int i6), sl7, sl8] [(.int (6 : Int32)), (.int i5)])) (fun t k => XS.iloadN X88.here hx rfl (hb hby d8_78) rfl k) ?_
      by_cases hc271 : i5 < (6 : Int32)
      · have r272 := own_if1 hc271 hr
        clear hr
        refine own_step (st' := T88.setTop (mkF m 82 #[.val (.ref x0), .val (.int (6 : Int32)), .val (.ref b2), .val (.ref b23), .val (.ref b46), .val (.int i5), .val (.int i6), sl7, sl8] [])) (fun t k => XS.icmpNo X88.here hx rfl (hb hby d8_79) rfl (tlt hc271).2.1 k) ?_
        refine own_step (st' := T88.setTop (mkF m 83 #[.val (.ref x0), .val (.int (6 : Int32)), .val (.ref b2), .val (.ref b23), .val (.ref b46), .val (.int i5), .val (.int i6), sl7, sl8] [(.ref b2)])) (fun t k => XS.aloadN X88.here hx rfl (hb hby d8_82) rfl rfl k) ?_
        refine own_step (st' := T88.setTop (mkF m 85 #[.val (.ref x0), .val (.int (6 : Int32)), .val (.ref b2), .val (.ref b23), .val (.ref b46), .val (.int i5), .val (.int i6), sl7, sl8] [(.int i6), (.ref b2)])) (fun t k => XS.iload X88.here hx rfl (hb hby d8_83) rfl k) ?_
        obtain ⟨z273, hz273, rz273⟩ := own_bind r272
        clear r272
        refine own_step (st' := T88.setTop (mkF m 86 #[.val (.ref x0), .val (.int (6 : Int32)), .val (.ref b2), .val (.ref b23), .val (.ref b46), .val (.int i5), .val (.int i6), sl7, sl8] [(.int z273)])) (fun t k => own_ldI X88 hx hZ e88 f102 (j := i6) (v := (.int z273)) (own_gd hz273).1 (own_gd hz273).2 (g := (mkF m 85 #[.val (.ref x0), .val (.int (6 : Int32)), .val (.ref b2), .val (.ref b23), .val (.ref b46), .val (.int i5), .val (.int i6), sl7, sl8] [(.int i6), (.ref b2)])) rfl rfl (hb hby d8_85) t k) ?_
        refine own_step (st' := T88.setTop (mkF m 88 #[.val (.ref x0), .val (.int (6 : Int32)), .val (.ref b2), .val (.ref b23), .val (.ref b46), .val (.int i5), .val (.int i6), .val (.int z273), sl8] [])) (fun t k => XS.istore X88.here hx rfl (hb hby d8_86) rfl (l' := #[.val (.ref x0), .val (.int (6 : Int32)), .val (.ref b2), .val (.ref b23), .val (.ref b46), .val (.int i5), .val (.int i6), .val (.int z273), sl8]) (XS.store1 rfl hsl7 rfl) k) ?_
        exact J103 _ _ _ _ i5 i6 z273 sl8 Ls0 Ls1 Ls2 Ls3 Ls4 Ls5 Ls6 Ls7 X88 e88 N88 Z88 f89 f90 f91 f92 f93 f94 f95 f96 f97 f98 f99 f100 f101 f102 K88 rz273 hsl8 (by omega)
      · have r274 := own_if0 hc271 hr
        clear hr
        refine own_step (st' := T88.setTop (mkF m 221 #[.val (.ref x0), .val (.int (6 : Int32)), .val (.ref b2), .val (.ref b23), .val (.ref b46), .val (.int i5), .val (.int i6), sl7, sl8] [])) (fun t k => XS.icmpYes X88.here hx rfl (pc0 := 79) (pc' := 221) rfl (hb hby d8_79) rfl (flt hc271).2.1 (by decide) (by decide) k) ?_
        refine own_ret X88 Bd.notSynchronized (none) (fun _ => rfl) (fun fs hr => X88.returnOut hx Bd.returns (hb hby d8_221) hr) ?_ (by decide) (by decide)
        rw [e88]
        have hq : some (Ls2, Ls3, Ls4) = some (C', T', F') := r274
        cases hq
        exact ⟨rfl, N88, K88, f96, f97, f98⟩
  have J275 : ∀ (k275 : Nat) (T275 : State) (h275 : Heap) (lc275 : List Loc) (i5 : Int32) (Ls0 : List Int32) (Ls1 : List Int32) (Ls2 : List Int32) (Ls3 : List Int32) (Ls4 : List Int32) (Ls5 : List Int32) (Ls6 : List Int32) (Ls7 : List Int32) (X275 : Stand p l e ({ frames := 2, cells := 3, slots := 18, locals := 31 } : Room) s m #[(.ref x0)] below meth c T275 lc275 3 18) (e275 : T275.heap = h275) (N275 : Fr n0 lc275) (Z275 : n0 ≤ h275.size) (f276 : Fld Z h275 x0 "com/example/rumorwire/rumorwire/TreeSolver" "parent" "[I" (.ref bP)) (f277 : Fld Z h275 x0 "com/example/rumorwire/rumorwire/TreeSolver" "childStart" "[I" (.ref bS)) (f278 : Fld Z h275 x0 "com/example/rumorwire/rumorwire/TreeSolver" "children" "[I" (.ref bC)) (f279 : Fld Z h275 x0 "com/example/rumorwire/rumorwire/TreeSolver" "time" "[I" (.ref bT)) (f280 : Fld Z h275 x0 "com/example/rumorwire/rumorwire/TreeSolver" "finished" "[I" (.ref bF)) (f281 : Arv Z h275 bP kP .int (6 : Int32) (Ls0.map Value.int) (.int (0 : Int32))) (f282 : Arv Z h275 bS kS .int (7 : Int32) (Ls1.map Value.int) (.int (0 : Int32))) (f283 : Arv Z h275 bC kC .int nC (Ls2.map Value.int) (.int (0 : Int32))) (f284 : Arv Z h275 bT kT .int (6 : Int32) (Ls3.map Value.int) (.int (0 : Int32))) (f285 : Arv Z h275 bF kF .int (6 : Int32) (Ls4.map Value.int) (.int (0 : Int32))) (f286 : Exa Z h275 x0 "com/example/rumorwire/rumorwire/TreeSolver") (f287 : Arv Z h275 b23 k23 .int (6 : Int32) (Ls5.map Value.int) (.int (0 : Int32))) (f288 : Arv Z h275 b46 k46 .int (6 : Int32) (Ls6.map Value.int) (.int (0 : Int32))) (f289 : Arv Z h275 b2 k2 .int (6 : Int32) (Ls7.map Value.int) (.int (0 : Int32))) (K275 : Keep h0 h275 [bC, bT, bF]) (hr : m_fin_f nC k275 0 i5 (0 : Int32) (0 : Int32) Ls0 Ls1 Ls2 Ls3 Ls4 Ls5 Ls6 Ls7 = some (C', T', F')), own_Ends p e below s ({ frames := 2, cells := 3, slots := 18, locals := 31 } : Room).cells ({ frames := 2, cells := 3, slots := 18, locals := 31 } : Room).slots (Q_rm8 Z x0 bP bS bC bT bF kP kS kC kT kF nC P S C T F C' T' F' h0 n0) (T275.setTop (mkF m 27 #[.val (.ref x0), .val (.int (6 : Int32)), .val (.ref b2), .val (.ref b23), .val (.ref b46), .val (.int i5), .unset, .unset, .unset] [])) := by
    intro k275
    induction k275 using Nat.strongRecOn with
    | _ k275 ih275 =>
      intro T275 h275 lc275 i5 Ls0 Ls1 Ls2 Ls3 Ls4 Ls5 Ls6 Ls7 X275 e275 N275 Z275 f276 f277 f278 f279 f280 f281 f282 f283 f284 f285 f286 f287 f288 f289 K275 hr
      obtain ⟨fu275, rfl⟩ : ∃ f, k275 = f + 1 := by
        cases k275 with
        | zero => rw [m_fin_z] at hr; cases hr
        | succ f => exact ⟨f, rfl⟩
      rw [m_fin_27] at hr
      refine own_step (st' := T275.setTop (mkF m 29 #[.val (.ref x0), .val (.int (6 : Int32)), .val (.ref b2), .val (.ref b23), .val (.ref b46), .val (.int i5), .unset, .unset, .unset] [(.int i5)])) (fun t k => XS.iload X275.here hx rfl (hb hby d8_27) rfl k) ?_
      refine own_step (st' := T275.setTop (mkF m 30 #[.val (.ref x0), .val (.int (6 : Int32)), .val (.ref b2), .val (.ref b23), .val (.ref b46), .val (.int i5), .unset, .unset, .unset] [(.int (6 : Int32)), (.int i5)])) (fun t k => XS.iloadN X275.here hx rfl (hb hby d8_29) rfl k) ?_
      by_cases hc290 : i5 < (6 : Int32)
      · have r291 := own_if1 hc290 hr
        clear hr
        refine own_step (st' := T275.setTop (mkF m 33 #[.val (.ref x0), .val (.int (6 : Int32)), .val (.ref b2), .val (.ref b23), .val (.ref b46), .val (.int i5), .unset, .unset, .unset] [])) (fun t k => XS.icmpNo X275.here hx rfl (hb hby d8_30) rfl (tlt hc290).2.1 k) ?_
        refine own_step (st' := T275.setTop (mkF m 34 #[.val (.ref x0), .val (.int (6 : Int32)), .val (.ref b2), .val (.ref b23), .val (.ref b46), .val (.int i5), .unset, .unset, .unset] [(.ref x0)])) (fun t k => XS.aloadN X275.here hx rfl (hb hby d8_33) rfl rfl k) ?_
        obtain ⟨T292, X292, e292, st292⟩ := getF X275 hx hZ hown (host := "") (Or.inl (hw _ (List.mem_of_getElem? (i := 30) rfl))) Via.refl e275 f277 (g := (mkF m 34 #[.val (.ref x0), .val (.int (6 : Int32)), .val (.ref b2), .val (.ref b23), .val (.ref b46), .val (.int i5), .unset, .unset, .unset] [(.ref x0)])) rfl rfl (hb hby d8_34)
        refine own_step (st' := T292.setTop (mkF m 37 #[.val (.ref x0), .val (.int (6 : Int32)), .val (.ref b2), .val (.ref b23), .val (.ref b46), .val (.int i5), .unset, .unset, .unset] [(.ref bS)])) st292 ?_
        refine own_step (st' := T292.setTop (mkF m 39 #[.val (.ref x0), .val (.int (6 : Int32)), .val (.ref b2), .val (.ref b23), .val (.ref b46), .val (.int i5), .unset, .unset, .unset] [(.int i5), (.ref bS)])) (fun t k => XS.iload X292.here hx rfl (hb hby d8_37) rfl k) ?_
        obtain ⟨z293, hz293, rz293⟩ := own_bind r291
        clear r291
        refine own_step (st' := T292.setTop (mkF m 40 #[.val (.ref x0), .val (.int (6 : Int32)), .val (.ref b2), .val (.ref b23), .val (.ref b46), .val (.int i5), .unset, .unset, .unset] [(.int z293)])) (fun t k => own_ldI X292 hx hZ e292 f282 (j := i5) (v := (.int z293)) (own_gd hz293).1 (own_gd hz293).2 (g := (mkF m 39 #[.val (.ref x0), .val (.int (6 : Int32)), .val (.ref b2), .val (.ref b23), .val (.ref b46), .val (.int i5), .unset, .unset, .unset] [(.int i5), (.ref bS)])) rfl rfl (hb hby d8_39) t k) ?_
        refine own_step (st' := T292.setTop (mkF m 41 #[.val (.ref x0), .val (.int (6 : Int32)), .val (.ref b2), .val (.ref b23), .val (.ref b46), .val (.int i5), .unset, .unset, .unset] [(.ref x0), (.int z293)])) (fun t k => XS.aloadN X292.here hx rfl (hb hby d8_40) rfl rfl k) ?_
        obtain ⟨T294, X294, e294, st294⟩ := getF X292 hx hZ hown (host := "") (Or.inl (hw _ (List.mem_of_getElem? (i := 30) rfl))) Via.refl e292 f277 (g := (mkF m 41 #[.val (.ref x0), .val (.int (6 : Int32)), .val (.ref b2), .val (.ref b23), .val (.ref b46), .val (.int i5), .unset, .unset, .unset] [(.ref x0), (.int z293)])) rfl rfl (hb hby d8_41)
        refine own_step (st' := T294.setTop (mkF m 44 #[.val (.ref x0), .val (.int (6 : Int32)), .val (.ref b2), .val (.ref b23), .val (.ref b46), .val (.int i5), .unset, .unset, .unset] [(.ref bS), (.int z293)])) st294 ?_
        refine own_step (st' := T294.setTop (mkF m 46 #[.val (.ref x0), .val (.int (6 : Int32)), .val (.ref b2), .val (.ref b23), .val (.ref b46), .val (.int i5), .unset, .unset, .unset] [(.int i5), (.ref bS), (.int z293)])) (fun t k => XS.iload X294.here hx rfl (hb hby d8_44) rfl k) ?_
        refine own_step (st' := T294.setTop (mkF m 47 #[.val (.ref x0), .val (.int (6 : Int32)), .val (.ref b2), .val (.ref b23), .val (.ref b46), .val (.int i5), .unset, .unset, .unset] [(.int (1 : Int32)), (.int i5), (.ref bS), (.int z293)])) (fun t k => XS.iconst X294.here hx rfl (hb hby d8_46) k) ?_
        refine own_step (st' := T294.setTop (mkF m 48 #[.val (.ref x0), .val (.int (6 : Int32)), .val (.ref b2), .val (.ref b23), .val (.ref b46), .val (.int i5), .unset, .unset, .unset] [(.int (i5 + (1 : Int32))), (.ref bS), (.int z293)])) (fun t k => XS.iadd X294.here hx rfl (hb hby d8_47) rfl k) ?_
        obtain ⟨z295, hz295, rz295⟩ := own_bind rz293
        clear rz293
        refine own_step (st' := T294.setTop (mkF m 49 #[.val (.ref x0), .val (.int (6 : Int32)), .val (.ref b2), .val (.ref b23), .val (.ref b46), .val (.int i5), .unset, .unset, .unset] [(.int z295), (.int z293)])) (fun t k => own_ldI X294 hx hZ e294 f282 (j := (i5 + (1 : Int32))) (v := (.int z295)) (own_gd hz295).1 (own_gd hz295).2 (g := (mkF m 48 #[.val (.ref x0), .val (.int (6 : Int32)), .val (.ref b2), .val (.ref b23), .val (.ref b46), .val (.int i5), .unset, .unset, .unset] [(.int (i5 + (1 : Int32))), (.ref bS), (.int z293)])) rfl rfl (hb hby d8_48) t k) ?_
        by_cases hc296 : z293 = z295
        · have r297 := own_if1 hc296 rz295
          clear rz295
          refine own_step (st' := T294.setTop (mkF m 52 #[.val (.ref x0), .val (.int (6 : Int32)), .val (.ref b2), .val (.ref b23), .val (.ref b46), .val (.int i5), .unset, .unset, .unset] [])) (fun t k => XS.icmpNo X294.here hx rfl (hb hby d8_49) rfl (teq hc296).2 k) ?_
          refine own_step (st' := T294.setTop (mkF m 53 #[.val (.ref x0), .val (.int (6 : Int32)), .val (.ref b2), .val (.ref b23), .val (.ref b46), .val (.int i5), .unset, .unset, .unset] [(.ref b23)])) (fun t k => XS.aloadN X294.here hx rfl (hb hby d8_52) rfl rfl k) ?_
          refine own_step (st' := T294.setTop (mkF m 55 #[.val (.ref x0), .val (.int (6 : Int32)), .val (.ref b2), .val (.ref b23), .val (.ref b46), .val (.int i5), .unset, .unset, .unset] [(.int i5), (.ref b23)])) (fun t k => XS.iload X294.here hx rfl (hb hby d8_53) rfl k) ?_
          refine own_step (st' := T294.setTop (mkF m 56 #[.val (.ref x0), .val (.int (6 : Int32)), .val (.ref b2), .val (.ref b23), .val (.ref b46), .val (.int i5), .unset, .unset, .unset] [(.ref b2), (.int i5), (.ref b23)])) (fun t k => XS.aloadN X294.here hx rfl (hb hby d8_55) rfl rfl k) ?_
          refine own_step (st' := T294.setTop (mkF m 57 #[.val (.ref x0), .val (.int (6 : Int32)), .val (.ref b2), .val (.ref b23), .val (.ref b46), .val (.int i5), .unset, .unset, .unset] [(.int (0 : Int32)), (.ref b2), (.int i5), (.ref b23)])) (fun t k => XS.iconst X294.here hx rfl (hb hby d8_56) k) ?_
          obtain ⟨z298, hz298, rz298⟩ := own_bind r297
          clear r297
          refine own_step (st' := T294.setTop (mkF m 58 #[.val (.ref x0), .val (.int (6 : Int32)), .val (.ref b2), .val (.ref b23), .val (.ref b46), .val (.int i5), .unset, .unset, .unset] [(.int z298), (.int i5), (.ref b23)])) (fun t k => own_ldI X294 hx hZ e294 f289 (j := (0 : Int32)) (v := (.int z298)) (own_gd hz298).1 (own_gd hz298).2 (g := (mkF m 57 #[.val (.ref x0), .val (.int (6 : Int32)), .val (.ref b2), .val (.ref b23), .val (.ref b46), .val (.int i5), .unset, .unset, .unset] [(.int (0 : Int32)), (.ref b2), (.int i5), (.ref b23)])) rfl rfl (hb hby d8_57) t k) ?_
          obtain ⟨L300, hL300, rL300⟩ := own_bind rz298
          clear rz298
          obtain ⟨T299, h299, X299, e299, W299, V299, st299⟩ := own_stI X294 hx hZ e294 f287 (j := i5) (i := i5.toNatClampNeg) (own_pt hL300).1 rfl (own_pt hL300).2.1 (g := (mkF m 58 #[.val (.ref x0), .val (.int (6 : Int32)), .val (.ref b2), .val (.ref b23), .val (.ref b46), .val (.int i5), .unset, .unset, .unset] [(.int z298), (.int i5), (.ref b23)])) rfl rfl (hb hby d8_58)
          have V299 : Arv Z h299 b23 k23 .int (6 : Int32) ((Ls5.map Value.int).set i5.toNatClampNeg (.int z298)) (.int (0 : Int32)) := V299
          rw [(own_pt hL300).2.2] at V299
          have f301 := f276.other W299 (Or.inl ne24)
          have f302 := f277.other W299 (Or.inl ne24)
          have f303 := f278.other W299 (Or.inl ne24)
          have f304 := f279.other W299 (Or.inl ne24)
          have f305 := f280.other W299 (Or.inl ne24)
          have f306 := f281.other W299 ne25
          have f307 := f282.other W299 ne26
          have f308 := f283.other W299 ne27
          have f309 := f284.other W299 ne28
          have f310 := f285.other W299 ne29
          have f311 := f286.wr W299
          have f312 := f288.other W299 (Ne.symm ne54)
          have f313 := f289.other W299 ne30
          have K314 : Keep h0 h299 [bC, bT, bF] := K275.wr W299 (Or.inr sz_b23)
          have Z315 : n0 ≤ h299.size := Nat.le_trans Z275 (Keep.of_wr W299).1
          have N316 := Fr.snoc X299 N275 g_b23
          refine own_step (st' := T299.setTop (mkF m 59 #[.val (.ref x0), .val (.int (6 : Int32)), .val (.ref b2), .val (.ref b23), .val (.ref b46), .val (.int i5), .unset, .unset, .unset] [])) st299 ?_
          refine own_step (st' := T299.setTop (mkF m 60 #[.val (.ref x0), .val (.int (6 : Int32)), .val (.ref b2), .val (.ref b23), .val (.ref b46), .val (.int i5), .unset, .unset, .unset] [(.ref b2)])) (fun t k => XS.aloadN X299.here hx rfl (hb hby d8_59) rfl rfl k) ?_
          refine own_step (st' := T299.setTop (mkF m 61 #[.val (.ref x0), .val (.int (6 : Int32)), .val (.ref b2), .val (.ref b23), .val (.ref b46), .val (.int i5), .unset, .unset, .unset] [(.int (0 : Int32)), (.ref b2)])) (fun t k => XS.iconst X299.here hx rfl (hb hby d8_60) k) ?_
          refine own_step (st' := T299.setTop (mkF m 63 #[.val (.ref x0), .val (.int (6 : Int32)), .val (.ref b2), .val (.ref b23), .val (.ref b46), .val (.int i5), .unset, .unset, .unset] [(.int i5), (.int (0 : Int32)), (.ref b2)])) (fun t k => XS.iload X299.here hx rfl (hb hby d8_61) rfl k) ?_
          obtain ⟨L318, hL318, rL318⟩ := own_bind rL300
          clear rL300
          obtain ⟨T317, h317, X317, e317, W317, V317, st317⟩ := own_stI X299 hx hZ e299 f313 (j := (0 : Int32)) (i := (0 : Int32).toNatClampNeg) (own_pt hL318).1 rfl (own_pt hL318).2.1 (g := (mkF m 63 #[.val (.ref x0), .val (.int (6 : Int32)), .val (.ref b2), .val (.ref b23), .val (.ref b46), .val (.int i5), .unset, .unset, .unset] [(.int i5), (.int (0 : Int32)), (.ref b2)])) rfl rfl (hb hby d8_63)
          have V317 : Arv Z h317 b2 k2 .int (6 : Int32) ((Ls7.map Value.int).set (0 : Int32).toNatClampNeg (.int i5)) (.int (0 : Int32)) := V317
          rw [(own_pt hL318).2.2] at V317
          have f319 := f301.other W317 (Or.inl ne3)
          have f320 := f302.other W317 (Or.inl ne3)
          have f321 := f303.other W317 (Or.inl ne3)
          have f322 := f304.other W317 (Or.inl ne3)
          have f323 := f305.other W317 (Or.inl ne3)
          have f324 := f306.other W317 ne4
          have f325 := f307.other W317 ne5
          have f326 := f308.other W317 ne6
          have f327 := f309.other W317 ne7
          have f328 := f310.other W317 ne8
          have f329 := f311.wr W317
          have f330 := f312.other W317 (Ne.symm ne53)
          have f331 := V299.other W317 (Ne.symm ne30)
          have K332 : Keep h0 h317 [bC, bT, bF] := K314.wr W317 (Or.inr sz_b2)
          have Z333 : n0 ≤ h317.size := Nat.le_trans Z315 (Keep.of_wr W317).1
          have N334 := Fr.snoc X317 N316 g_b2
          refine own_step (st' := T317.setTop (mkF m 64 #[.val (.ref x0), .val (.int (6 : Int32)), .val (.ref b2), .val (.ref b23), .val (.ref b46), .val (.int i5), .unset, .unset, .unset] [])) st317 ?_
          refine own_step (st' := T317.setTop (mkF m 67 #[.val (.ref x0), .val (.int (6 : Int32)), .val (.ref b2), .val (.ref b23), .val (.ref b46), .val (.int (i5 + (1 : Int32))), .unset, .unset, .unset] [])) (fun t k => XS.iinc X317.here hx rfl (hb hby d8_64) rfl (l' := #[.val (.ref x0), .val (.int (6 : Int32)), .val (.ref b2), .val (.ref b23), .val (.ref b46), .val (.int (i5 + (1 : Int32))), .unset, .unset, .unset]) rfl k) ?_
          refine own_step (st' := T317.setTop (mkF m 27 #[.val (.ref x0), .val (.int (6 : Int32)), .val (.ref b2), .val (.ref b23), .val (.ref b46), .val (.int (i5 + (1 : Int32))), .unset, .unset, .unset] [])) (fun t k => XS.goto X317.here hx rfl (pc0 := 67) (pc' := 27) rfl (hb hby d8_67) (by decide) (by decide) k) ?_
          exact ih275 fu275 (by omega) _ _ _ (i5 + (1 : Int32)) Ls0 Ls1 Ls2 Ls3 Ls4 L300 Ls6 L318 X317 e317 N334 Z333 f319 f320 f321 f322 f323 f324 f325 f326 f327 f328 f329 f331 f330 V317 K332 rL318
        · have r335 := own_if0 hc296 rz295
          clear rz295
          refine own_step (st' := T294.setTop (mkF m 64 #[.val (.ref x0), .val (.int (6 : Int32)), .val (.ref b2), .val (.ref b23), .val (.ref b46), .val (.int i5), .unset, .unset, .unset] [])) (fun t k => XS.icmpYes X294.here hx rfl (pc0 := 49) (pc' := 64) rfl (hb hby d8_49) rfl (feq hc296).2 (by decide) (by decide) k) ?_
          refine own_step (st' := T294.setTop (mkF m 67 #[.val (.ref x0), .val (.int (6 : Int32)), .val (.ref b2), .val (.ref b23), .val (.ref b46), .val (.int (i5 + (1 : Int32))), .unset, .unset, .unset] [])) (fun t k => XS.iinc X294.here hx rfl (hb hby d8_64) rfl (l' := #[.val (.ref x0), .val (.int (6 : Int32)), .val (.ref b2), .val (.ref b23), .val (.ref b46), .val (.int (i5 + (1 : Int32))), .unset, .unset, .unset]) rfl k) ?_
          refine own_step (st' := T294.setTop (mkF m 27 #[.val (.ref x0), .val (.int (6 : Int32)), .val (.ref b2), .val (.ref b23), .val (.ref b46), .val (.int (i5 + (1 : Int32))), .unset, .unset, .unset] [])) (fun t k => XS.goto X294.here hx rfl (pc0 := 67) (pc' := 27) rfl (hb hby d8_67) (by decide) (by decide) k) ?_
          exact ih275 fu275 (by omega) _ _ _ (i5 + (1 : Int32)) Ls0 Ls1 Ls2 Ls3 Ls4 Ls5 Ls6 Ls7 X294 e294 N275 Z275 f276 f277 f278 f279 f280 f281 f282 f283 f284 f285 f286 f287 f288 f289 K275 r335
      · have r336 := own_if0 hc290 hr
        clear hr
        refine own_step (st' := T275.setTop (mkF m 70 #[.val (.ref x0), .val (.int (6 : Int32)), .val (.ref b2), .val (.ref b23), .val (.ref b46), .val (.int i5), .unset, .unset, .unset] [])) (fun t k => XS.icmpYes X275.here hx rfl (pc0 := 30) (pc' := 70) rfl (hb hby d8_30) rfl (flt hc290).2.1 (by decide) (by decide) k) ?_
        refine own_step (st' := T275.setTop (mkF m 71 #[.val (.ref x0), .val (.int (6 : Int32)), .val (.ref b2), .val (.ref b23), .val (.ref b46), .val (.int i5), .unset, .unset, .unset] [(.int (0 : Int32))])) (fun t k => XS.iconst X275.here hx rfl (hb hby d8_70) k) ?_
        refine own_step (st' := T275.setTop (mkF m 73 #[.val (.ref x0), .val (.int (6 : Int32)), .val (.ref b2), .val (.ref b23), .val (.ref b46), .val (.int (0 : Int32)), .unset, .unset, .unset] [])) (fun t k => XS.istore X275.here hx rfl (hb hby d8_71) rfl (l' := #[.val (.ref x0), .val (.int (6 : Int32)), .val (.ref b2), .val (.ref b23), .val (.ref b46), .val (.int (0 : Int32)), .unset, .unset, .unset]) rfl k) ?_
        refine own_step (st' := T275.setTop (mkF m 74 #[.val (.ref x0), .val (.int (6 : Int32)), .val (.ref b2), .val (.ref b23), .val (.ref b46), .val (.int (0 : Int32)), .unset, .unset, .unset] [(.int (0 : Int32))])) (fun t k => XS.iconst X275.here hx rfl (hb hby d8_73) k) ?_
        refine own_step (st' := T275.setTop (mkF m 76 #[.val (.ref x0), .val (.int (6 : Int32)), .val (.ref b2), .val (.ref b23), .val (.ref b46), .val (.int (0 : Int32)), .val (.int (0 : Int32)), .unset, .unset] [])) (fun t k => XS.istore X275.here hx rfl (hb hby d8_74) rfl (l' := #[.val (.ref x0), .val (.int (6 : Int32)), .val (.ref b2), .val (.ref b23), .val (.ref b46), .val (.int (0 : Int32)), .val (.int (0 : Int32)), .unset, .unset]) rfl k) ?_
        exact J88 _ _ _ _ (0 : Int32) (0 : Int32) .unset .unset Ls0 Ls1 Ls2 Ls3 Ls4 Ls5 Ls6 Ls7 X275 e275 N275 Z275 f276 f277 f278 f279 f280 f281 f282 f283 f284 f285 f286 f287 f288 f289 K275 r336 (Or.inl rfl) (Or.inl rfl)
  refine own_step (st' := T72.setTop (mkF m 25 #[.val (.ref x0), .val (.int (6 : Int32)), .val (.ref b2), .val (.ref b23), .val (.ref b46), .unset, .unset, .unset, .unset] [(.int (0 : Int32))])) (fun t k => XS.iconst X72.here hx rfl (hb hby d8_24) k) ?_
  refine own_step (st' := T72.setTop (mkF m 27 #[.val (.ref x0), .val (.int (6 : Int32)), .val (.ref b2), .val (.ref b23), .val (.ref b46), .val (.int (0 : Int32)), .unset, .unset, .unset] [])) (fun t k => XS.istore X72.here hx rfl (hb hby d8_25) rfl (l' := #[.val (.ref x0), .val (.int (6 : Int32)), .val (.ref b2), .val (.ref b23), .val (.ref b46), .val (.int (0 : Int32)), .unset, .unset, .unset]) rfl k) ?_
  exact J275 _ _ _ _ (0 : Int32) P S C T F ([0, 0, 0, 0, 0, 0] : List Int32) ([0, 0, 0, 0, 0, 0] : List Int32) o71 X72 e72 N72 Z87 f73 f74 f75 f76 f77 f78 f79 f80 f81 f82 f83 f84 f85 pq72_0 K86 ro71
def m_inf_f (nC : Int32) : Nat → Nat → Int32 → Int32 → Int32 → Int32 → List Int32 → List Int32 → List Int32 → List Int32 → List Int32 → List Int32 → Option (List Int32)
  | 0, _, _, _, _, _, _, _, _, _, _, _ => none
  | f + 1, sel, i3, i4, i5, i6, Ls0, Ls1, Ls2, Ls3, Ls4, Ls5 => if sel = 0 then (if i3 < (0 : Int32) then (some (Ls5)) else ((own_get (6 : Int32) Ls4 i3).bind fun z71 => (own_get (7 : Int32) Ls1 (z71 + (1 : Int32))).bind fun z73 => (own_get (7 : Int32) Ls1 z71).bind fun z75 => m_inf_f nC f 1 i3 z71 z73 z75 Ls0 Ls1 Ls2 Ls3 Ls4 Ls5)) else (if sel = 1 then (if i6 < i5 then ((own_get nC Ls2 i6).bind fun z49 => (own_get (6 : Int32) Ls5 i4).bind fun z50 => (own_put (6 : Int32) Ls5 z49 ((z50 + i5) - i6)).bind fun L52 => m_inf_f nC f 1 i3 i4 i5 (i6 + (1 : Int32)) Ls0 Ls1 Ls2 Ls3 Ls4 L52) else (m_inf_f nC f 0 (i3 + (-1 : Int32)) (0 : Int32) (0 : Int32) (0 : Int32) Ls0 Ls1 Ls2 Ls3 Ls4 Ls5)) else (none))
theorem m_inf_z (nC : Int32) (sel : Nat) (i3 : Int32) (i4 : Int32) (i5 : Int32) (i6 : Int32) (Ls0 : List Int32) (Ls1 : List Int32) (Ls2 : List Int32) (Ls3 : List Int32) (Ls4 : List Int32) (Ls5 : List Int32) : m_inf_f nC 0 sel i3 i4 i5 i6 Ls0 Ls1 Ls2 Ls3 Ls4 Ls5 = none := rfl
theorem m_inf_14 (nC : Int32) (f : Nat) (i3 : Int32) (i4 : Int32) (i5 : Int32) (i6 : Int32) (Ls0 : List Int32) (Ls1 : List Int32) (Ls2 : List Int32) (Ls3 : List Int32) (Ls4 : List Int32) (Ls5 : List Int32) : m_inf_f nC (f + 1) 0 i3 i4 i5 i6 Ls0 Ls1 Ls2 Ls3 Ls4 Ls5 = (if i3 < (0 : Int32) then (some (Ls5)) else ((own_get (6 : Int32) Ls4 i3).bind fun z71 => (own_get (7 : Int32) Ls1 (z71 + (1 : Int32))).bind fun z73 => (own_get (7 : Int32) Ls1 z71).bind fun z75 => m_inf_f nC f 1 i3 z71 z73 z75 Ls0 Ls1 Ls2 Ls3 Ls4 Ls5)) := rfl
theorem m_inf_46 (nC : Int32) (f : Nat) (i3 : Int32) (i4 : Int32) (i5 : Int32) (i6 : Int32) (Ls0 : List Int32) (Ls1 : List Int32) (Ls2 : List Int32) (Ls3 : List Int32) (Ls4 : List Int32) (Ls5 : List Int32) : m_inf_f nC (f + 1) 1 i3 i4 i5 i6 Ls0 Ls1 Ls2 Ls3 Ls4 Ls5 = (if i6 < i5 then ((own_get nC Ls2 i6).bind fun z49 => (own_get (6 : Int32) Ls5 i4).bind fun z50 => (own_put (6 : Int32) Ls5 z49 ((z50 + i5) - i6)).bind fun L52 => m_inf_f nC f 1 i3 i4 i5 (i6 + (1 : Int32)) Ls0 Ls1 Ls2 Ls3 Ls4 L52) else (m_inf_f nC f 0 (i3 + (-1 : Int32)) (0 : Int32) (0 : Int32) (0 : Int32) Ls0 Ls1 Ls2 Ls3 Ls4 Ls5)) := rfl
def m_inf (nC : Int32) (P : List Int32) (S : List Int32) (C : List Int32) (T : List Int32) (F : List Int32) : Option (List Int32) := m_inf_f nC 60 0 (5 : Int32) (0 : Int32) (0 : Int32) (0 : Int32) P S C T F ([0, 0, 0, 0, 0, 0] : List Int32)
theorem d11_0 : decode prog_35_method_13_code 0 = .ok (.aload_n 0, 1) := by decide +kernel
theorem d11_1 : decode prog_35_method_13_code 1 = .ok (.getfield 19, 3) := by decide +kernel
theorem d11_4 : decode prog_35_method_13_code 4 = .ok (.arraylength, 1) := by decide +kernel
theorem d11_5 : decode prog_35_method_13_code 5 = .ok (.istore_n 1, 1) := by decide +kernel
theorem d11_6 : decode prog_35_method_13_code 6 = .ok (.iload_n 1, 1) := by decide +kernel
theorem d11_7 : decode prog_35_method_13_code 7 = .ok (.newarray .int, 2) := by decide +kernel
theorem d11_9 : decode prog_35_method_13_code 9 = .ok (.astore_n 2, 1) := by decide +kernel
theorem d11_10 : decode prog_35_method_13_code 10 = .ok (.iload_n 1, 1) := by decide +kernel
theorem d11_11 : decode prog_35_method_13_code 11 = .ok (.iconst 1, 1) := by decide +kernel
theorem d11_12 : decode prog_35_method_13_code 12 = .ok (.isub, 1) := by decide +kernel
theorem d11_13 : decode prog_35_method_13_code 13 = .ok (.istore_n 3, 1) := by decide +kernel
theorem d11_14 : decode prog_35_method_13_code 14 = .ok (.iload_n 3, 1) := by decide +kernel
theorem d11_15 : decode prog_35_method_13_code 15 = .ok (.ifCond .lt 69, 3) := by decide +kernel
theorem d11_18 : decode prog_35_method_13_code 18 = .ok (.aload_n 0, 1) := by decide +kernel
theorem d11_19 : decode prog_35_method_13_code 19 = .ok (.getfield 22, 3) := by decide +kernel
theorem d11_22 : decode prog_35_method_13_code 22 = .ok (.iload_n 3, 1) := by decide +kernel
theorem d11_23 : decode prog_35_method_13_code 23 = .ok (.iaload, 1) := by decide +kernel
theorem d11_24 : decode prog_35_method_13_code 24 = .ok (.istore 4, 2) := by decide +kernel
theorem d11_26 : decode prog_35_method_13_code 26 = .ok (.aload_n 0, 1) := by decide +kernel
theorem d11_27 : decode prog_35_method_13_code 27 = .ok (.getfield 13, 3) := by decide +kernel
theorem d11_30 : decode prog_35_method_13_code 30 = .ok (.iload 4, 2) := by decide +kernel
theorem d11_32 : decode prog_35_method_13_code 32 = .ok (.iconst 1, 1) := by decide +kernel
theorem d11_33 : decode prog_35_method_13_code 33 = .ok (.iadd, 1) := by decide +kernel
theorem d11_34 : decode prog_35_method_13_code 34 = .ok (.iaload, 1) := by decide +kernel
theorem d11_35 : decode prog_35_method_13_code 35 = .ok (.istore 5, 2) := by decide +kernel
theorem d11_37 : decode prog_35_method_13_code 37 = .ok (.aload_n 0, 1) := by decide +kernel
theorem d11_38 : decode prog_35_method_13_code 38 = .ok (.getfield 13, 3) := by decide +kernel
theorem d11_41 : decode prog_35_method_13_code 41 = .ok (.iload 4, 2) := by decide +kernel
theorem d11_43 : decode prog_35_method_13_code 43 = .ok (.iaload, 1) := by decide +kernel
theorem d11_44 : decode prog_35_method_13_code 44 = .ok (.istore 6, 2) := by decide +kernel
theorem d11_46 : decode prog_35_method_13_code 46 = .ok (.iload 6, 2) := by decide +kernel
theorem d11_48 : decode prog_35_method_13_code 48 = .ok (.iload 5, 2) := by decide +kernel
theorem d11_50 : decode prog_35_method_13_code 50 = .ok (.if_icmp .ge 28, 3) := by decide +kernel
theorem d11_53 : decode prog_35_method_13_code 53 = .ok (.aload_n 2, 1) := by decide +kernel
theorem d11_54 : decode prog_35_method_13_code 54 = .ok (.aload_n 0, 1) := by decide +kernel
theorem d11_55 : decode prog_35_method_13_code 55 = .ok (.getfield 16, 3) := by decide +kernel
theorem d11_58 : decode prog_35_method_13_code 58 = .ok (.iload 6, 2) := by decide +kernel
theorem d11_60 : decode prog_35_method_13_code 60 = .ok (.iaload, 1) := by decide +kernel
theorem d11_61 : decode prog_35_method_13_code 61 = .ok (.aload_n 2, 1) := by decide +kernel
theorem d11_62 : decode prog_35_method_13_code 62 = .ok (.iload 4, 2) := by decide +kernel
theorem d11_64 : decode prog_35_method_13_code 64 = .ok (.iaload, 1) := by decide +kernel
theorem d11_65 : decode prog_35_method_13_code 65 = .ok (.iload 5, 2) := by decide +kernel
theorem d11_67 : decode prog_35_method_13_code 67 = .ok (.iadd, 1) := by decide +kernel
theorem d11_68 : decode prog_35_method_13_code 68 = .ok (.iload 6, 2) := by decide +kernel
theorem d11_70 : decode prog_35_method_13_code 70 = .ok (.isub, 1) := by decide +kernel
theorem d11_71 : decode prog_35_method_13_code 71 = .ok (.iastore, 1) := by decide +kernel
theorem d11_72 : decode prog_35_method_13_code 72 = .ok (.iinc 6 1, 3) := by decide +kernel
theorem d11_75 : decode prog_35_method_13_code 75 = .ok (.goto (-29), 3) := by decide +kernel
theorem d11_78 : decode prog_35_method_13_code 78 = .ok (.iinc 3 (-1), 3) := by decide +kernel
theorem d11_81 : decode prog_35_method_13_code 81 = .ok (.goto (-67), 3) := by decide +kernel
theorem d11_84 : decode prog_35_method_13_code 84 = .ok (.aload_n 2, 1) := by decide +kernel
theorem d11_85 : decode prog_35_method_13_code 85 = .ok (.areturn, 1) := by decide +kernel
theorem ef_11_R (m : MethodId) (x0 : Addr) : entryFrame m #[(.ref x0)] 7 = mkF m 0 #[.val (.ref x0), .unset, .unset, .unset, .unset, .unset, .unset] [] := by first | (simp [entryFrame, mkF, argsToLocals, Value.category]; done) | rfl
def Q_rm11 (Z : State) (x0 : Addr) (bP : Addr) (bS : Addr) (bC : Addr) (bT : Addr) (bF : Addr) (kP : ClassId) (kS : ClassId) (kC : ClassId) (kT : ClassId) (kF : ClassId) (nC : Int32) (P : List Int32) (S : List Int32) (C : List Int32) (T : List Int32) (F : List Int32) (R : List Int32) (h0 : Heap) (n0 : Nat) (v : Option Value) (h : Heap) (L : List Loc) : Prop := ∃ b : Addr, ∃ kb : ClassId, v = some (.ref b) ∧ Fr n0 L ∧ Keep h0 h [] ∧ h0.size ≤ b ∧ Arv Z h b kb .int (6 : Int32) (R.map Value.int) (.int (0 : Int32))
set_option maxRecDepth 65536 in
set_option maxHeartbeats 40000000 in
theorem rm11 (l : Launch) (Z : State) (a0 : Array Value) (hw : ∀ d ∈ tables_1, d.before a0 Z = true) (ws : List Jvm.Cond) (x0 : Addr) (bP : Addr) (bS : Addr) (bC : Addr) (bT : Addr) (bF : Addr) (kP : ClassId) (kS : ClassId) (kC : ClassId) (kT : ClassId) (kF : ClassId) (nC : Int32) (P : List Int32) (S : List Int32) (C : List Int32) (T : List Int32) (F : List Int32) (R : List Int32) (h0 : Heap) (n0 : Nat) (Z0 : n0 ≤ h0.size) (p_0 : Fld Z h0 x0 "com/example/rumorwire/rumorwire/TreeSolver" "parent" "[I" (.ref bP)) (p_1 : Fld Z h0 x0 "com/example/rumorwire/rumorwire/TreeSolver" "childStart" "[I" (.ref bS)) (p_2 : Fld Z h0 x0 "com/example/rumorwire/rumorwire/TreeSolver" "children" "[I" (.ref bC)) (p_3 : Fld Z h0 x0 "com/example/rumorwire/rumorwire/TreeSolver" "time" "[I" (.ref bT)) (p_4 : Fld Z h0 x0 "com/example/rumorwire/rumorwire/TreeSolver" "finished" "[I" (.ref bF)) (p_5 : Arv Z h0 bP kP .int (6 : Int32) (P.map Value.int) (.int (0 : Int32))) (p_6 : Arv Z h0 bS kS .int (7 : Int32) (S.map Value.int) (.int (0 : Int32))) (p_7 : Arv Z h0 bC kC .int nC (C.map Value.int) (.int (0 : Int32))) (p_8 : Arv Z h0 bT kT .int (6 : Int32) (T.map Value.int) (.int (0 : Int32))) (p_9 : Arv Z h0 bF kF .int (6 : Int32) (F.map Value.int) (.int (0 : Int32))) (p_10 : m_inf nC P S C T F = some (R)) :
    MetFree l (⟨"com/example/rumorwire/rumorwire/TreeSolver", "informedIn", "()[I"⟩ : MethodName) (head1 (Jvm.Cond.code (⟨"com/example/rumorwire/rumorwire/TreeSolver", "informedIn", "()[I"⟩ : MethodName) prog_35_method_13_code 7 (some (.array .int)) :: ws) ({ frames := 0, cells := 1, slots := 6, locals := 0 } : Room)) (fun a U => a = #[(.ref x0)] ∧ Z.Warmed39 U.vm ∧ U.heap = h0) (fun _ _ _ _ _ => True) (fun _ U o U' => ∃ v L, o = .returned v ∧ Q_rm11 Z x0 bP bS bC bT bF kP kS kC kT kF nC P S C T F R h0 n0 v U'.heap L ∧ FrameEnd U o U' L ({ frames := 0, cells := 1, slots := 6, locals := 0 } : Room).cells ({ frames := 0, cells := 1, slots := 6, locals := 0 } : Room).slots) := by
  refine MetFree.of_bodySF (plainFor_of_name pn_0) hisR ?_
  intro p e s m args below meth c s₁ Bd hml0 hP hK
  obtain ⟨rfl, hZ, hh⟩ := hP
  have hx := Bd.exec
  have hby := Bd.bytes
  have hml : c.maxLocals = 7 := hml0
  have hown : s.vm.findClass "com/example/rumorwire/rumorwire/TreeSolver" = some m.cls := findClass_of_methodNamed Bd.named
  have hnm := (name_of_methodNamed Bd.named Bd.method).1
  have X0 : Stand p l e ({ frames := 0, cells := 1, slots := 6, locals := 0 } : Room) s m #[(.ref x0)] below meth c s₁ [] 0 0 := Stand.of_body Bd
  have e0 : s₁.heap = h0 := by rw [← hh, Bd.state]; rfl
  have N0 := Fr.nil n0
  show own_Ends p e below s ({ frames := 0, cells := 1, slots := 6, locals := 0 } : Room).cells ({ frames := 0, cells := 1, slots := 6, locals := 0 } : Room).slots (Q_rm11 Z x0 bP bS bC bT bF kP kS kC kT kF nC P S C T F R h0 n0) (s₁.setTop (entryFrame m #[(.ref x0)] 7))
  rw [ef_11_R]
  refine own_step (st' := s₁.setTop (mkF m 1 #[.val (.ref x0), .unset, .unset, .unset, .unset, .unset, .unset] [(.ref x0)])) (fun t k => XS.aloadN X0.here hx rfl (hb hby d11_0) rfl rfl k) ?_
  obtain ⟨T1, X1, e1, st1⟩ := getF X0 hx hZ hown (host := "") (Or.inl (hw _ (List.mem_of_getElem? (i := 34) rfl))) Via.refl e0 p_3 (g := (mkF m 1 #[.val (.ref x0), .unset, .unset, .unset, .unset, .unset, .unset] [(.ref x0)])) rfl rfl (hb hby d11_1)
  refine own_step (st' := T1.setTop (mkF m 4 #[.val (.ref x0), .unset, .unset, .unset, .unset, .unset, .unset] [(.ref bT)])) st1 ?_
  refine own_step (st' := T1.setTop (mkF m 5 #[.val (.ref x0), .unset, .unset, .unset, .unset, .unset, .unset] [(.int (6 : Int32))])) (fun t k => own_len X1 hx hZ e1 p_8 (g := (mkF m 4 #[.val (.ref x0), .unset, .unset, .unset, .unset, .unset, .unset] [(.ref bT)])) rfl rfl (hb hby d11_4) t k) ?_
  refine own_step (st' := T1.setTop (mkF m 6 #[.val (.ref x0), .val (.int (6 : Int32)), .unset, .unset, .unset, .unset, .unset] [])) (fun t k => XS.istoreN X1.here hx rfl (hb hby d11_5) rfl (l' := #[.val (.ref x0), .val (.int (6 : Int32)), .unset, .unset, .unset, .unset, .unset]) rfl k) ?_
  refine own_step (st' := T1.setTop (mkF m 7 #[.val (.ref x0), .val (.int (6 : Int32)), .unset, .unset, .unset, .unset, .unset] [(.int (6 : Int32))])) (fun t k => XS.iloadN X1.here hx rfl (hb hby d11_6) rfl k) ?_
  obtain ⟨T2, h2, k2, X2, e2, E2, A2, st2⟩ := newP X1 hx hZ (hw _ (List.mem_of_getElem? (i := 0) rfl)) e1 (g := (mkF m 7 #[.val (.ref x0), .val (.int (6 : Int32)), .unset, .unset, .unset, .unset, .unset] [(.int (6 : Int32))])) rfl (hb hby d11_7) rfl (by decide) (cap := 6) (by decide) (by decide) (by decide) (by decide)
  obtain ⟨b2, g2⟩ : ∃ z, z = h0.size := ⟨_, rfl⟩
  rw [← g2] at A2 st2
  have ne3 : x0 ≠ b2 := Nat.ne_of_lt (Nat.lt_of_lt_of_le p_0.lt (Nat.le_of_eq g2.symm))
  have ne4 : bP ≠ b2 := Nat.ne_of_lt (Nat.lt_of_lt_of_le p_5.lt (Nat.le_of_eq g2.symm))
  have ne5 : bS ≠ b2 := Nat.ne_of_lt (Nat.lt_of_lt_of_le p_6.lt (Nat.le_of_eq g2.symm))
  have ne6 : bC ≠ b2 := Nat.ne_of_lt (Nat.lt_of_lt_of_le p_7.lt (Nat.le_of_eq g2.symm))
  have ne7 : bT ≠ b2 := Nat.ne_of_lt (Nat.lt_of_lt_of_le p_8.lt (Nat.le_of_eq g2.symm))
  have ne8 : bF ≠ b2 := Nat.ne_of_lt (Nat.lt_of_lt_of_le p_9.lt (Nat.le_of_eq g2.symm))
  have g_b2 : n0 ≤ b2 := Nat.le_trans Z0 (Nat.le_of_eq g2.symm)
  have sz_b2 : h0.size ≤ b2 := Nat.le_trans (Keep.refl h0 []).1 (Nat.le_of_eq g2.symm)
  have f9 := p_0.ext E2
  have f10 := p_1.ext E2
  have f11 := p_2.ext E2
  have f12 := p_3.ext E2
  have f13 := p_4.ext E2
  have f14 := p_5.ext E2
  have f15 := p_6.ext E2
  have f16 := p_7.ext E2
  have f17 := p_8.ext E2
  have f18 := p_9.ext E2
  have K19 : Keep h0 h2 [] := (Keep.refl h0 []).ext E2
  have Z20 : n0 ≤ h2.size := Nat.le_trans Z0 E2.1
  have V2 : Arv Z h2 b2 k2 .int (6 : Int32) [(.int (0 : Int32)), (.int (0 : Int32)), (.int (0 : Int32)), (.int (0 : Int32)), (.int (0 : Int32)), (.int (0 : Int32))] (.int (0 : Int32)) := (Arv.new A2 (by decide)).pad (pad_rep [] (.int (0 : Int32)) 6)
  refine own_step (st' := T2.setTop (mkF m 9 #[.val (.ref x0), .val (.int (6 : Int32)), .unset, .unset, .unset, .unset, .unset] [(.ref b2)])) st2 ?_
  have vp21 : Arv Z h2 b2 k2 .int (6 : Int32) (([0, 0, 0, 0, 0, 0] : List Int32).map Value.int) (.int (0 : Int32)) := V2
  refine own_step (st' := T2.setTop (mkF m 10 #[.val (.ref x0), .val (.int (6 : Int32)), .val (.ref b2), .unset, .unset, .unset, .unset] [])) (fun t k => XS.astoreN X2.here hx rfl (hb hby d11_9) rfl rfl (l' := #[.val (.ref x0), .val (.int (6 : Int32)), .val (.ref b2), .unset, .unset, .unset, .unset]) rfl k) ?_
  have J22 : ∀ (k22 : Nat) (T22 : State) (h22 : Heap) (lc22 : List Loc) (i3 : Int32) (sl4 : Slot) (sl5 : Slot) (sl6 : Slot) (Ls0 : List Int32) (Ls1 : List Int32) (Ls2 : List Int32) (Ls3 : List Int32) (Ls4 : List Int32) (Ls5 : List Int32) (X22 : Stand p l e ({ frames := 0, cells := 1, slots := 6, locals := 0 } : Room) s m #[(.ref x0)] below meth c T22 lc22 1 6) (e22 : T22.heap = h22) (N22 : Fr n0 lc22) (Z22 : n0 ≤ h22.size) (f23 : Fld Z h22 x0 "com/example/rumorwire/rumorwire/TreeSolver" "parent" "[I" (.ref bP)) (f24 : Fld Z h22 x0 "com/example/rumorwire/rumorwire/TreeSolver" "childStart" "[I" (.ref bS)) (f25 : Fld Z h22 x0 "com/example/rumorwire/rumorwire/TreeSolver" "children" "[I" (.ref bC)) (f26 : Fld Z h22 x0 "com/example/rumorwire/rumorwire/TreeSolver" "time" "[I" (.ref bT)) (f27 : Fld Z h22 x0 "com/example/rumorwire/rumorwire/TreeSolver" "finished" "[I" (.ref bF)) (f28 : Arv Z h22 bP kP .int (6 : Int32) (Ls0.map Value.int) (.int (0 : Int32))) (f29 : Arv Z h22 bS kS .int (7 : Int32) (Ls1.map Value.int) (.int (0 : Int32))) (f30 : Arv Z h22 bC kC .int nC (Ls2.map Value.int) (.int (0 : Int32))) (f31 : Arv Z h22 bT kT .int (6 : Int32) (Ls3.map Value.int) (.int (0 : Int32))) (f32 : Arv Z h22 bF kF .int (6 : Int32) (Ls4.map Value.int) (.int (0 : Int32))) (f33 : Arv Z h22 b2 k2 .int (6 : Int32) (Ls5.map Value.int) (.int (0 : Int32))) (K22 : Keep h0 h22 []) (hr : m_inf_f nC k22 0 i3 (0 : Int32) (0 : Int32) (0 : Int32) Ls0 Ls1 Ls2 Ls3 Ls4 Ls5 = some (R)) (hsl4 : sl4 = .unset ∨ ∃ w, sl4 = .val w ∧ w.category = 1) (hsl5 : sl5 = .unset ∨ ∃ w, sl5 = .val w ∧ w.category = 1) (hsl6 : sl6 = .unset ∨ ∃ w, sl6 = .val w ∧ w.category = 1), own_Ends p e below s ({ frames := 0, cells := 1, slots := 6, locals := 0 } : Room).cells ({ frames := 0, cells := 1, slots := 6, locals := 0 } : Room).slots (Q_rm11 Z x0 bP bS bC bT bF kP kS kC kT kF nC P S C T F R h0 n0) (T22.setTop (mkF m 14 #[.val (.ref x0), .val (.int (6 : Int32)), .val (.ref b2), .val (.int i3), sl4, sl5, sl6] [])) := by
    intro k22
    induction k22 using Nat.strongRecOn with
    | _ k22 ih22 =>
      intro T22 h22 lc22 i3 sl4 sl5 sl6 Ls0 Ls1 Ls2 Ls3 Ls4 Ls5 X22 e22 N22 Z22 f23 f24 f25 f26 f27 f28 f29 f30 f31 f32 f33 K22 hr hsl4 hsl5 hsl6
      obtain ⟨fu22, rfl⟩ : ∃ f, k22 = f + 1 := by
        cases k22 with
        | zero => rw [m_inf_z] at hr; cases hr
        | succ f => exact ⟨f, rfl⟩
      rw [m_inf_14] at hr
      have J34 : ∀ (k34 : Nat) (T34 : State) (h34 : Heap) (lc34 : List Loc) (i3 : Int32) (i4 : Int32) (i5 : Int32) (i6 : Int32) (Ls0 : List Int32) (Ls1 : List Int32) (Ls2 : List Int32) (Ls3 : List Int32) (Ls4 : List Int32) (Ls5 : List Int32) (X34 : Stand p l e ({ frames := 0, cells := 1, slots := 6, locals := 0 } : Room) s m #[(.ref x0)] below meth c T34 lc34 1 6) (e34 : T34.heap = h34) (N34 : Fr n0 lc34) (Z34 : n0 ≤ h34.size) (f35 : Fld Z h34 x0 "com/example/rumorwire/rumorwire/TreeSolver" "parent" "[I" (.ref bP)) (f36 : Fld Z h34 x0 "com/example/rumorwire/rumorwire/TreeSolver" "childStart" "[I" (.ref bS)) (f37 : Fld Z h34 x0 "com/example/rumorwire/rumorwire/TreeSolver" "children" "[I" (.ref bC)) (f38 : Fld Z h34 x0 "com/example/rumorwire/rumorwire/TreeSolver" "time" "[I" (.ref bT)) (f39 : Fld Z h34 x0 "com/example/rumorwire/rumorwire/TreeSolver" "finished" "[I" (.ref bF)) (f40 : Arv Z h34 bP kP .int (6 : Int32) (Ls0.map Value.int) (.int (0 : Int32))) (f41 : Arv Z h34 bS kS .int (7 : Int32) (Ls1.map Value.int) (.int (0 : Int32))) (f42 : Arv Z h34 bC kC .int nC (Ls2.map Value.int) (.int (0 : Int32))) (f43 : Arv Z h34 bT kT .int (6 : Int32) (Ls3.map Value.int) (.int (0 : Int32))) (f44 : Arv Z h34 bF kF .int (6 : Int32) (Ls4.map Value.int) (.int (0 : Int32))) (f45 : Arv Z h34 b2 k2 .int (6 : Int32) (Ls5.map Value.int) (.int (0 : Int32))) (K34 : Keep h0 h34 []) (hr : m_inf_f nC k34 1 i3 i4 i5 i6 Ls0 Ls1 Ls2 Ls3 Ls4 Ls5 = some (R)) (hk46 : k34 < fu22 + 1), own_Ends p e below s ({ frames := 0, cells := 1, slots := 6, locals := 0 } : Room).cells ({ frames := 0, cells := 1, slots := 6, locals := 0 } : Room).slots (Q_rm11 Z x0 bP bS bC bT bF kP kS kC kT kF nC P S C T F R h0 n0) (T34.setTop (mkF m 46 #[.val (.ref x0), .val (.int (6 : Int32)), .val (.ref b2), .val (.int i3), .val (.int i4), .val (.int i5), .val (.int i6)] [])) := by
        intro k34
        induction k34 using Nat.strongRecOn with
        | _ k34 ih34 =>
          intro T34 h34 lc34 i3 i4 i5 i6 Ls0 Ls1 Ls2 Ls3 Ls4 Ls5 X34 e34 N34 Z34 f35 f36 f37 f38 f39 f40 f41 f42 f43 f44 f45 K34 hr hk46
          obtain ⟨fu34, rfl⟩ : ∃ f, k34 = f + 1 := by
            cases k34 with
            | zero => rw [m_inf_z] at hr; cases hr
            | succ f => exact ⟨f, rfl⟩
          rw [m_inf_46] at hr
          refine own_step (st' := T34.setTop (mkF m 48 #[.val (.ref x0), .val (.int (6 : Int32)), .val (.ref b2), .val (.int i3), .val (.int i4), .val (.int i5), .val (.int i6)] [(.int i6)])) (fun t k => XS.iload X34.here hx rfl (hb hby d11_46) rfl k) ?_
          refine own_step (st' := T34.setTop (mkF m 50 #[.val (.ref x0), .val (.int (6 : Int32)), .val (.ref b2), .val (.int i3), .val (.int i4), .val (.int i5), .val (.int i6)] [(.int i5), (.int i6)])) (fun t k => XS.iload X34.here hx rfl (hb hby d11_48) rfl k) ?_
          by_cases hc46 : i6 < i5
          · have r47 := own_if1 hc46 hr
            clear hr
            refine own_step (st' := T34.setTop (mkF m 53 #[.val (.ref x0), .val (.int (6 : Int32)), .val (.ref b2), .val (.int i3), .val (.int i4), .val (.int i5), .val (.int i6)] [])) (fun t k => XS.icmpNo X34.here hx rfl (hb hby d11_50) rfl (tlt hc46).2.1 k) ?_
            refine own_step (st' := T34.setTop (mkF m 54 #[.val (.ref x0), .val (.int (6 : Int32)), .val (.ref b2), .val (.int i3), .val (.int i4), .val (.int i5), .val (.int i6)] [(.ref b2)])) (fun t k => XS.aloadN X34.here hx rfl (hb hby d11_53) rfl rfl k) ?_
            refine own_step (st' := T34.setTop (mkF m 55 #[.val (.ref x0), .val (.int (6 : Int32)), .val (.ref b2), .val (.int i3), .val (.int i4), .val (.int i5), .val (.int i6)] [(.ref x0), (.ref b2)])) (fun t k => XS.aloadN X34.here hx rfl (hb hby d11_54) rfl rfl k) ?_
            obtain ⟨T48, X48, e48, st48⟩ := getF X34 hx hZ hown (host := "") (Or.inl (hw _ (List.mem_of_getElem? (i := 32) rfl))) Via.refl e34 f37 (g := (mkF m 55 #[.val (.ref x0), .val (.int (6 : Int32)), .val (.ref b2), .val (.int i3), .val (.int i4), .val (.int i5), .val (.int i6)] [(.ref x0), (.ref b2)])) rfl rfl (hb hby d11_55)
            refine own_step (st' := T48.setTop (mkF m 58 #[.val (.ref x0), .val (.int (6 : Int32)), .val (.ref b2), .val (.int i3), .val (.int i4), .val (.int i5), .val (.int i6)] [(.ref bC), (.ref b2)])) st48 ?_
            refine own_step (st' := T48.setTop (mkF m 60 #[.val (.ref x0), .val (.int (6 : Int32)), .val (.ref b2), .val (.int i3), .val (.int i4), .val (.int i5), .val (.int i6)] [(.int i6), (.ref bC), (.ref b2)])) (fun t k => XS.iload X48.here hx rfl (hb hby d11_58) rfl k) ?_
            obtain ⟨z49, hz49, rz49⟩ := own_bind r47
            clear r47
            refine own_step (st' := T48.setTop (mkF m 61 #[.val (.ref x0), .val (.int (6 : Int32)), .val (.ref b2), .val (.int i3), .val (.int i4), .val (.int i5), .val (.int i6)] [(.int z49), (.ref b2)])) (fun t k => own_ldI X48 hx hZ e48 f42 (j := i6) (v := (.int z49)) (own_gd hz49).1 (own_gd hz49).2 (g := (mkF m 60 #[.val (.ref x0), .val (.int (6 : Int32)), .val (.ref b2), .val (.int i3), .val (.int i4), .val (.int i5), .val (.int i6)] [(.int i6), (.ref bC), (.ref b2)])) rfl rfl (hb hby d11_60) t k) ?_
            refine own_step (st' := T48.setTop (mkF m 62 #[.val (.ref x0), .val (.int (6 : Int32)), .val (.ref b2), .val (.int i3), .val (.int i4), .val (.int i5), .val (.int i6)] [(.ref b2), (.int z49), (.ref b2)])) (fun t k => XS.aloadN X48.here hx rfl (hb hby d11_61) rfl rfl k) ?_
            refine own_step (st' := T48.setTop (mkF m 64 #[.val (.ref x0), .val (.int (6 : Int32)), .val (.ref b2), .val (.int i3), .val (.int i4), .val (.int i5), .val (.int i6)] [(.int i4), (.ref b2), (.int z49), (.ref b2)])) (fun t k => XS.iload X48.here hx rfl (hb hby d11_62) rfl k) ?_
            obtain ⟨z50, hz50, rz50⟩ := own_bind rz49
            clear rz49
            refine own_step (st' := T48.setTop (mkF m 65 #[.val (.ref x0), .val (.int (6 : Int32)), .val (.ref b2), .val (.int i3), .val (.int i4), .val (.int i5), .val (.int i6)] [(.int z50), (.int z49), (.ref b2)])) (fun t k => own_ldI X48 hx hZ e48 f45 (j := i4) (v := (.int z50)) (own_gd hz50).1 (own_gd hz50).2 (g := (mkF m 64 #[.val (.ref x0), .val (.int (6 : Int32)), .val (.ref b2), .val (.int i3), .val (.int i4), .val (.int i5), .val (.int i6)] [(.int i4), (.ref b2), (.int z49), (.ref b2)])) rfl rfl (hb hby d11_64) t k) ?_
            refine own_step (st' := T48.setTop (mkF m 67 #[.val (.ref x0), .val (.int (6 : Int32)), .val (.ref b2), .val (.int i3), .val (.int i4), .val (.int i5), .val (.int i6)] [(.int i5), (.int z50), (.int z49), (.ref b2)])) (fun t k => XS.iload X48.here hx rfl (hb hby d11_65) rfl k) ?_
            refine own_step (st' := T48.setTop (mkF m 68 #[.val (.ref x0), .val (.int (6 : Int32)), .val (.ref b2), .val (.int i3), .val (.int i4), .val (.int i5), .val (.int i6)] [(.int (z50 + i5)), (.int z49), (.ref b2)])) (fun t k => XS.iadd X48.here hx rfl (hb hby d11_67) rfl k) ?_
            refine own_step (st' := T48.setTop (mkF m 70 #[.val (.ref x0), .val (.int (6 : Int32)), .val (.ref b2), .val (.int i3), .val (.int i4), .val (.int i5), .val (.int i6)] [(.int i6), (.int (z50 + i5)), (.int z49), (.ref b2)])) (fun t k => XS.iload X48.here hx rfl (hb hby d11_68) rfl k) ?_
            refine own_step (st' := T48.setTop (mkF m 71 #[.val (.ref x0), .val (.int (6 : Int32)), .val (.ref b2), .val (.int i3), .val (.int i4), .val (.int i5), .val (.int i6)] [(.int ((z50 + i5) - i6)), (.int z49), (.ref b2)])) (fun t k => XS.isub X48.here hx rfl (hb hby d11_70) rfl k) ?_
            obtain ⟨L52, hL52, rL52⟩ := own_bind rz50
            clear rz50
            obtain ⟨T51, h51, X51, e51, W51, V51, st51⟩ := own_stI X48 hx hZ e48 f45 (j := z49) (i := z49.toNatClampNeg) (own_pt hL52).1 rfl (own_pt hL52).2.1 (g := (mkF m 71 #[.val (.ref x0), .val (.int (6 : Int32)), .val (.ref b2), .val (.int i3), .val (.int i4), .val (.int i5), .val (.int i6)] [(.int ((z50 + i5) - i6)), (.int z49), (.ref b2)])) rfl rfl (hb hby d11_71)
            have V51 : Arv Z h51 b2 k2 .int (6 : Int32) ((Ls5.map Value.int).set z49.toNatClampNeg (.int ((z50 + i5) - i6))) (.int (0 : Int32)) := V51
            rw [(own_pt hL52).2.2] at V51
            have f53 := f35.other W51 (Or.inl ne3)
            have f54 := f36.other W51 (Or.inl ne3)
            have f55 := f37.other W51 (Or.inl ne3)
            have f56 := f38.other W51 (Or.inl ne3)
            have f57 := f39.other W51 (Or.inl ne3)
            have f58 := f40.other W51 ne4
            have f59 := f41.other W51 ne5
            have f60 := f42.other W51 ne6
            have f61 := f43.other W51 ne7
            have f62 := f44.other W51 ne8
            have K63 : Keep h0 h51 [] := K34.wr W51 (Or.inr sz_b2)
            have Z64 : n0 ≤ h51.size := Nat.le_trans Z34 (Keep.of_wr W51).1
            have N65 := Fr.snoc X51 N34 g_b2
            refine own_step (st' := T51.setTop (mkF m 72 #[.val (.ref x0), .val (.int (6 : Int32)), .val (.ref b2), .val (.int i3), .val (.int i4), .val (.int i5), .val (.int i6)] [])) st51 ?_
            refine own_step (st' := T51.setTop (mkF m 75 #[.val (.ref x0), .val (.int (6 : Int32)), .val (.ref b2), .val (.int i3), .val (.int i4), .val (.int i5), .val (.int (i6 + (1 : Int32)))] [])) (fun t k => XS.iinc X51.here hx rfl (hb hby d11_72) rfl (l' := #[.val (.ref x0), .val (.int (6 : Int32)), .val (.ref b2), .val (.int i3), .val (.int i4), .val (.int i5), .val (.int (i6 + (1 : Int32)))]) rfl k) ?_
            refine own_step (st' := T51.setTop (mkF m 46 #[.val (.ref x0), .val (.int (6 : Int32)), .val (.ref b2), .val (.int i3), .val (.int i4), .val (.int i5), .val (.int (i6 + (1 : Int32)))] [])) (fun t k => XS.goto X51.here hx rfl (pc0 := 75) (pc' := 46) rfl (hb hby d11_75) (by decide) (by decide) k) ?_
            exact ih34 fu34 (by omega) _ _ _ i3 i4 i5 (i6 + (1 : Int32)) Ls0 Ls1 Ls2 Ls3 Ls4 L52 X51 e51 N65 Z64 f53 f54 f55 f56 f57 f58 f59 f60 f61 f62 V51 K63 rL52 (by omega)
          · have r66 := own_if0 hc46 hr
            clear hr
            refine own_step (st' := T34.setTop (mkF m 78 #[.val (.ref x0), .val (.int (6 : Int32)), .val (.ref b2), .val (.int i3), .val (.int i4), .val (.int i5), .val (.int i6)] [])) (fun t k => XS.icmpYes X34.here hx rfl (pc0 := 50) (pc' := 78) rfl (hb hby d11_50) rfl (flt hc46).2.1 (by decide) (by decide) k) ?_
            refine own_step (st' := T34.setTop (mkF m 81 #[.val (.ref x0), .val (.int (6 : Int32)), .val (.ref b2), .val (.int (i3 + (-1 : Int32))), .val (.int i4), .val (.int i5), .val (.int i6)] [])) (fun t k => XS.iinc X34.here hx rfl (hb hby d11_78) rfl (l' := #[.val (.ref x0), .val (.int (6 : Int32)), .val (.ref b2), .val (.int (i3 + (-1 : Int32))), .val (.int i4), .val (.int i5), .val (.int i6)]) rfl k) ?_
            refine own_step (st' := T34.setTop (mkF m 14 #[.val (.ref x0), .val (.int (6 : Int32)), .val (.ref b2), .val (.int (i3 + (-1 : Int32))), .val (.int i4), .val (.int i5), .val (.int i6)] [])) (fun t k => XS.goto X34.here hx rfl (pc0 := 81) (pc' := 14) rfl (hb hby d11_81) (by decide) (by decide) k) ?_
            exact ih22 fu34 (by omega) _ _ _ (i3 + (-1 : Int32)) (.val (.int i4)) (.val (.int i5)) (.val (.int i6)) Ls0 Ls1 Ls2 Ls3 Ls4 Ls5 X34 e34 N34 Z34 f35 f36 f37 f38 f39 f40 f41 f42 f43 f44 f45 K34 r66 (Or.inr ⟨_, rfl, rfl⟩) (Or.inr ⟨_, rfl, rfl⟩) (Or.inr ⟨_, rfl, rfl⟩)
      refine own_step (st' := T22.setTop (mkF m 15 #[.val (.ref x0), .val (.int (6 : Int32)), .val (.ref b2), .val (.int i3), sl4, sl5, sl6] [(.int i3)])) (fun t k => XS.iloadN X22.here hx rfl (hb hby d11_14) rfl k) ?_
      by_cases hc67 : i3 < (0 : Int32)
      · have r68 := own_if1 hc67 hr
        clear hr
        refine own_step (st' := T22.setTop (mkF m 84 #[.val (.ref x0), .val (.int (6 : Int32)), .val (.ref b2), .val (.int i3), sl4, sl5, sl6] [])) (fun t k => XS.ifYes X22.here hx rfl (pc0 := 15) (pc' := 84) rfl (hb hby d11_15) rfl ((if0 _ _).trans (tlt hc67).1) (by decide) (by decide) k) ?_
        refine own_step (st' := T22.setTop (mkF m 85 #[.val (.ref x0), .val (.int (6 : Int32)), .val (.ref b2), .val (.int i3), sl4, sl5, sl6] [(.ref b2)])) (fun t k => XS.aloadN X22.here hx rfl (hb hby d11_84) rfl rfl k) ?_
        refine own_ret X22 Bd.notSynchronized (some (.ref b2)) (fun h => by rw [Bd.returns] at h; cases h) (fun fs hr => retOut X22 hx Bd.returns rfl (Or.inr (Or.inr (Or.inr (Or.inr ⟨rfl, rfl, rfl⟩)))) (hb hby d11_85) hr) ?_ (by decide) (by decide)
        rw [e22]
        have hq : some (Ls5) = some (R) := r68
        cases hq
        exact ⟨b2, k2, rfl, N22, K22, sz_b2, f33⟩
      · have r69 := own_if0 hc67 hr
        clear hr
        refine own_step (st' := T22.setTop (mkF m 18 #[.val (.ref x0), .val (.int (6 : Int32)), .val (.ref b2), .val (.int i3), sl4, sl5, sl6] [])) (fun t k => XS.ifNo X22.here hx rfl (hb hby d11_15) rfl ((if0 _ _).trans (flt hc67).1) k) ?_
        refine own_step (st' := T22.setTop (mkF m 19 #[.val (.ref x0), .val (.int (6 : Int32)), .val (.ref b2), .val (.int i3), sl4, sl5, sl6] [(.ref x0)])) (fun t k => XS.aloadN X22.here hx rfl (hb hby d11_18) rfl rfl k) ?_
        obtain ⟨T70, X70, e70, st70⟩ := getF X22 hx hZ hown (host := "") (Or.inl (hw _ (List.mem_of_getElem? (i := 36) rfl))) Via.refl e22 f27 (g := (mkF m 19 #[.val (.ref x0), .val (.int (6 : Int32)), .val (.ref b2), .val (.int i3), sl4, sl5, sl6] [(.ref x0)])) rfl rfl (hb hby d11_19)
        refine own_step (st' := T70.setTop (mkF m 22 #[.val (.ref x0), .val (.int (6 : Int32)), .val (.ref b2), .val (.int i3), sl4, sl5, sl6] [(.ref bF)])) st70 ?_
        refine own_step (st' := T70.setTop (mkF m 23 #[.val (.ref x0), .val (.int (6 : Int32)), .val (.ref b2), .val (.int i3), sl4, sl5, sl6] [(.int i3), (.ref bF)])) (fun t k => XS.iloadN X70.here hx rfl (hb hby d11_22) rfl k) ?_
        obtain ⟨z71, hz71, rz71⟩ := own_bind r69
        clear r69
        refine own_step (st' := T70.setTop (mkF m 24 #[.val (.ref x0), .val (.int (6 : Int32)), .val (.ref b2), .val (.int i3), sl4, sl5, sl6] [(.int z71)])) (fun t k => own_ldI X70 hx hZ e70 f32 (j := i3) (v := (.int z71)) (own_gd hz71).1 (own_gd hz71).2 (g := (mkF m 23 #[.val (.ref x0), .val (.int (6 : Int32)), .val (.ref b2), .val (.int i3), sl4, sl5, sl6] [(.int i3), (.ref bF)])) rfl rfl (hb hby d11_23) t k) ?_
        refine own_step (st' := T70.setTop (mkF m 26 #[.val (.ref x0), .val (.int (6 : Int32)), .val (.ref b2), .val (.int i3), .val (.int z71), sl5, sl6] [])) (fun t k => XS.istore X70.here hx rfl (hb hby d11_24) rfl (l' := #[.val (.ref x0), .val (.int (6 : Int32)), .val (.ref b2), .val (.int i3), .val (.int z71), sl5, sl6]) (XS.store1 rfl hsl4 rfl) k) ?_
        refine own_step (st' := T70.setTop (mkF m 27 #[.val (.ref x0), .val (.int (6 : Int32)), .val (.ref b2), .val (.int i3), .val (.int z71), sl5, sl6] [(.ref x0)])) (fun t k => XS.aloadN X70.here hx rfl (hb hby d11_26) rfl rfl k) ?_
        obtain ⟨T72, X72, e72, st72⟩ := getF X70 hx hZ hown (host := "") (Or.inl (hw _ (List.mem_of_getElem? (i := 30) rfl))) Via.refl e70 f24 (g := (mkF m 27 #[.val (.ref x0), .val (.int (6 : Int32)), .val (.ref b2), .val (.int i3), .val (.int z71), sl5, sl6] [(.ref x0)])) rfl rfl (hb hby d11_27)
        refine own_step (st' := T72.setTop (mkF m 30 #[.val (.ref x0), .val (.int (6 : Int32)), .val (.ref b2), .val (.int i3), .val (.int z71), sl5, sl6] [(.ref bS)])) st72 ?_
        refine own_step (st' := T72.setTop (mkF m 32 #[.val (.ref x0), .val (.int (6 : Int32)), .val (.ref b2), .val (.int i3), .val (.int z71), sl5, sl6] [(.int z71), (.ref bS)])) (fun t k => XS.iload X72.here hx rfl (hb hby d11_30) rfl k) ?_
        refine own_step (st' := T72.setTop (mkF m 33 #[.val (.ref x0), .val (.int (6 : Int32)), .val (.ref b2), .val (.int i3), .val (.int z71), sl5, sl6] [(.int (1 : Int32)), (.int z71), (.ref bS)])) (fun t k => XS.iconst X72.here hx rfl (hb hby d11_32) k) ?_
        refine own_step (st' := T72.setTop (mkF m 34 #[.val (.ref x0), .val (.int (6 : Int32)), .val (.ref b2), .val (.int i3), .val (.int z71), sl5, sl6] [(.int (z71 + (1 : Int32))), (.ref bS)])) (fun t k => XS.iadd X72.here hx rfl (hb hby d11_33) rfl k) ?_
        obtain ⟨z73, hz73, rz73⟩ := own_bind rz71
        clear rz71
        refine own_step (st' := T72.setTop (mkF m 35 #[.val (.ref x0), .val (.int (6 : Int32)), .val (.ref b2), .val (.int i3), .val (.int z71), sl5, sl6] [(.int z73)])) (fun t k => own_ldI X72 hx hZ e72 f29 (j := (z71 + (1 : Int32))) (v := (.int z73)) (own_gd hz73).1 (own_gd hz73).2 (g := (mkF m 34 #[.val (.ref x0), .val (.int (6 : Int32)), .val (.ref b2), .val (.int i3), .val (.int z71), sl5, sl6] [(.int (z71 + (1 : Int32))), (.ref bS)])) rfl rfl (hb hby d11_34) t k) ?_
        refine own_step (st' := T72.setTop (mkF m 37 #[.val (.ref x0), .val (.int (6 : Int32)), .val (.ref b2), .val (.int i3), .val (.int z71), .val (.int z73), sl6] [])) (fun t k => XS.istore X72.here hx rfl (hb hby d11_35) rfl (l' := #[.val (.ref x0), .val (.int (6 : Int32)), .val (.ref b2), .val (.int i3), .val (.int z71), .val (.int z73), sl6]) (XS.store1 rfl hsl5 rfl) k) ?_
        refine own_step (st' := T72.setTop (mkF m 38 #[.val (.ref x0), .val (.int (6 : Int32)), .val (.ref b2), .val (.int i3), .val (.int z71), .val (.int z73), sl6] [(.ref x0)])) (fun t k => XS.aloadN X72.here hx rfl (hb hby d11_37) rfl rfl k) ?_
        obtain ⟨T74, X74, e74, st74⟩ := getF X72 hx hZ hown (host := "") (Or.inl (hw _ (List.mem_of_getElem? (i := 30) rfl))) Via.refl e72 f24 (g := (mkF m 38 #[.val (.ref x0), .val (.int (6 : Int32)), .val (.ref b2), .val (.int i3), .val (.int z71), .val (.int z73), sl6] [(.ref x0)])) rfl rfl (hb hby d11_38)
        refine own_step (st' := T74.setTop (mkF m 41 #[.val (.ref x0), .val (.int (6 : Int32)), .val (.ref b2), .val (.int i3), .val (.int z71), .val (.int z73), sl6] [(.ref bS)])) st74 ?_
        refine own_step (st' := T74.setTop (mkF m 43 #[.val (.ref x0), .val (.int (6 : Int32)), .val (.ref b2), .val (.int i3), .val (.int z71), .val (.int z73), sl6] [(.int z71), (.ref bS)])) (fun t k => XS.iload X74.here hx rfl (hb hby d11_41) rfl k) ?_
        obtain ⟨z75, hz75, rz75⟩ := own_bind rz73
        clear rz73
        refine own_step (st' := T74.setTop (mkF m 44 #[.val (.ref x0), .val (.int (6 : Int32)), .val (.ref b2), .val (.int i3), .val (.int z71), .val (.int z73), sl6] [(.int z75)])) (fun t k => own_ldI X74 hx hZ e74 f29 (j := z71) (v := (.int z75)) (own_gd hz75).1 (own_gd hz75).2 (g := (mkF m 43 #[.val (.ref x0), .val (.int (6 : Int32)), .val (.ref b2), .val (.int i3), .val (.int z71), .val (.int z73), sl6] [(.int z71), (.ref bS)])) rfl rfl (hb hby d11_43) t k) ?_
        refine own_step (st' := T74.setTop (mkF m 46 #[.val (.ref x0), .val (.int (6 : Int32)), .val (.ref b2), .val (.int i3), .val (.int z71), .val (.int z73), .val (.int z75)] [])) (fun t k => XS.istore X74.here hx rfl (hb hby d11_44) rfl (l' := #[.val (.ref x0), .val (.int (6 : Int32)), .val (.ref b2), .val (.int i3), .val (.int z71), .val (.int z73), .val (.int z75)]) (XS.store1 rfl hsl6 rfl) k) ?_
        exact J34 _ _ _ _ i3 z71 z73 z75 Ls0 Ls1 Ls2 Ls3 Ls4 Ls5 X74 e74 N22 Z22 f23 f24 f25 f26 f27 f28 f29 f30 f31 f32 f33 K22 rz75 (by omega)
  refine own_step (st' := T2.setTop (mkF m 11 #[.val (.ref x0), .val (.int (6 : Int32)), .val (.ref b2), .unset, .unset, .unset, .unset] [(.int (6 : Int32))])) (fun t k => XS.iloadN X2.here hx rfl (hb hby d11_10) rfl k) ?_
  refine own_step (st' := T2.setTop (mkF m 12 #[.val (.ref x0), .val (.int (6 : Int32)), .val (.ref b2), .unset, .unset, .unset, .unset] [(.int (1 : Int32)), (.int (6 : Int32))])) (fun t k => XS.iconst X2.here hx rfl (hb hby d11_11) k) ?_
  refine own_step (st' := T2.setTop (mkF m 13 #[.val (.ref x0), .val (.int (6 : Int32)), .val (.ref b2), .unset, .unset, .unset, .unset] [(.int (5 : Int32))])) (fun t k => XS.isub X2.here hx rfl (hb hby d11_12) rfl k) ?_
  refine own_step (st' := T2.setTop (mkF m 14 #[.val (.ref x0), .val (.int (6 : Int32)), .val (.ref b2), .val (.int (5 : Int32)), .unset, .unset, .unset] [])) (fun t k => XS.istoreN X2.here hx rfl (hb hby d11_13) rfl (l' := #[.val (.ref x0), .val (.int (6 : Int32)), .val (.ref b2), .val (.int (5 : Int32)), .unset, .unset, .unset]) rfl k) ?_
  exact J22 _ _ _ _ (5 : Int32) .unset .unset .unset P S C T F ([0, 0, 0, 0, 0, 0] : List Int32) X2 e2 N0 Z20 f9 f10 f11 f12 f13 f14 f15 f16 f17 f18 vp21 K19 p_10 (Or.inl rfl) (Or.inl rfl) (Or.inl rfl)
def m_ini_f (P : List Int32) : Nat → Nat → Int32 → List Int32 → Option (Int32 × List Int32 × List Int32 × List Int32 × List Int32)
  | 0, _, _, _ => none
  | f + 1, sel, i3, Ls0 => if sel = 0 then (if i3 < (6 : Int32) then ((own_get (6 : Int32) P i3).bind fun z47 => if z47 < (0 : Int32) then (m_ini_f P f 0 (i3 + (1 : Int32)) Ls0) else ((own_get (6 : Int32) P i3).bind fun z52 => (own_get (7 : Int32) Ls0 (z52 + (1 : Int32))).bind fun z53 => (own_put (7 : Int32) Ls0 (z52 + (1 : Int32)) (z53 + (1 : Int32))).bind fun L55 => m_ini_f P f 0 (i3 + (1 : Int32)) L55)) else ((own_get (7 : Int32) Ls0 (1 : Int32)).bind fun z68 => (own_get (7 : Int32) Ls0 (0 : Int32)).bind fun z70 => (own_put (7 : Int32) Ls0 (1 : Int32) (z68 + z70)).bind fun L72 => (own_get (7 : Int32) L72 (2 : Int32)).bind fun z84 => (own_get (7 : Int32) L72 (1 : Int32)).bind fun z86 => (own_put (7 : Int32) L72 (2 : Int32) (z84 + z86)).bind fun L88 => (own_get (7 : Int32) L88 (3 : Int32)).bind fun z100 => (own_get (7 : Int32) L88 (2 : Int32)).bind fun z102 => (own_put (7 : Int32) L88 (3 : Int32) (z100 + z102)).bind fun L104 => (own_get (7 : Int32) L104 (4 : Int32)).bind fun z116 => (own_get (7 : Int32) L104 (3 : Int32)).bind fun z118 => (own_put (7 : Int32) L104 (4 : Int32) (z116 + z118)).bind fun L120 => (own_get (7 : Int32) L120 (5 : Int32)).bind fun z132 => (own_get (7 : Int32) L120 (4 : Int32)).bind fun z134 => (own_put (7 : Int32) L120 (5 : Int32) (z132 + z134)).bind fun L136 => (own_get (7 : Int32) L136 (6 : Int32)).bind fun z148 => (own_get (7 : Int32) L136 (5 : Int32)).bind fun z150 => (own_put (7 : Int32) L136 (6 : Int32) (z148 + z150)).bind fun L152 => (own_get (7 : Int32) L152 (6 : Int32)).bind fun z164 => (own_nw z164).bind fun L166 => (m_fin z164 P L152 L166 ([0, 0, 0, 0, 0, 0] : List Int32) ([0, 0, 0, 0, 0, 0] : List Int32)).bind fun o256 => some (z164, L152, o256.1, o256.2.1, o256.2.2))) else (none)
theorem m_ini_z (P : List Int32) (sel : Nat) (i3 : Int32) (Ls0 : List Int32) : m_ini_f P 0 sel i3 Ls0 = none := rfl
theorem m_ini_23 (P : List Int32) (f : Nat) (i3 : Int32) (Ls0 : List Int32) : m_ini_f P (f + 1) 0 i3 Ls0 = (if i3 < (6 : Int32) then ((own_get (6 : Int32) P i3).bind fun z47 => if z47 < (0 : Int32) then (m_ini_f P f 0 (i3 + (1 : Int32)) Ls0) else ((own_get (6 : Int32) P i3).bind fun z52 => (own_get (7 : Int32) Ls0 (z52 + (1 : Int32))).bind fun z53 => (own_put (7 : Int32) Ls0 (z52 + (1 : Int32)) (z53 + (1 : Int32))).bind fun L55 => m_ini_f P f 0 (i3 + (1 : Int32)) L55)) else ((own_get (7 : Int32) Ls0 (1 : Int32)).bind fun z68 => (own_get (7 : Int32) Ls0 (0 : Int32)).bind fun z70 => (own_put (7 : Int32) Ls0 (1 : Int32) (z68 + z70)).bind fun L72 => (own_get (7 : Int32) L72 (2 : Int32)).bind fun z84 => (own_get (7 : Int32) L72 (1 : Int32)).bind fun z86 => (own_put (7 : Int32) L72 (2 : Int32) (z84 + z86)).bind fun L88 => (own_get (7 : Int32) L88 (3 : Int32)).bind fun z100 => (own_get (7 : Int32) L88 (2 : Int32)).bind fun z102 => (own_put (7 : Int32) L88 (3 : Int32) (z100 + z102)).bind fun L104 => (own_get (7 : Int32) L104 (4 : Int32)).bind fun z116 => (own_get (7 : Int32) L104 (3 : Int32)).bind fun z118 => (own_put (7 : Int32) L104 (4 : Int32) (z116 + z118)).bind fun L120 => (own_get (7 : Int32) L120 (5 : Int32)).bind fun z132 => (own_get (7 : Int32) L120 (4 : Int32)).bind fun z134 => (own_put (7 : Int32) L120 (5 : Int32) (z132 + z134)).bind fun L136 => (own_get (7 : Int32) L136 (6 : Int32)).bind fun z148 => (own_get (7 : Int32) L136 (5 : Int32)).bind fun z150 => (own_put (7 : Int32) L136 (6 : Int32) (z148 + z150)).bind fun L152 => (own_get (7 : Int32) L152 (6 : Int32)).bind fun z164 => (own_nw z164).bind fun L166 => (m_fin z164 P L152 L166 ([0, 0, 0, 0, 0, 0] : List Int32) ([0, 0, 0, 0, 0, 0] : List Int32)).bind fun o256 => some (z164, L152, o256.1, o256.2.1, o256.2.2))) := rfl
def m_ini (P : List Int32) : Option (Int32 × List Int32 × List Int32 × List Int32 × List Int32) := m_ini_f P 20 0 (0 : Int32) ([0, 0, 0, 0, 0, 0, 0] : List Int32)
theorem d6_0 : decode prog_35_method_1_code 0 = .ok (.aload_n 0, 1) := by decide +kernel
theorem d6_1 : decode prog_35_method_1_code 1 = .ok (.invokespecial 1, 3) := by decide +kernel
theorem d6_4 : decode prog_35_method_1_code 4 = .ok (.aload_n 1, 1) := by decide +kernel
theorem d6_5 : decode prog_35_method_1_code 5 = .ok (.arraylength, 1) := by decide +kernel
theorem d6_6 : decode prog_35_method_1_code 6 = .ok (.istore_n 2, 1) := by decide +kernel
theorem d6_7 : decode prog_35_method_1_code 7 = .ok (.aload_n 0, 1) := by decide +kernel
theorem d6_8 : decode prog_35_method_1_code 8 = .ok (.aload_n 1, 1) := by decide +kernel
theorem d6_9 : decode prog_35_method_1_code 9 = .ok (.putfield 7, 3) := by decide +kernel
theorem d6_12 : decode prog_35_method_1_code 12 = .ok (.aload_n 0, 1) := by decide +kernel
theorem d6_13 : decode prog_35_method_1_code 13 = .ok (.iload_n 2, 1) := by decide +kernel
theorem d6_14 : decode prog_35_method_1_code 14 = .ok (.iconst 1, 1) := by decide +kernel
theorem d6_15 : decode prog_35_method_1_code 15 = .ok (.iadd, 1) := by decide +kernel
theorem d6_16 : decode prog_35_method_1_code 16 = .ok (.newarray .int, 2) := by decide +kernel
theorem d6_18 : decode prog_35_method_1_code 18 = .ok (.putfield 13, 3) := by decide +kernel
theorem d6_21 : decode prog_35_method_1_code 21 = .ok (.iconst 0, 1) := by decide +kernel
theorem d6_22 : decode prog_35_method_1_code 22 = .ok (.istore_n 3, 1) := by decide +kernel
theorem d6_23 : decode prog_35_method_1_code 23 = .ok (.iload_n 3, 1) := by decide +kernel
theorem d6_24 : decode prog_35_method_1_code 24 = .ok (.iload_n 2, 1) := by decide +kernel
theorem d6_25 : decode prog_35_method_1_code 25 = .ok (.if_icmp .ge 29, 3) := by decide +kernel
theorem d6_28 : decode prog_35_method_1_code 28 = .ok (.aload_n 1, 1) := by decide +kernel
theorem d6_29 : decode prog_35_method_1_code 29 = .ok (.iload_n 3, 1) := by decide +kernel
theorem d6_30 : decode prog_35_method_1_code 30 = .ok (.iaload, 1) := by decide +kernel
theorem d6_31 : decode prog_35_method_1_code 31 = .ok (.ifCond .lt 17, 3) := by decide +kernel
theorem d6_34 : decode prog_35_method_1_code 34 = .ok (.aload_n 0, 1) := by decide +kernel
theorem d6_35 : decode prog_35_method_1_code 35 = .ok (.getfield 13, 3) := by decide +kernel
theorem d6_38 : decode prog_35_method_1_code 38 = .ok (.aload_n 1, 1) := by decide +kernel
theorem d6_39 : decode prog_35_method_1_code 39 = .ok (.iload_n 3, 1) := by decide +kernel
theorem d6_40 : decode prog_35_method_1_code 40 = .ok (.iaload, 1) := by decide +kernel
theorem d6_41 : decode prog_35_method_1_code 41 = .ok (.iconst 1, 1) := by decide +kernel
theorem d6_42 : decode prog_35_method_1_code 42 = .ok (.iadd, 1) := by decide +kernel
theorem d6_43 : decode prog_35_method_1_code 43 = .ok (.dup2, 1) := by decide +kernel
theorem d6_44 : decode prog_35_method_1_code 44 = .ok (.iaload, 1) := by decide +kernel
theorem d6_45 : decode prog_35_method_1_code 45 = .ok (.iconst 1, 1) := by decide +kernel
theorem d6_46 : decode prog_35_method_1_code 46 = .ok (.iadd, 1) := by decide +kernel
theorem d6_47 : decode prog_35_method_1_code 47 = .ok (.iastore, 1) := by decide +kernel
theorem d6_48 : decode prog_35_method_1_code 48 = .ok (.iinc 3 1, 3) := by decide +kernel
theorem d6_51 : decode prog_35_method_1_code 51 = .ok (.goto (-28), 3) := by decide +kernel
theorem d6_54 : decode prog_35_method_1_code 54 = .ok (.iconst 0, 1) := by decide +kernel
theorem d6_55 : decode prog_35_method_1_code 55 = .ok (.istore_n 3, 1) := by decide +kernel
theorem d6_56 : decode prog_35_method_1_code 56 = .ok (.iload_n 3, 1) := by decide +kernel
theorem d6_57 : decode prog_35_method_1_code 57 = .ok (.iload_n 2, 1) := by decide +kernel
theorem d6_58 : decode prog_35_method_1_code 58 = .ok (.if_icmp .ge 26, 3) := by decide +kernel
theorem d6_61 : decode prog_35_method_1_code 61 = .ok (.aload_n 0, 1) := by decide +kernel
theorem d6_62 : decode prog_35_method_1_code 62 = .ok (.getfield 13, 3) := by decide +kernel
theorem d6_65 : decode prog_35_method_1_code 65 = .ok (.iload_n 3, 1) := by decide +kernel
theorem d6_66 : decode prog_35_method_1_code 66 = .ok (.iconst 1, 1) := by decide +kernel
theorem d6_67 : decode prog_35_method_1_code 67 = .ok (.iadd, 1) := by decide +kernel
theorem d6_68 : decode prog_35_method_1_code 68 = .ok (.dup2, 1) := by decide +kernel
theorem d6_69 : decode prog_35_method_1_code 69 = .ok (.iaload, 1) := by decide +kernel
theorem d6_70 : decode prog_35_method_1_code 70 = .ok (.aload_n 0, 1) := by decide +kernel
theorem d6_71 : decode prog_35_method_1_code 71 = .ok (.getfield 13, 3) := by decide +kernel
theorem d6_74 : decode prog_35_method_1_code 74 = .ok (.iload_n 3, 1) := by decide +kernel
theorem d6_75 : decode prog_35_method_1_code 75 = .ok (.iaload, 1) := by decide +kernel
theorem d6_76 : decode prog_35_method_1_code 76 = .ok (.iadd, 1) := by decide +kernel
theorem d6_77 : decode prog_35_method_1_code 77 = .ok (.iastore, 1) := by decide +kernel
theorem d6_78 : decode prog_35_method_1_code 78 = .ok (.iinc 3 1, 3) := by decide +kernel
theorem d6_81 : decode prog_35_method_1_code 81 = .ok (.goto (-25), 3) := by decide +kernel
theorem d6_84 : decode prog_35_method_1_code 84 = .ok (.aload_n 0, 1) := by decide +kernel
theorem d6_85 : decode prog_35_method_1_code 85 = .ok (.aload_n 0, 1) := by decide +kernel
theorem d6_86 : decode prog_35_method_1_code 86 = .ok (.getfield 13, 3) := by decide +kernel
theorem d6_89 : decode prog_35_method_1_code 89 = .ok (.iload_n 2, 1) := by decide +kernel
theorem d6_90 : decode prog_35_method_1_code 90 = .ok (.iaload, 1) := by decide +kernel
theorem d6_91 : decode prog_35_method_1_code 91 = .ok (.newarray .int, 2) := by decide +kernel
theorem d6_93 : decode prog_35_method_1_code 93 = .ok (.putfield 16, 3) := by decide +kernel
theorem d6_96 : decode prog_35_method_1_code 96 = .ok (.aload_n 0, 1) := by decide +kernel
theorem d6_97 : decode prog_35_method_1_code 97 = .ok (.iload_n 2, 1) := by decide +kernel
theorem d6_98 : decode prog_35_method_1_code 98 = .ok (.newarray .int, 2) := by decide +kernel
theorem d6_100 : decode prog_35_method_1_code 100 = .ok (.putfield 19, 3) := by decide +kernel
theorem d6_103 : decode prog_35_method_1_code 103 = .ok (.aload_n 0, 1) := by decide +kernel
theorem d6_104 : decode prog_35_method_1_code 104 = .ok (.iload_n 2, 1) := by decide +kernel
theorem d6_105 : decode prog_35_method_1_code 105 = .ok (.newarray .int, 2) := by decide +kernel
theorem d6_107 : decode prog_35_method_1_code 107 = .ok (.putfield 22, 3) := by decide +kernel
theorem d6_110 : decode prog_35_method_1_code 110 = .ok (.aload_n 0, 1) := by decide +kernel
theorem d6_111 : decode prog_35_method_1_code 111 = .ok (.invokevirtual 25, 3) := by decide +kernel
theorem d6_114 : decode prog_35_method_1_code 114 = .ok (.return_, 1) := by decide +kernel
theorem ef_6_RR (m : MethodId) (x0 : Addr) (x1 : Addr) : entryFrame m #[(.ref x0), (.ref x1)] 4 = mkF m 0 #[.val (.ref x0), .val (.ref x1), .unset, .unset] [] := by first | (simp [entryFrame, mkF, argsToLocals, Value.category]; done) | rfl
def Q_rm6 (Z : State) (x0 : Addr) (x1 : Addr) (kP : ClassId) (P : List Int32) (S : List Int32) (C : List Int32) (T : List Int32) (F : List Int32) (nC : Int32) (h0 : Heap) (n0 : Nat) (v : Option Value) (h : Heap) (L : List Loc) : Prop := ∃ bS : Addr, ∃ bC : Addr, ∃ bT : Addr, ∃ bF : Addr, ∃ kS : ClassId, ∃ kC : ClassId, ∃ kT : ClassId, ∃ kF : ClassId, v = none ∧ Fr n0 L ∧ Keep h0 h [x0] ∧ h0.size ≤ bS ∧ h0.size ≤ bC ∧ h0.size ≤ bT ∧ h0.size ≤ bF ∧ Fld Z h x0 "com/example/rumorwire/rumorwire/TreeSolver" "parent" "[I" (.ref x1) ∧ Fld Z h x0 "com/example/rumorwire/rumorwire/TreeSolver" "childStart" "[I" (.ref bS) ∧ Fld Z h x0 "com/example/rumorwire/rumorwire/TreeSolver" "children" "[I" (.ref bC) ∧ Fld Z h x0 "com/example/rumorwire/rumorwire/TreeSolver" "time" "[I" (.ref bT) ∧ Fld Z h x0 "com/example/rumorwire/rumorwire/TreeSolver" "finished" "[I" (.ref bF) ∧ Arv Z h x1 kP .int (6 : Int32) (P.map Value.int) (.int (0 : Int32)) ∧ Arv Z h bS kS .int (7 : Int32) (S.map Value.int) (.int (0 : Int32)) ∧ Arv Z h bC kC .int nC (C.map Value.int) (.int (0 : Int32)) ∧ Arv Z h bT kT .int (6 : Int32) (T.map Value.int) (.int (0 : Int32)) ∧ Arv Z h bF kF .int (6 : Int32) (F.map Value.int) (.int (0 : Int32))
set_option maxRecDepth 65536 in
set_option maxHeartbeats 40000000 in
theorem rm6 (l : Launch) (Z : State) (a0 : Array Value) (hw : ∀ d ∈ tables_1, d.before a0 Z = true) (ws : List Jvm.Cond) (x0 : Addr) (x1 : Addr) (kP : ClassId) (P : List Int32) (S : List Int32) (C : List Int32) (T : List Int32) (F : List Int32) (nC : Int32) (h0 : Heap) (n0 : Nat) (Z0 : n0 ≤ h0.size) (p_0 : Fld Z h0 x0 "com/example/rumorwire/rumorwire/TreeSolver" "parent" "[I" .null) (p_1 : Fld Z h0 x0 "com/example/rumorwire/rumorwire/TreeSolver" "childStart" "[I" .null) (p_2 : Fld Z h0 x0 "com/example/rumorwire/rumorwire/TreeSolver" "children" "[I" .null) (p_3 : Fld Z h0 x0 "com/example/rumorwire/rumorwire/TreeSolver" "time" "[I" .null) (p_4 : Fld Z h0 x0 "com/example/rumorwire/rumorwire/TreeSolver" "finished" "[I" .null) (p_5 : Exa Z h0 x0 "com/example/rumorwire/rumorwire/TreeSolver") (p_6 : n0 ≤ x0) (p_7 : Arv Z h0 x1 kP .int (6 : Int32) (P.map Value.int) (.int (0 : Int32))) (p_8 : x1 ≠ x0) (p_9 : m_ini P = some (nC, S, C, T, F)) :
    MetFree l (⟨"com/example/rumorwire/rumorwire/TreeSolver", "<init>", "([I)V"⟩ : MethodName) (head1 (Jvm.Cond.code (⟨"com/example/rumorwire/rumorwire/TreeSolver", "<init>", "([I)V"⟩ : MethodName) prog_35_method_1_code 4 none :: ws) ({ frames := 3, cells := 7, slots := 43, locals := 51 } : Room)) (fun a U => a = #[(.ref x0), (.ref x1)] ∧ Z.Warmed39 U.vm ∧ U.heap = h0) (fun _ _ _ _ _ => True) (fun _ U o U' => ∃ v L, o = .returned v ∧ Q_rm6 Z x0 x1 kP P S C T F nC h0 n0 v U'.heap L ∧ FrameEnd U o U' L ({ frames := 3, cells := 7, slots := 43, locals := 51 } : Room).cells ({ frames := 3, cells := 7, slots := 43, locals := 51 } : Room).slots) := by
  refine MetFree.of_bodySF (plainFor_of_name pn_0) hisR ?_
  intro p e s m args below meth c s₁ Bd hml0 hP hK
  obtain ⟨rfl, hZ, hh⟩ := hP
  have hx := Bd.exec
  have hby := Bd.bytes
  have hml : c.maxLocals = 4 := hml0
  have hown : s.vm.findClass "com/example/rumorwire/rumorwire/TreeSolver" = some m.cls := findClass_of_methodNamed Bd.named
  have hnm := (name_of_methodNamed Bd.named Bd.method).1
  have X0 : Stand p l e ({ frames := 3, cells := 7, slots := 43, locals := 51 } : Room) s m #[(.ref x0), (.ref x1)] below meth c s₁ [] 0 0 := Stand.of_body Bd
  have e0 : s₁.heap = h0 := by rw [← hh, Bd.state]; rfl
  have N0 := Fr.nil n0
  show own_Ends p e below s ({ frames := 3, cells := 7, slots := 43, locals := 51 } : Room).cells ({ frames := 3, cells := 7, slots := 43, locals := 51 } : Room).slots (Q_rm6 Z x0 x1 kP P S C T F nC h0 n0) (s₁.setTop (entryFrame m #[(.ref x0), (.ref x1)] 4))
  rw [ef_6_RR]
  refine own_step (st' := s₁.setTop (mkF m 1 #[.val (.ref x0), .val (.ref x1), .unset, .unset] [(.ref x0)])) (fun t k => XS.aloadN X0.here hx rfl (hb hby d6_0) rfl rfl k) ?_
  obtain ⟨T1, X1, e1, st1⟩ := initO X0 hx hZ hown (hw _ (List.mem_of_getElem? (i := 25) rfl)) (hw _ (List.mem_of_getElem? (i := 26) rfl)) (hw _ (List.mem_of_getElem? (i := 27) rfl)) e0 (g := (mkF m 1 #[.val (.ref x0), .val (.ref x1), .unset, .unset] [(.ref x0)])) rfl (by rw [hml]; rfl) rfl (hb hby d6_1) (by decide) (W := 0) (by show 2 * 0 + _ ≤ _; exact Nat.le_of_eq rfl) (by decide)
  refine own_step (st' := T1.setTop (mkF m 4 #[.val (.ref x0), .val (.ref x1), .unset, .unset] [])) st1 ?_
  refine own_step (st' := T1.setTop (mkF m 5 #[.val (.ref x0), .val (.ref x1), .unset, .unset] [(.ref x1)])) (fun t k => XS.aloadN X1.here hx rfl (hb hby d6_4) rfl rfl k) ?_
  refine own_step (st' := T1.setTop (mkF m 6 #[.val (.ref x0), .val (.ref x1), .unset, .unset] [(.int (6 : Int32))])) (fun t k => own_len X1 hx hZ e1 p_7 (g := (mkF m 5 #[.val (.ref x0), .val (.ref x1), .unset, .unset] [(.ref x1)])) rfl rfl (hb hby d6_5) t k) ?_
  refine own_step (st' := T1.setTop (mkF m 7 #[.val (.ref x0), .val (.ref x1), .val (.int (6 : Int32)), .unset] [])) (fun t k => XS.istoreN X1.here hx rfl (hb hby d6_6) rfl (l' := #[.val (.ref x0), .val (.ref x1), .val (.int (6 : Int32)), .unset]) rfl k) ?_
  refine own_step (st' := T1.setTop (mkF m 8 #[.val (.ref x0), .val (.ref x1), .val (.int (6 : Int32)), .unset] [(.ref x0)])) (fun t k => XS.aloadN X1.here hx rfl (hb hby d6_7) rfl rfl k) ?_
  refine own_step (st' := T1.setTop (mkF m 9 #[.val (.ref x0), .val (.ref x1), .val (.int (6 : Int32)), .unset] [(.ref x1), (.ref x0)])) (fun t k => XS.aloadN X1.here hx rfl (hb hby d6_8) rfl rfl k) ?_
  obtain ⟨T2, h2, X2, e2, W2, st2⟩ := putF X1 hx hZ hown (host := "") (Or.inl (hw _ (List.mem_of_getElem? (i := 28) rfl))) Via.refl e1 p_0 p_5 (Or.inr ⟨(hw _ (List.mem_of_getElem? (i := 29) rfl)), rfl, hnm⟩) (hw _ (List.mem_of_getElem? (i := 20) rfl)) (ty := (.array .int)) (by decide) rfl rfl (g := (mkF m 9 #[.val (.ref x0), .val (.ref x1), .val (.int (6 : Int32)), .unset] [(.ref x1), (.ref x0)])) rfl rfl (hb hby d6_9)
  have F2 := p_0.same W2
  have f3 := p_1.other W2 (Or.inr (slot_ne (Or.inr (hw _ (List.mem_of_getElem? (i := 31) rfl))) (Or.inr (hw _ (List.mem_of_getElem? (i := 29) rfl))) (by decide) (t := (.array .int)) (t' := (.array .int)) (by decide) (by decide)))
  have f4 := p_2.other W2 (Or.inr (slot_ne (Or.inr (hw _ (List.mem_of_getElem? (i := 33) rfl))) (Or.inr (hw _ (List.mem_of_getElem? (i := 29) rfl))) (by decide) (t := (.array .int)) (t' := (.array .int)) (by decide) (by decide)))
  have f5 := p_3.other W2 (Or.inr (slot_ne (Or.inr (hw _ (List.mem_of_getElem? (i := 35) rfl))) (Or.inr (hw _ (List.mem_of_getElem? (i := 29) rfl))) (by decide) (t := (.array .int)) (t' := (.array .int)) (by decide) (by decide)))
  have f6 := p_4.other W2 (Or.inr (slot_ne (Or.inr (hw _ (List.mem_of_getElem? (i := 37) rfl))) (Or.inr (hw _ (List.mem_of_getElem? (i := 29) rfl))) (by decide) (t := (.array .int)) (t' := (.array .int)) (by decide) (by decide)))
  have f7 := p_5.wr W2
  have f8 := p_7.other W2 p_8
  have K9 : Keep h0 h2 [x0] := (Keep.refl h0 [x0]).wr W2 (Or.inl (List.mem_of_getElem? (i := 0) rfl))
  have Z10 : n0 ≤ h2.size := Nat.le_trans Z0 (Keep.of_wr W2).1
  have N11 := Fr.snoc X2 N0 p_6
  refine own_step (st' := T2.setTop (mkF m 12 #[.val (.ref x0), .val (.ref x1), .val (.int (6 : Int32)), .unset] [])) st2 ?_
  refine own_step (st' := T2.setTop (mkF m 13 #[.val (.ref x0), .val (.ref x1), .val (.int (6 : Int32)), .unset] [(.ref x0)])) (fun t k => XS.aloadN X2.here hx rfl (hb hby d6_12) rfl rfl k) ?_
  refine own_step (st' := T2.setTop (mkF m 14 #[.val (.ref x0), .val (.ref x1), .val (.int (6 : Int32)), .unset] [(.int (6 : Int32)), (.ref x0)])) (fun t k => XS.iloadN X2.here hx rfl (hb hby d6_13) rfl k) ?_
  refine own_step (st' := T2.setTop (mkF m 15 #[.val (.ref x0), .val (.ref x1), .val (.int (6 : Int32)), .unset] [(.int (1 : Int32)), (.int (6 : Int32)), (.ref x0)])) (fun t k => XS.iconst X2.here hx rfl (hb hby d6_14) k) ?_
  refine own_step (st' := T2.setTop (mkF m 16 #[.val (.ref x0), .val (.ref x1), .val (.int (6 : Int32)), .unset] [(.int (7 : Int32)), (.ref x0)])) (fun t k => XS.iadd X2.here hx rfl (hb hby d6_15) rfl k) ?_
  obtain ⟨T12, h12, k12, X12, e12, E12, A12, st12⟩ := newP X2 hx hZ (hw _ (List.mem_of_getElem? (i := 0) rfl)) e2 (g := (mkF m 16 #[.val (.ref x0), .val (.ref x1), .val (.int (6 : Int32)), .unset] [(.int (7 : Int32)), (.ref x0)])) rfl (hb hby d6_16) rfl (by decide) (cap := 7) (by decide) (by decide) (by decide) (by decide)
  obtain ⟨b12, g12⟩ : ∃ z, z = h2.size := ⟨_, rfl⟩
  rw [← g12] at A12 st12
  have ne13 : x0 ≠ b12 := Nat.ne_of_lt (Nat.lt_of_lt_of_le f3.lt (Nat.le_of_eq g12.symm))
  have ne14 : x1 ≠ b12 := Nat.ne_of_lt (Nat.lt_of_lt_of_le f8.lt (Nat.le_of_eq g12.symm))
  have g_b12 : n0 ≤ b12 := Nat.le_trans Z10 (Nat.le_of_eq g12.symm)
  have sz_b12 : h0.size ≤ b12 := Nat.le_trans K9.1 (Nat.le_of_eq g12.symm)
  have f15 := f3.ext E12
  have f16 := f4.ext E12
  have f17 := f5.ext E12
  have f18 := f6.ext E12
  have f19 := f7.ext E12
  have f20 := f8.ext E12
  have f21 := F2.ext E12
  have K22 : Keep h0 h12 [x0] := K9.ext E12
  have Z23 : n0 ≤ h12.size := Nat.le_trans Z10 E12.1
  have V12 : Arv Z h12 b12 k12 .int (7 : Int32) [(.int (0 : Int32)), (.int (0 : Int32)), (.int (0 : Int32)), (.int (0 : Int32)), (.int (0 : Int32)), (.int (0 : Int32)), (.int (0 : Int32))] (.int (0 : Int32)) := (Arv.new A12 (by decide)).pad (pad_rep [] (.int (0 : Int32)) 7)
  refine own_step (st' := T12.setTop (mkF m 18 #[.val (.ref x0), .val (.ref x1), .val (.int (6 : Int32)), .unset] [(.ref b12), (.ref x0)])) st12 ?_
  have vp24 : Arv Z h12 b12 k12 .int (7 : Int32) (([0, 0, 0, 0, 0, 0, 0] : List Int32).map Value.int) (.int (0 : Int32)) := V12
  obtain ⟨T25, h25, X25, e25, W25, st25⟩ := putF X12 hx hZ hown (host := "") (Or.inl (hw _ (List.mem_of_getElem? (i := 30) rfl))) Via.refl e12 f15 f19 (Or.inr ⟨(hw _ (List.mem_of_getElem? (i := 31) rfl)), rfl, hnm⟩) (hw _ (List.mem_of_getElem? (i := 20) rfl)) (ty := (.array .int)) (by decide) rfl rfl (g := (mkF m 18 #[.val (.ref x0), .val (.ref x1), .val (.int (6 : Int32)), .unset] [(.ref b12), (.ref x0)])) rfl rfl (hb hby d6_18)
  have F25 := f15.same W25
  have f26 := f16.other W25 (Or.inr (slot_ne (Or.inr (hw _ (List.mem_of_getElem? (i := 33) rfl))) (Or.inr (hw _ (List.mem_of_getElem? (i := 31) rfl))) (by decide) (t := (.array .int)) (t' := (.array .int)) (by decide) (by decide)))
  have f27 := f17.other W25 (Or.inr (slot_ne (Or.inr (hw _ (List.mem_of_getElem? (i := 35) rfl))) (Or.inr (hw _ (List.mem_of_getElem? (i := 31) rfl))) (by decide) (t := (.array .int)) (t' := (.array .int)) (by decide) (by decide)))
  have f28 := f18.other W25 (Or.inr (slot_ne (Or.inr (hw _ (List.mem_of_getElem? (i := 37) rfl))) (Or.inr (hw _ (List.mem_of_getElem? (i := 31) rfl))) (by decide) (t := (.array .int)) (t' := (.array .int)) (by decide) (by decide)))
  have f29 := f19.wr W25
  have f30 := f20.other W25 p_8
  have f31 := f21.other W25 (Or.inr (slot_ne (Or.inr (hw _ (List.mem_of_getElem? (i := 29) rfl))) (Or.inr (hw _ (List.mem_of_getElem? (i := 31) rfl))) (by decide) (t := (.array .int)) (t' := (.array .int)) (by decide) (by decide)))
  have f32 := vp24.other W25 (Ne.symm ne13)
  have K33 : Keep h0 h25 [x0] := K22.wr W25 (Or.inl (List.mem_of_getElem? (i := 0) rfl))
  have Z34 : n0 ≤ h25.size := Nat.le_trans Z23 (Keep.of_wr W25).1
  have N35 := Fr.snoc X25 N11 p_6
  refine own_step (st' := T25.setTop (mkF m 21 #[.val (.ref x0), .val (.ref x1), .val (.int (6 : Int32)), .unset] [])) st25 ?_
  have J36 : ∀ (k36 : Nat) (T36 : State) (h36 : Heap) (lc36 : List Loc) (i3 : Int32) (Ls0 : List Int32) (X36 : Stand p l e ({ frames := 3, cells := 7, slots := 43, locals := 51 } : Room) s m #[(.ref x0), (.ref x1)] below meth c T36 lc36 1 7) (e36 : T36.heap = h36) (N36 : Fr n0 lc36) (Z36 : n0 ≤ h36.size) (f37 : Fld Z h36 x0 "com/example/rumorwire/rumorwire/TreeSolver" "children" "[I" .null) (f38 : Fld Z h36 x0 "com/example/rumorwire/rumorwire/TreeSolver" "time" "[I" .null) (f39 : Fld Z h36 x0 "com/example/rumorwire/rumorwire/TreeSolver" "finished" "[I" .null) (f40 : Exa Z h36 x0 "com/example/rumorwire/rumorwire/TreeSolver") (f41 : Arv Z h36 x1 kP .int (6 : Int32) (P.map Value.int) (.int (0 : Int32))) (f42 : Fld Z h36 x0 "com/example/rumorwire/rumorwire/TreeSolver" "parent" "[I" (.ref x1)) (f43 : Arv Z h36 b12 k12 .int (7 : Int32) (Ls0.map Value.int) (.int (0 : Int32))) (f44 : Fld Z h36 x0 "com/example/rumorwire/rumorwire/TreeSolver" "childStart" "[I" (.ref b12)) (K36 : Keep h0 h36 [x0]) (hr : m_ini_f P k36 0 i3 Ls0 = some (nC, S, C, T, F)), own_Ends p e below s ({ frames := 3, cells := 7, slots := 43, locals := 51 } : Room).cells ({ frames := 3, cells := 7, slots := 43, locals := 51 } : Room).slots (Q_rm6 Z x0 x1 kP P S C T F nC h0 n0) (T36.setTop (mkF m 23 #[.val (.ref x0), .val (.ref x1), .val (.int (6 : Int32)), .val (.int i3)] [])) := by
    intro k36
    induction k36 using Nat.strongRecOn with
    | _ k36 ih36 =>
      intro T36 h36 lc36 i3 Ls0 X36 e36 N36 Z36 f37 f38 f39 f40 f41 f42 f43 f44 K36 hr
      obtain ⟨fu36, rfl⟩ : ∃ f, k36 = f + 1 := by
        cases k36 with
        | zero => rw [m_ini_z] at hr; cases hr
        | succ f => exact ⟨f, rfl⟩
      rw [m_ini_23] at hr
      refine own_step (st' := T36.setTop (mkF m 24 #[.val (.ref x0), .val (.ref x1), .val (.int (6 : Int32)), .val (.int i3)] [(.int i3)])) (fun t k => XS.iloadN X36.here hx rfl (hb hby d6_23) rfl k) ?_
      refine own_step (st' := T36.setTop (mkF m 25 #[.val (.ref x0), .val (.ref x1), .val (.int (6 : Int32)), .val (.int i3)] [(.int (6 : Int32)), (.int i3)])) (fun t k => XS.iloadN X36.here hx rfl (hb hby d6_24) rfl k) ?_
      by_cases hc45 : i3 < (6 : Int32)
      · have r46 := own_if1 hc45 hr
        clear hr
        refine own_step (st' := T36.setTop (mkF m 28 #[.val (.ref x0), .val (.ref x1), .val (.int (6 : Int32)), .val (.int i3)] [])) (fun t k => XS.icmpNo X36.here hx rfl (hb hby d6_25) rfl (tlt hc45).2.1 k) ?_
        refine own_step (st' := T36.setTop (mkF m 29 #[.val (.ref x0), .val (.ref x1), .val (.int (6 : Int32)), .val (.int i3)] [(.ref x1)])) (fun t k => XS.aloadN X36.here hx rfl (hb hby d6_28) rfl rfl k) ?_
        refine own_step (st' := T36.setTop (mkF m 30 #[.val (.ref x0), .val (.ref x1), .val (.int (6 : Int32)), .val (.int i3)] [(.int i3), (.ref x1)])) (fun t k => XS.iloadN X36.here hx rfl (hb hby d6_29) rfl k) ?_
        obtain ⟨z47, hz47, rz47⟩ := own_bind r46
        clear r46
        refine own_step (st' := T36.setTop (mkF m 31 #[.val (.ref x0), .val (.ref x1), .val (.int (6 : Int32)), .val (.int i3)] [(.int z47)])) (fun t k => own_ldI X36 hx hZ e36 f41 (j := i3) (v := (.int z47)) (own_gd hz47).1 (own_gd hz47).2 (g := (mkF m 30 #[.val (.ref x0), .val (.ref x1), .val (.int (6 : Int32)), .val (.int i3)] [(.int i3), (.ref x1)])) rfl rfl (hb hby d6_30) t k) ?_
        by_cases hc48 : z47 < (0 : Int32)
        · have r49 := own_if1 hc48 rz47
          clear rz47
          refine own_step (st' := T36.setTop (mkF m 48 #[.val (.ref x0), .val (.ref x1), .val (.int (6 : Int32)), .val (.int i3)] [])) (fun t k => XS.ifYes X36.here hx rfl (pc0 := 31) (pc' := 48) rfl (hb hby d6_31) rfl ((if0 _ _).trans (tlt hc48).1) (by decide) (by decide) k) ?_
          refine own_step (st' := T36.setTop (mkF m 51 #[.val (.ref x0), .val (.ref x1), .val (.int (6 : Int32)), .val (.int (i3 + (1 : Int32)))] [])) (fun t k => XS.iinc X36.here hx rfl (hb hby d6_48) rfl (l' := #[.val (.ref x0), .val (.ref x1), .val (.int (6 : Int32)), .val (.int (i3 + (1 : Int32)))]) rfl k) ?_
          refine own_step (st' := T36.setTop (mkF m 23 #[.val (.ref x0), .val (.ref x1), .val (.int (6 : Int32)), .val (.int (i3 + (1 : Int32)))] [])) (fun t k => XS.goto X36.here hx rfl (pc0 := 51) (pc' := 23) rfl (hb hby d6_51) (by decide) (by decide) k) ?_
          exact ih36 fu36 (by omega) _ _ _ (i3 + (1 : Int32)) Ls0 X36 e36 N36 Z36 f37 f38 f39 f40 f41 f42 f43 f44 K36 r49
        · have r50 := own_if0 hc48 rz47
          clear rz47
          refine own_step (st' := T36.setTop (mkF m 34 #[.val (.ref x0), .val (.ref x1), .val (.int (6 : Int32)), .val (.int i3)] [])) (fun t k => XS.ifNo X36.here hx rfl (hb hby d6_31) rfl ((if0 _ _).trans (flt hc48).1) k) ?_
          refine own_step (st' := T36.setTop (mkF m 35 #[.val (.ref x0), .val (.ref x1), .val (.int (6 : Int32)), .val (.int i3)] [(.ref x0)])) (fun t k => XS.aloadN X36.here hx rfl (hb hby d6_34) rfl rfl k) ?_
          obtain ⟨T51, X51, e51, st51⟩ := getF X36 hx hZ hown (host := "") (Or.inl (hw _ (List.mem_of_getElem? (i := 30) rfl))) Via.refl e36 f44 (g := (mkF m 35 #[.val (.ref x0), .val (.ref x1), .val (.int (6 : Int32)), .val (.int i3)] [(.ref x0)])) rfl rfl (hb hby d6_35)
          refine own_step (st' := T51.setTop (mkF m 38 #[.val (.ref x0), .val (.ref x1), .val (.int (6 : Int32)), .val (.int i3)] [(.ref b12)])) st51 ?_
          refine own_step (st' := T51.setTop (mkF m 39 #[.val (.ref x0), .val (.ref x1), .val (.int (6 : Int32)), .val (.int i3)] [(.ref x1), (.ref b12)])) (fun t k => XS.aloadN X51.here hx rfl (hb hby d6_38) rfl rfl k) ?_
          refine own_step (st' := T51.setTop (mkF m 40 #[.val (.ref x0), .val (.ref x1), .val (.int (6 : Int32)), .val (.int i3)] [(.int i3), (.ref x1), (.ref b12)])) (fun t k => XS.iloadN X51.here hx rfl (hb hby d6_39) rfl k) ?_
          obtain ⟨z52, hz52, rz52⟩ := own_bind r50
          clear r50
          refine own_step (st' := T51.setTop (mkF m 41 #[.val (.ref x0), .val (.ref x1), .val (.int (6 : Int32)), .val (.int i3)] [(.int z52), (.ref b12)])) (fun t k => own_ldI X51 hx hZ e51 f41 (j := i3) (v := (.int z52)) (own_gd hz52).1 (own_gd hz52).2 (g := (mkF m 40 #[.val (.ref x0), .val (.ref x1), .val (.int (6 : Int32)), .val (.int i3)] [(.int i3), (.ref x1), (.ref b12)])) rfl rfl (hb hby d6_40) t k) ?_
          refine own_step (st' := T51.setTop (mkF m 42 #[.val (.ref x0), .val (.ref x1), .val (.int (6 : Int32)), .val (.int i3)] [(.int (1 : Int32)), (.int z52), (.ref b12)])) (fun t k => XS.iconst X51.here hx rfl (hb hby d6_41) k) ?_
          refine own_step (st' := T51.setTop (mkF m 43 #[.val (.ref x0), .val (.ref x1), .val (.int (6 : Int32)), .val (.int i3)] [(.int (z52 + (1 : Int32))), (.ref b12)])) (fun t k => XS.iadd X51.here hx rfl (hb hby d6_42) rfl k) ?_
          refine own_step (st' := T51.setTop (mkF m 44 #[.val (.ref x0), .val (.ref x1), .val (.int (6 : Int32)), .val (.int i3)] [(.int (z52 + (1 : Int32))), (.ref b12), (.int (z52 + (1 : Int32))), (.ref b12)])) (fun t k => Jvm.Free.XT.dup2 X51.here hx rfl (hb hby d6_43) rfl rfl rfl k) ?_
          obtain ⟨z53, hz53, rz53⟩ := own_bind rz52
          clear rz52
          refine own_step (st' := T51.setTop (mkF m 45 #[.val (.ref x0), .val (.ref x1), .val (.int (6 : Int32)), .val (.int i3)] [(.int z53), (.int (z52 + (1 : Int32))), (.ref b12)])) (fun t k => own_ldI X51 hx hZ e51 f43 (j := (z52 + (1 : Int32))) (v := (.int z53)) (own_gd hz53).1 (own_gd hz53).2 (g := (mkF m 44 #[.val (.ref x0), .val (.ref x1), .val (.int (6 : Int32)), .val (.int i3)] [(.int (z52 + (1 : Int32))), (.ref b12), (.int (z52 + (1 : Int32))), (.ref b12)])) rfl rfl (hb hby d6_44) t k) ?_
          refine own_step (st' := T51.setTop (mkF m 46 #[.val (.ref x0), .val (.ref x1), .val (.int (6 : Int32)), .val (.int i3)] [(.int (1 : Int32)), (.int z53), (.int (z52 + (1 : Int32))), (.ref b12)])) (fun t k => XS.iconst X51.here hx rfl (hb hby d6_45) k) ?_
          refine own_step (st' := T51.setTop (mkF m 47 #[.val (.ref x0), .val (.ref x1), .val (.int (6 : Int32)), .val (.int i3)] [(.int (z53 + (1 : Int32))), (.int (z52 + (1 : Int32))), (.ref b12)])) (fun t k => XS.iadd X51.here hx rfl (hb hby d6_46) rfl k) ?_
          obtain ⟨L55, hL55, rL55⟩ := own_bind rz53
          clear rz53
          obtain ⟨T54, h54, X54, e54, W54, V54, st54⟩ := own_stI X51 hx hZ e51 f43 (j := (z52 + (1 : Int32))) (i := (z52 + (1 : Int32)).toNatClampNeg) (own_pt hL55).1 rfl (own_pt hL55).2.1 (g := (mkF m 47 #[.val (.ref x0), .val (.ref x1), .val (.int (6 : Int32)), .val (.int i3)] [(.int (z53 + (1 : Int32))), (.int (z52 + (1 : Int32))), (.ref b12)])) rfl rfl (hb hby d6_47)
          have V54 : Arv Z h54 b12 k12 .int (7 : Int32) ((Ls0.map Value.int).set (z52 + (1 : Int32)).toNatClampNeg (.int (z53 + (1 : Int32)))) (.int (0 : Int32)) := V54
          rw [(own_pt hL55).2.2] at V54
          have f56 := f37.other W54 (Or.inl ne13)
          have f57 := f38.other W54 (Or.inl ne13)
          have f58 := f39.other W54 (Or.inl ne13)
          have f59 := f40.wr W54
          have f60 := f41.other W54 ne14
          have f61 := f42.other W54 (Or.inl ne13)
          have f62 := f44.other W54 (Or.inl ne13)
          have K63 : Keep h0 h54 [x0] := K36.wr W54 (Or.inr sz_b12)
          have Z64 : n0 ≤ h54.size := Nat.le_trans Z36 (Keep.of_wr W54).1
          have N65 := Fr.snoc X54 N36 g_b12
          refine own_step (st' := T54.setTop (mkF m 48 #[.val (.ref x0), .val (.ref x1), .val (.int (6 : Int32)), .val (.int i3)] [])) st54 ?_
          refine own_step (st' := T54.setTop (mkF m 51 #[.val (.ref x0), .val (.ref x1), .val (.int (6 : Int32)), .val (.int (i3 + (1 : Int32)))] [])) (fun t k => XS.iinc X54.here hx rfl (hb hby d6_48) rfl (l' := #[.val (.ref x0), .val (.ref x1), .val (.int (6 : Int32)), .val (.int (i3 + (1 : Int32)))]) rfl k) ?_
          refine own_step (st' := T54.setTop (mkF m 23 #[.val (.ref x0), .val (.ref x1), .val (.int (6 : Int32)), .val (.int (i3 + (1 : Int32)))] [])) (fun t k => XS.goto X54.here hx rfl (pc0 := 51) (pc' := 23) rfl (hb hby d6_51) (by decide) (by decide) k) ?_
          exact ih36 fu36 (by omega) _ _ _ (i3 + (1 : Int32)) L55 X54 e54 N65 Z64 f56 f57 f58 f59 f60 f61 V54 f62 K63 rL55
      · have r66 := own_if0 hc45 hr
        clear hr
        refine own_step (st' := T36.setTop (mkF m 54 #[.val (.ref x0), .val (.ref x1), .val (.int (6 : Int32)), .val (.int i3)] [])) (fun t k => XS.icmpYes X36.here hx rfl (pc0 := 25) (pc' := 54) rfl (hb hby d6_25) rfl (flt hc45).2.1 (by decide) (by decide) k) ?_
        refine own_step (st' := T36.setTop (mkF m 55 #[.val (.ref x0), .val (.ref x1), .val (.int (6 : Int32)), .val (.int i3)] [(.int (0 : Int32))])) (fun t k => XS.iconst X36.here hx rfl (hb hby d6_54) k) ?_
        refine own_step (st' := T36.setTop (mkF m 56 #[.val (.ref x0), .val (.ref x1), .val (.int (6 : Int32)), .val (.int (0 : Int32))] [])) (fun t k => XS.istoreN X36.here hx rfl (hb hby d6_55) rfl (l' := #[.val (.ref x0), .val (.ref x1), .val (.int (6 : Int32)), .val (.int (0 : Int32))]) rfl k) ?_
        refine own_step (st' := T36.setTop (mkF m 57 #[.val (.ref x0), .val (.ref x1), .val (.int (6 : Int32)), .val (.int (0 : Int32))] [(.int (0 : Int32))])) (fun t k => XS.iloadN X36.here hx rfl (hb hby d6_56) rfl k) ?_
        refine own_step (st' := T36.setTop (mkF m 58 #[.val (.ref x0), .val (.ref x1), .val (.int (6 : Int32)), .val (.int (0 : Int32))] [(.int (6 : Int32)), (.int (0 : Int32))])) (fun t k => XS.iloadN X36.here hx rfl (hb hby d6_57) rfl k) ?_
        refine own_step (st' := T36.setTop (mkF m 61 #[.val (.ref x0), .val (.ref x1), .val (.int (6 : Int32)), .val (.int (0 : Int32))] [])) (fun t k => XS.icmpNo X36.here hx rfl (hb hby d6_58) rfl (tlt (by decide)).2.1 k) ?_
        refine own_step (st' := T36.setTop (mkF m 62 #[.val (.ref x0), .val (.ref x1), .val (.int (6 : Int32)), .val (.int (0 : Int32))] [(.ref x0)])) (fun t k => XS.aloadN X36.here hx rfl (hb hby d6_61) rfl rfl k) ?_
        obtain ⟨T67, X67, e67, st67⟩ := getF X36 hx hZ hown (host := "") (Or.inl (hw _ (List.mem_of_getElem? (i := 30) rfl))) Via.refl e36 f44 (g := (mkF m 62 #[.val (.ref x0), .val (.ref x1), .val (.int (6 : Int32)), .val (.int (0 : Int32))] [(.ref x0)])) rfl rfl (hb hby d6_62)
        refine own_step (st' := T67.setTop (mkF m 65 #[.val (.ref x0), .val (.ref x1), .val (.int (6 : Int32)), .val (.int (0 : Int32))] [(.ref b12)])) st67 ?_
        refine own_step (st' := T67.setTop (mkF m 66 #[.val (.ref x0), .val (.ref x1), .val (.int (6 : Int32)), .val (.int (0 : Int32))] [(.int (0 : Int32)), (.ref b12)])) (fun t k => XS.iloadN X67.here hx rfl (hb hby d6_65) rfl k) ?_
        refine own_step (st' := T67.setTop (mkF m 67 #[.val (.ref x0), .val (.ref x1), .val (.int (6 : Int32)), .val (.int (0 : Int32))] [(.int (1 : Int32)), (.int (0 : Int32)), (.ref b12)])) (fun t k => XS.iconst X67.here hx rfl (hb hby d6_66) k) ?_
        refine own_step (st' := T67.setTop (mkF m 68 #[.val (.ref x0), .val (.ref x1), .val (.int (6 : Int32)), .val (.int (0 : Int32))] [(.int (1 : Int32)), (.ref b12)])) (fun t k => XS.iadd X67.here hx rfl (hb hby d6_67) rfl k) ?_
        refine own_step (st' := T67.setTop (mkF m 69 #[.val (.ref x0), .val (.ref x1), .val (.int (6 : Int32)), .val (.int (0 : Int32))] [(.int (1 : Int32)), (.ref b12), (.int (1 : Int32)), (.ref b12)])) (fun t k => Jvm.Free.XT.dup2 X67.here hx rfl (hb hby d6_68) rfl rfl rfl k) ?_
        obtain ⟨z68, hz68, rz68⟩ := own_bind r66
        clear r66
        refine own_step (st' := T67.setTop (mkF m 70 #[.val (.ref x0), .val (.ref x1), .val (.int (6 : Int32)), .val (.int (0 : Int32))] [(.int z68), (.int (1 : Int32)), (.ref b12)])) (fun t k => own_ldI X67 hx hZ e67 f43 (j := (1 : Int32)) (v := (.int z68)) (own_gd hz68).1 (own_gd hz68).2 (g := (mkF m 69 #[.val (.ref x0), .val (.ref x1), .val (.int (6 : Int32)), .val (.int (0 : Int32))] [(.int (1 : Int32)), (.ref b12), (.int (1 : Int32)), (.ref b12)])) rfl rfl (hb hby d6_69) t k) ?_
        refine own_step (st' := T67.setTop (mkF m 71 #[.val (.ref x0), .val (.ref x1), .val (.int (6 : Int32)), .val (.int (0 : Int32))] [(.ref x0), (.int z68), (.int (1 : Int32)), (.ref b12)])) (fun t k => XS.aloadN X67.here hx rfl (hb hby d6_70) rfl rfl k) ?_
        obtain ⟨T69, X69, e69, st69⟩ := getF X67 hx hZ hown (host := "") (Or.inl (hw _ (List.mem_of_getElem? (i := 30) rfl))) Via.refl e67 f44 (g := (mkF m 71 #[.val (.ref x0), .val (.ref x1), .val (.int (6 : Int32)), .val (.int (0 : Int32))] [(.ref x0), (.int z68), (.int (1 : Int32)), (.ref b12)])) rfl rfl (hb hby d6_71)
        refine own_step (st' := T69.setTop (mkF m 74 #[.val (.ref x0), .val (.ref x1), .val (.int (6 : Int32)), .val (.int (0 : Int32))] [(.ref b12), (.int z68), (.int (1 : Int32)), (.ref b12)])) st69 ?_
        refine own_step (st' := T69.setTop (mkF m 75 #[.val (.ref x0), .val (.ref x1), .val (.int (6 : Int32)), .val (.int (0 : Int32))] [(.int (0 : Int32)), (.ref b12), (.int z68), (.int (1 : Int32)), (.ref b12)])) (fun t k => XS.iloadN X69.here hx rfl (hb hby d6_74) rfl k) ?_
        obtain ⟨z70, hz70, rz70⟩ := own_bind rz68
        clear rz68
        refine own_step (st' := T69.setTop (mkF m 76 #[.val (.ref x0), .val (.ref x1), .val (.int (6 : Int32)), .val (.int (0 : Int32))] [(.int z70), (.int z68), (.int (1 : Int32)), (.ref b12)])) (fun t k => own_ldI X69 hx hZ e69 f43 (j := (0 : Int32)) (v := (.int z70)) (own_gd hz70).1 (own_gd hz70).2 (g := (mkF m 75 #[.val (.ref x0), .val (.ref x1), .val (.int (6 : Int32)), .val (.int (0 : Int32))] [(.int (0 : Int32)), (.ref b12), (.int z68), (.int (1 : Int32)), (.ref b12)])) rfl rfl (hb hby d6_75) t k) ?_
        refine own_step (st' := T69.setTop (mkF m 77 #[.val (.ref x0), .val (.ref x1), .val (.int (6 : Int32)), .val (.int (0 : Int32))] [(.int (z68 + z70)), (.int (1 : Int32)), (.ref b12)])) (fun t k => XS.iadd X69.here hx rfl (hb hby d6_76) rfl k) ?_
        obtain ⟨L72, hL72, rL72⟩ := own_bind rz70
        clear rz70
        obtain ⟨T71, h71, X71, e71, W71, V71, st71⟩ := own_stI X69 hx hZ e69 f43 (j := (1 : Int32)) (i := (1 : Int32).toNatClampNeg) (own_pt hL72).1 rfl (own_pt hL72).2.1 (g := (mkF m 77 #[.val (.ref x0), .val (.ref x1), .val (.int (6 : Int32)), .val (.int (0 : Int32))] [(.int (z68 + z70)), (.int (1 : Int32)), (.ref b12)])) rfl rfl (hb hby d6_77)
        have V71 : Arv Z h71 b12 k12 .int (7 : Int32) ((Ls0.map Value.int).set (1 : Int32).toNatClampNeg (.int (z68 + z70))) (.int (0 : Int32)) := V71
        rw [(own_pt hL72).2.2] at V71
        have f73 := f37.other W71 (Or.inl ne13)
        have f74 := f38.other W71 (Or.inl ne13)
        have f75 := f39.other W71 (Or.inl ne13)
        have f76 := f40.wr W71
        have f77 := f41.other W71 ne14
        have f78 := f42.other W71 (Or.inl ne13)
        have f79 := f44.other W71 (Or.inl ne13)
        have K80 : Keep h0 h71 [x0] := K36.wr W71 (Or.inr sz_b12)
        have Z81 : n0 ≤ h71.size := Nat.le_trans Z36 (Keep.of_wr W71).1
        have N82 := Fr.snoc X71 N36 g_b12
        refine own_step (st' := T71.setTop (mkF m 78 #[.val (.ref x0), .val (.ref x1), .val (.int (6 : Int32)), .val (.int (0 : Int32))] [])) st71 ?_
        refine own_step (st' := T71.setTop (mkF m 81 #[.val (.ref x0), .val (.ref x1), .val (.int (6 : Int32)), .val (.int (1 : Int32))] [])) (fun t k => XS.iinc X71.here hx rfl (hb hby d6_78) rfl (l' := #[.val (.ref x0), .val (.ref x1), .val (.int (6 : Int32)), .val (.int (1 : Int32))]) rfl k) ?_
        refine own_step (st' := T71.setTop (mkF m 56 #[.val (.ref x0), .val (.ref x1), .val (.int (6 : Int32)), .val (.int (1 : Int32))] [])) (fun t k => XS.goto X71.here hx rfl (pc0 := 81) (pc' := 56) rfl (hb hby d6_81) (by decide) (by decide) k) ?_
        refine own_step (st' := T71.setTop (mkF m 57 #[.val (.ref x0), .val (.ref x1), .val (.int (6 : Int32)), .val (.int (1 : Int32))] [(.int (1 : Int32))])) (fun t k => XS.iloadN X71.here hx rfl (hb hby d6_56) rfl k) ?_
        refine own_step (st' := T71.setTop (mkF m 58 #[.val (.ref x0), .val (.ref x1), .val (.int (6 : Int32)), .val (.int (1 : Int32))] [(.int (6 : Int32)), (.int (1 : Int32))])) (fun t k => XS.iloadN X71.here hx rfl (hb hby d6_57) rfl k) ?_
        refine own_step (st' := T71.setTop (mkF m 61 #[.val (.ref x0), .val (.ref x1), .val (.int (6 : Int32)), .val (.int (1 : Int32))] [])) (fun t k => XS.icmpNo X71.here hx rfl (hb hby d6_58) rfl (tlt (by decide)).2.1 k) ?_
        refine own_step (st' := T71.setTop (mkF m 62 #[.val (.ref x0), .val (.ref x1), .val (.int (6 : Int32)), .val (.int (1 : Int32))] [(.ref x0)])) (fun t k => XS.aloadN X71.here hx rfl (hb hby d6_61) rfl rfl k) ?_
        obtain ⟨T83, X83, e83, st83⟩ := getF X71 hx hZ hown (host := "") (Or.inl (hw _ (List.mem_of_getElem? (i := 30) rfl))) Via.refl e71 f79 (g := (mkF m 62 #[.val (.ref x0), .val (.ref x1), .val (.int (6 : Int32)), .val (.int (1 : Int32))] [(.ref x0)])) rfl rfl (hb hby d6_62)
        refine own_step (st' := T83.setTop (mkF m 65 #[.val (.ref x0), .val (.ref x1), .val (.int (6 : Int32)), .val (.int (1 : Int32))] [(.ref b12)])) st83 ?_
        refine own_step (st' := T83.setTop (mkF m 66 #[.val (.ref x0), .val (.ref x1), .val (.int (6 : Int32)), .val (.int (1 : Int32))] [(.int (1 : Int32)), (.ref b12)])) (fun t k => XS.iloadN X83.here hx rfl (hb hby d6_65) rfl k) ?_
        refine own_step (st' := T83.setTop (mkF m 67 #[.val (.ref x0), .val (.ref x1), .val (.int (6 : Int32)), .val (.int (1 : Int32))] [(.int (1 : Int32)), (.int (1 : Int32)), (.ref b12)])) (fun t k => XS.iconst X83.here hx rfl (hb hby d6_66) k) ?_
        refine own_step (st' := T83.setTop (mkF m 68 #[.val (.ref x0), .val (.ref x1), .val (.int (6 : Int32)), .val (.int (1 : Int32))] [(.int (2 : Int32)), (.ref b12)])) (fun t k => XS.iadd X83.here hx rfl (hb hby d6_67) rfl k) ?_
        refine own_step (st' := T83.setTop (mkF m 69 #[.val (.ref x0), .val (.ref x1), .val (.int (6 : Int32)), .val (.int (1 : Int32))] [(.int (2 : Int32)), (.ref b12), (.int (2 : Int32)), (.ref b12)])) (fun t k => Jvm.Free.XT.dup2 X83.here hx rfl (hb hby d6_68) rfl rfl rfl k) ?_
        obtain ⟨z84, hz84, rz84⟩ := own_bind rL72
        clear rL72
        refine own_step (st' := T83.setTop (mkF m 70 #[.val (.ref x0), .val (.ref x1), .val (.int (6 : Int32)), .val (.int (1 : Int32))] [(.int z84), (.int (2 : Int32)), (.ref b12)])) (fun t k => own_ldI X83 hx hZ e83 V71 (j := (2 : Int32)) (v := (.int z84)) (own_gd hz84).1 (own_gd hz84).2 (g := (mkF m 69 #[.val (.ref x0), .val (.ref x1), .val (.int (6 : Int32)), .val (.int (1 : Int32))] [(.int (2 : Int32)), (.ref b12), (.int (2 : Int32)), (.ref b12)])) rfl rfl (hb hby d6_69) t k) ?_
        refine own_step (st' := T83.setTop (mkF m 71 #[.val (.ref x0), .val (.ref x1), .val (.int (6 : Int32)), .val (.int (1 : Int32))] [(.ref x0), (.int z84), (.int (2 : Int32)), (.ref b12)])) (fun t k => XS.aloadN X83.here hx rfl (hb hby d6_70) rfl rfl k) ?_
        obtain ⟨T85, X85, e85, st85⟩ := getF X83 hx hZ hown (host := "") (Or.inl (hw _ (List.mem_of_getElem? (i := 30) rfl))) Via.refl e83 f79 (g := (mkF m 71 #[.val (.ref x0), .val (.ref x1), .val (.int (6 : Int32)), .val (.int (1 : Int32))] [(.ref x0), (.int z84), (.int (2 : Int32)), (.ref b12)])) rfl rfl (hb hby d6_71)
        refine own_step (st' := T85.setTop (mkF m 74 #[.val (.ref x0), .val (.ref x1), .val (.int (6 : Int32)), .val (.int (1 : Int32))] [(.ref b12), (.int z84), (.int (2 : Int32)), (.ref b12)])) st85 ?_
        refine own_step (st' := T85.setTop (mkF m 75 #[.val (.ref x0), .val (.ref x1), .val (.int (6 : Int32)), .val (.int (1 : Int32))] [(.int (1 : Int32)), (.ref b12), (.int z84), (.int (2 : Int32)), (.ref b12)])) (fun t k => XS.iloadN X85.here hx rfl (hb hby d6_74) rfl k) ?_
        obtain ⟨z86, hz86, rz86⟩ := own_bind rz84
        clear rz84
        refine own_step (st' := T85.setTop (mkF m 76 #[.val (.ref x0), .val (.ref x1), .val (.int (6 : Int32)), .val (.int (1 : Int32))] [(.int z86), (.int z84), (.int (2 : Int32)), (.ref b12)])) (fun t k => own_ldI X85 hx hZ e85 V71 (j := (1 : Int32)) (v := (.int z86)) (own_gd hz86).1 (own_gd hz86).2 (g := (mkF m 75 #[.val (.ref x0), .val (.ref x1), .val (.int (6 : Int32)), .val (.int (1 : Int32))] [(.int (1 : Int32)), (.ref b12), (.int z84), (.int (2 : Int32)), (.ref b12)])) rfl rfl (hb hby d6_75) t k) ?_
        refine own_step (st' := T85.setTop (mkF m 77 #[.val (.ref x0), .val (.ref x1), .val (.int (6 : Int32)), .val (.int (1 : Int32))] [(.int (z84 + z86)), (.int (2 : Int32)), (.ref b12)])) (fun t k => XS.iadd X85.here hx rfl (hb hby d6_76) rfl k) ?_
        obtain ⟨L88, hL88, rL88⟩ := own_bind rz86
        clear rz86
        obtain ⟨T87, h87, X87, e87, W87, V87, st87⟩ := own_stI X85 hx hZ e85 V71 (j := (2 : Int32)) (i := (2 : Int32).toNatClampNeg) (own_pt hL88).1 rfl (own_pt hL88).2.1 (g := (mkF m 77 #[.val (.ref x0), .val (.ref x1), .val (.int (6 : Int32)), .val (.int (1 : Int32))] [(.int (z84 + z86)), (.int (2 : Int32)), (.ref b12)])) rfl rfl (hb hby d6_77)
        have V87 : Arv Z h87 b12 k12 .int (7 : Int32) ((L72.map Value.int).set (2 : Int32).toNatClampNeg (.int (z84 + z86))) (.int (0 : Int32)) := V87
        rw [(own_pt hL88).2.2] at V87
        have f89 := f73.other W87 (Or.inl ne13)
        have f90 := f74.other W87 (Or.inl ne13)
        have f91 := f75.other W87 (Or.inl ne13)
        have f92 := f76.wr W87
        have f93 := f77.other W87 ne14
        have f94 := f78.other W87 (Or.inl ne13)
        have f95 := f79.other W87 (Or.inl ne13)
        have K96 : Keep h0 h87 [x0] := K80.wr W87 (Or.inr sz_b12)
        have Z97 : n0 ≤ h87.size := Nat.le_trans Z81 (Keep.of_wr W87).1
        have N98 := Fr.snoc X87 N82 g_b12
        refine own_step (st' := T87.setTop (mkF m 78 #[.val (.ref x0), .val (.ref x1), .val (.int (6 : Int32)), .val (.int (1 : Int32))] [])) st87 ?_
        refine own_step (st' := T87.setTop (mkF m 81 #[.val (.ref x0), .val (.ref x1), .val (.int (6 : Int32)), .val (.int (2 : Int32))] [])) (fun t k => XS.iinc X87.here hx rfl (hb hby d6_78) rfl (l' := #[.val (.ref x0), .val (.ref x1), .val (.int (6 : Int32)), .val (.int (2 : Int32))]) rfl k) ?_
        refine own_step (st' := T87.setTop (mkF m 56 #[.val (.ref x0), .val (.ref x1), .val (.int (6 : Int32)), .val (.int (2 : Int32))] [])) (fun t k => XS.goto X87.here hx rfl (pc0 := 81) (pc' := 56) rfl (hb hby d6_81) (by decide) (by decide) k) ?_
        refine own_step (st' := T87.setTop (mkF m 57 #[.val (.ref x0), .val (.ref x1), .val (.int (6 : Int32)), .val (.int (2 : Int32))] [(.int (2 : Int32))])) (fun t k => XS.iloadN X87.here hx rfl (hb hby d6_56) rfl k) ?_
        refine own_step (st' := T87.setTop (mkF m 58 #[.val (.ref x0), .val (.ref x1), .val (.int (6 : Int32)), .val (.int (2 : Int32))] [(.int (6 : Int32)), (.int (2 : Int32))])) (fun t k => XS.iloadN X87.here hx rfl (hb hby d6_57) rfl k) ?_
        refine own_step (st' := T87.setTop (mkF m 61 #[.val (.ref x0), .val (.ref x1), .val (.int (6 : Int32)), .val (.int (2 : Int32))] [])) (fun t k => XS.icmpNo X87.here hx rfl (hb hby d6_58) rfl (tlt (by decide)).2.1 k) ?_
        refine own_step (st' := T87.setTop (mkF m 62 #[.val (.ref x0), .val (.ref x1), .val (.int (6 : Int32)), .val (.int (2 : Int32))] [(.ref x0)])) (fun t k => XS.aloadN X87.here hx rfl (hb hby d6_61) rfl rfl k) ?_
        obtain ⟨T99, X99, e99, st99⟩ := getF X87 hx hZ hown (host := "") (Or.inl (hw _ (List.mem_of_getElem? (i := 30) rfl))) Via.refl e87 f95 (g := (mkF m 62 #[.val (.ref x0), .val (.ref x1), .val (.int (6 : Int32)), .val (.int (2 : Int32))] [(.ref x0)])) rfl rfl (hb hby d6_62)
        refine own_step (st' := T99.setTop (mkF m 65 #[.val (.ref x0), .val (.ref x1), .val (.int (6 : Int32)), .val (.int (2 : Int32))] [(.ref b12)])) st99 ?_
        refine own_step (st' := T99.setTop (mkF m 66 #[.val (.ref x0), .val (.ref x1), .val (.int (6 : Int32)), .val (.int (2 : Int32))] [(.int (2 : Int32)), (.ref b12)])) (fun t k => XS.iloadN X99.here hx rfl (hb hby d6_65) rfl k) ?_
        refine own_step (st' := T99.setTop (mkF m 67 #[.val (.ref x0), .val (.ref x1), .val (.int (6 : Int32)), .val (.int (2 : Int32))] [(.int (1 : Int32)), (.int (2 : Int32)), (.ref b12)])) (fun t k => XS.iconst X99.here hx rfl (hb hby d6_66) k) ?_
        refine own_step (st' := T99.setTop (mkF m 68 #[.val (.ref x0), .val (.ref x1), .val (.int (6 : Int32)), .val (.int (2 : Int32))] [(.int (3 : Int32)), (.ref b12)])) (fun t k => XS.iadd X99.here hx rfl (hb hby d6_67) rfl k) ?_
        refine own_step (st' := T99.setTop (mkF m 69 #[.val (.ref x0), .val (.ref x1), .val (.int (6 : Int32)), .val (.int (2 : Int32))] [(.int (3 : Int32)), (.ref b12), (.int (3 : Int32)), (.ref b12)])) (fun t k => Jvm.Free.XT.dup2 X99.here hx rfl (hb hby d6_68) rfl rfl rfl k) ?_
        obtain ⟨z100, hz100, rz100⟩ := own_bind rL88
        clear rL88
        refine own_step (st' := T99.setTop (mkF m 70 #[.val (.ref x0), .val (.ref x1), .val (.int (6 : Int32)), .val (.int (2 : Int32))] [(.int z100), (.int (3 : Int32)), (.ref b12)])) (fun t k => own_ldI X99 hx hZ e99 V87 (j := (3 : Int32)) (v := (.int z100)) (own_gd hz100).1 (own_gd hz100).2 (g := (mkF m 69 #[.val (.ref x0), .val (.ref x1), .val (.int (6 : Int32)), .val (.int (2 : Int32))] [(.int (3 : Int32)), (.ref b12), (.int (3 : Int32)), (.ref b12)])) rfl rfl (hb hby d6_69) t k) ?_
        refine own_step (st' := T99.setTop (mkF m 71 #[.val (.ref x0), .val (.ref x1), .val (.int (6 : Int32)), .val (.int (2 : Int32))] [(.ref x0), (.int z100), (.int (3 : Int32)), (.ref b12)])) (fun t k => XS.aloadN X99.here hx rfl (hb hby d6_70) rfl rfl k) ?_
        obtain ⟨T101, X101, e101, st101⟩ := getF X99 hx hZ hown (host := "") (Or.inl (hw _ (List.mem_of_getElem? (i := 30) rfl))) Via.refl e99 f95 (g := (mkF m 71 #[.val (.ref x0), .val (.ref x1), .val (.int (6 : Int32)), .val (.int (2 : Int32))] [(.ref x0), (.int z100), (.int (3 : Int32)), (.ref b12)])) rfl rfl (hb hby d6_71)
        refine own_step (st' := T101.setTop (mkF m 74 #[.val (.ref x0), .val (.ref x1), .val (.int (6 : Int32)), .val (.int (2 : Int32))] [(.ref b12), (.int z100), (.int (3 : Int32)), (.ref b12)])) st101 ?_
        refine own_step (st' := T101.setTop (mkF m 75 #[.val (.ref x0), .val (.ref x1), .val (.int (6 : Int32)), .val (.int (2 : Int32))] [(.int (2 : Int32)), (.ref b12), (.int z100), (.int (3 : Int32)), (.ref b12)])) (fun t k => XS.iloadN X101.here hx rfl (hb hby d6_74) rfl k) ?_
        obtain ⟨z102, hz102, rz102⟩ := own_bind rz100
        clear rz100
        refine own_step (st' := T101.setTop (mkF m 76 #[.val (.ref x0), .val (.ref x1), .val (.int (6 : Int32)), .val (.int (2 : Int32))] [(.int z102), (.int z100), (.int (3 : Int32)), (.ref b12)])) (fun t k => own_ldI X101 hx hZ e101 V87 (j := (2 : Int32)) (v := (.int z102)) (own_gd hz102).1 (own_gd hz102).2 (g := (mkF m 75 #[.val (.ref x0), .val (.ref x1), .val (.int (6 : Int32)), .val (.int (2 : Int32))] [(.int (2 : Int32)), (.ref b12), (.int z100), (.int (3 : Int32)), (.ref b12)])) rfl rfl (hb hby d6_75) t k) ?_
        refine own_step (st' := T101.setTop (mkF m 77 #[.val (.ref x0), .val (.ref x1), .val (.int (6 : Int32)), .val (.int (2 : Int32))] [(.int (z100 + z102)), (.int (3 : Int32)), (.ref b12)])) (fun t k => XS.iadd X101.here hx rfl (hb hby d6_76) rfl k) ?_
        obtain ⟨L104, hL104, rL104⟩ := own_bind rz102
        clear rz102
        obtain ⟨T103, h103, X103, e103, W103, V103, st103⟩ := own_stI X101 hx hZ e101 V87 (j := (3 : Int32)) (i := (3 : Int32).toNatClampNeg) (own_pt hL104).1 rfl (own_pt hL104).2.1 (g := (mkF m 77 #[.val (.ref x0), .val (.ref x1), .val (.int (6 : Int32)), .val (.int (2 : Int32))] [(.int (z100 + z102)), (.int (3 : Int32)), (.ref b12)])) rfl rfl (hb hby d6_77)
        have V103 : Arv Z h103 b12 k12 .int (7 : Int32) ((L88.map Value.int).set (3 : Int32).toNatClampNeg (.int (z100 + z102))) (.int (0 : Int32)) := V103
        rw [(own_pt hL104).2.2] at V103
        have f105 := f89.other W103 (Or.inl ne13)
        have f106 := f90.other W103 (Or.inl ne13)
        have f107 := f91.other W103 (Or.inl ne13)
        have f108 := f92.wr W103
        have f109 := f93.other W103 ne14
        have f110 := f94.other W103 (Or.inl ne13)
        have f111 := f95.other W103 (Or.inl ne13)
        have K112 : Keep h0 h103 [x0] := K96.wr W103 (Or.inr sz_b12)
        have Z113 : n0 ≤ h103.size := Nat.le_trans Z97 (Keep.of_wr W103).1
        have N114 := Fr.snoc X103 N98 g_b12
        refine own_step (st' := T103.setTop (mkF m 78 #[.val (.ref x0), .val (.ref x1), .val (.int (6 : Int32)), .val (.int (2 : Int32))] [])) st103 ?_
        refine own_step (st' := T103.setTop (mkF m 81 #[.val (.ref x0), .val (.ref x1), .val (.int (6 : Int32)), .val (.int (3 : Int32))] [])) (fun t k => XS.iinc X103.here hx rfl (hb hby d6_78) rfl (l' := #[.val (.ref x0), .val (.ref x1), .val (.int (6 : Int32)), .val (.int (3 : Int32))]) rfl k) ?_
        refine own_step (st' := T103.setTop (mkF m 56 #[.val (.ref x0), .val (.ref x1), .val (.int (6 : Int32)), .val (.int (3 : Int32))] [])) (fun t k => XS.goto X103.here hx rfl (pc0 := 81) (pc' := 56) rfl (hb hby d6_81) (by decide) (by decide) k) ?_
        refine own_step (st' := T103.setTop (mkF m 57 #[.val (.ref x0), .val (.ref x1), .val (.int (6 : Int32)), .val (.int (3 : Int32))] [(.int (3 : Int32))])) (fun t k => XS.iloadN X103.here hx rfl (hb hby d6_56) rfl k) ?_
        refine own_step (st' := T103.setTop (mkF m 58 #[.val (.ref x0), .val (.ref x1), .val (.int (6 : Int32)), .val (.int (3 : Int32))] [(.int (6 : Int32)), (.int (3 : Int32))])) (fun t k => XS.iloadN X103.here hx rfl (hb hby d6_57) rfl k) ?_
        refine own_step (st' := T103.setTop (mkF m 61 #[.val (.ref x0), .val (.ref x1), .val (.int (6 : Int32)), .val (.int (3 : Int32))] [])) (fun t k => XS.icmpNo X103.here hx rfl (hb hby d6_58) rfl (tlt (by decide)).2.1 k) ?_
        refine own_step (st' := T103.setTop (mkF m 62 #[.val (.ref x0), .val (.ref x1), .val (.int (6 : Int32)), .val (.int (3 : Int32))] [(.ref x0)])) (fun t k => XS.aloadN X103.here hx rfl (hb hby d6_61) rfl rfl k) ?_
        obtain ⟨T115, X115, e115, st115⟩ := getF X103 hx hZ hown (host := "") (Or.inl (hw _ (List.mem_of_getElem? (i := 30) rfl))) Via.refl e103 f111 (g := (mkF m 62 #[.val (.ref x0), .val (.ref x1), .val (.int (6 : Int32)), .val (.int (3 : Int32))] [(.ref x0)])) rfl rfl (hb hby d6_62)
        refine own_step (st' := T115.setTop (mkF m 65 #[.val (.ref x0), .val (.ref x1), .val (.int (6 : Int32)), .val (.int (3 : Int32))] [(.ref b12)])) st115 ?_
        refine own_step (st' := T115.setTop (mkF m 66 #[.val (.ref x0), .val (.ref x1), .val (.int (6 : Int32)), .val (.int (3 : Int32))] [(.int (3 : Int32)), (.ref b12)])) (fun t k => XS.iloadN X115.here hx rfl (hb hby d6_65) rfl k) ?_
        refine own_step (st' := T115.setTop (mkF m 67 #[.val (.ref x0), .val (.ref x1), .val (.int (6 : Int32)), .val (.int (3 : Int32))] [(.int (1 : Int32)), (.int (3 : Int32)), (.ref b12)])) (fun t k => XS.iconst X115.here hx rfl (hb hby d6_66) k) ?_
        refine own_step (st' := T115.setTop (mkF m 68 #[.val (.ref x0), .val (.ref x1), .val (.int (6 : Int32)), .val (.int (3 : Int32))] [(.int (4 : Int32)), (.ref b12)])) (fun t k => XS.iadd X115.here hx rfl (hb hby d6_67) rfl k) ?_
        refine own_step (st' := T115.setTop (mkF m 69 #[.val (.ref x0), .val (.ref x1), .val (.int (6 : Int32)), .val (.int (3 : Int32))] [(.int (4 : Int32)), (.ref b12), (.int (4 : Int32)), (.ref b12)])) (fun t k => Jvm.Free.XT.dup2 X115.here hx rfl (hb hby d6_68) rfl rfl rfl k) ?_
        obtain ⟨z116, hz116, rz116⟩ := own_bind rL104
        clear rL104
        refine own_step (st' := T115.setTop (mkF m 70 #[.val (.ref x0), .val (.ref x1), .val (.int (6 : Int32)), .val (.int (3 : Int32))] [(.int z116), (.int (4 : Int32)), (.ref b12)])) (fun t k => own_ldI X115 hx hZ e115 V103 (j := (4 : Int32)) (v := (.int z116)) (own_gd hz116).1 (own_gd hz116).2 (g := (mkF m 69 #[.val (.ref x0), .val (.ref x1), .val (.int (6 : Int32)), .val (.int (3 : Int32))] [(.int (4 : Int32)), (.ref b12), (.int (4 : Int32)), (.ref b12)])) rfl rfl (hb hby d6_69) t k) ?_
        refine own_step (st' := T115.setTop (mkF m 71 #[.val (.ref x0), .val (.ref x1), .val (.int (6 : Int32)), .val (.int (3 : Int32))] [(.ref x0), (.int z116), (.int (4 : Int32)), (.ref b12)])) (fun t k => XS.aloadN X115.here hx rfl (hb hby d6_70) rfl rfl k) ?_
        obtain ⟨T117, X117, e117, st117⟩ := getF X115 hx hZ hown (host := "") (Or.inl (hw _ (List.mem_of_getElem? (i := 30) rfl))) Via.refl e115 f111 (g := (mkF m 71 #[.val (.ref x0), .val (.ref x1), .val (.int (6 : Int32)), .val (.int (3 : Int32))] [(.ref x0), (.int z116), (.int (4 : Int32)), (.ref b12)])) rfl rfl (hb hby d6_71)
        refine own_step (st' := T117.setTop (mkF m 74 #[.val (.ref x0), .val (.ref x1), .val (.int (6 : Int32)), .val (.int (3 : Int32))] [(.ref b12), (.int z116), (.int (4 : Int32)), (.ref b12)])) st117 ?_
        refine own_step (st' := T117.setTop (mkF m 75 #[.val (.ref x0), .val (.ref x1), .val (.int (6 : Int32)), .val (.int (3 : Int32))] [(.int (3 : Int32)), (.ref b12), (.int z116), (.int (4 : Int32)), (.ref b12)])) (fun t k => XS.iloadN X117.here hx rfl (hb hby d6_74) rfl k) ?_
        obtain ⟨z118, hz118, rz118⟩ := own_bind rz116
        clear rz116
        refine own_step (st' := T117.setTop (mkF m 76 #[.val (.ref x0), .val (.ref x1), .val (.int (6 : Int32)), .val (.int (3 : Int32))] [(.int z118), (.int z116), (.int (4 : Int32)), (.ref b12)])) (fun t k => own_ldI X117 hx hZ e117 V103 (j := (3 : Int32)) (v := (.int z118)) (own_gd hz118).1 (own_gd hz118).2 (g := (mkF m 75 #[.val (.ref x0), .val (.ref x1), .val (.int (6 : Int32)), .val (.int (3 : Int32))] [(.int (3 : Int32)), (.ref b12), (.int z116), (.int (4 : Int32)), (.ref b12)])) rfl rfl (hb hby d6_75) t k) ?_
        refine own_step (st' := T117.setTop (mkF m 77 #[.val (.ref x0), .val (.ref x1), .val (.int (6 : Int32)), .val (.int (3 : Int32))] [(.int (z116 + z118)), (.int (4 : Int32)), (.ref b12)])) (fun t k => XS.iadd X117.here hx rfl (hb hby d6_76) rfl k) ?_
        obtain ⟨L120, hL120, rL120⟩ := own_bind rz118
        clear rz118
        obtain ⟨T119, h119, X119, e119, W119, V119, st119⟩ := own_stI X117 hx hZ e117 V103 (j := (4 : Int32)) (i := (4 : Int32).toNatClampNeg) (own_pt hL120).1 rfl (own_pt hL120).2.1 (g := (mkF m 77 #[.val (.ref x0), .val (.ref x1), .val (.int (6 : Int32)), .val (.int (3 : Int32))] [(.int (z116 + z118)), (.int (4 : Int32)), (.ref b12)])) rfl rfl (hb hby d6_77)
        have V119 : Arv Z h119 b12 k12 .int (7 : Int32) ((L104.map Value.int).set (4 : Int32).toNatClampNeg (.int (z116 + z118))) (.int (0 : Int32)) := V119
        rw [(own_pt hL120).2.2] at V119
        have f121 := f105.other W119 (Or.inl ne13)
        have f122 := f106.other W119 (Or.inl ne13)
        have f123 := f107.other W119 (Or.inl ne13)
        have f124 := f108.wr W119
        have f125 := f109.other W119 ne14
        have f126 := f110.other W119 (Or.inl ne13)
        have f127 := f111.other W119 (Or.inl ne13)
        have K128 : Keep h0 h119 [x0] := K112.wr W119 (Or.inr sz_b12)
        have Z129 : n0 ≤ h119.size := Nat.le_trans Z113 (Keep.of_wr W119).1
        have N130 := Fr.snoc X119 N114 g_b12
        refine own_step (st' := T119.setTop (mkF m 78 #[.val (.ref x0), .val (.ref x1), .val (.int (6 : Int32)), .val (.int (3 : Int32))] [])) st119 ?_
        refine own_step (st' := T119.setTop (mkF m 81 #[.val (.ref x0), .val (.ref x1), .val (.int (6 : Int32)), .val (.int (4 : Int32))] [])) (fun t k => XS.iinc X119.here hx rfl (hb hby d6_78) rfl (l' := #[.val (.ref x0), .val (.ref x1), .val (.int (6 : Int32)), .val (.int (4 : Int32))]) rfl k) ?_
        refine own_step (st' := T119.setTop (mkF m 56 #[.val (.ref x0), .val (.ref x1), .val (.int (6 : Int32)), .val (.int (4 : Int32))] [])) (fun t k => XS.goto X119.here hx rfl (pc0 := 81) (pc' := 56) rfl (hb hby d6_81) (by decide) (by decide) k) ?_
        refine own_step (st' := T119.setTop (mkF m 57 #[.val (.ref x0), .val (.ref x1), .val (.int (6 : Int32)), .val (.int (4 : Int32))] [(.int (4 : Int32))])) (fun t k => XS.iloadN X119.here hx rfl (hb hby d6_56) rfl k) ?_
        refine own_step (st' := T119.setTop (mkF m 58 #[.val (.ref x0), .val (.ref x1), .val (.int (6 : Int32)), .val (.int (4 : Int32))] [(.int (6 : Int32)), (.int (4 : Int32))])) (fun t k => XS.iloadN X119.here hx rfl (hb hby d6_57) rfl k) ?_
        refine own_step (st' := T119.setTop (mkF m 61 #[.val (.ref x0), .val (.ref x1), .val (.int (6 : Int32)), .val (.int (4 : Int32))] [])) (fun t k => XS.icmpNo X119.here hx rfl (hb hby d6_58) rfl (tlt (by decide)).2.1 k) ?_
        refine own_step (st' := T119.setTop (mkF m 62 #[.val (.ref x0), .val (.ref x1), .val (.int (6 : Int32)), .val (.int (4 : Int32))] [(.ref x0)])) (fun t k => XS.aloadN X119.here hx rfl (hb hby d6_61) rfl rfl k) ?_
        obtain ⟨T131, X131, e131, st131⟩ := getF X119 hx hZ hown (host := "") (Or.inl (hw _ (List.mem_of_getElem? (i := 30) rfl))) Via.refl e119 f127 (g := (mkF m 62 #[.val (.ref x0), .val (.ref x1), .val (.int (6 : Int32)), .val (.int (4 : Int32))] [(.ref x0)])) rfl rfl (hb hby d6_62)
        refine own_step (st' := T131.setTop (mkF m 65 #[.val (.ref x0), .val (.ref x1), .val (.int (6 : Int32)), .val (.int (4 : Int32))] [(.ref b12)])) st131 ?_
        refine own_step (st' := T131.setTop (mkF m 66 #[.val (.ref x0), .val (.ref x1), .val (.int (6 : Int32)), .val (.int (4 : Int32))] [(.int (4 : Int32)), (.ref b12)])) (fun t k => XS.iloadN X131.here hx rfl (hb hby d6_65) rfl k) ?_
        refine own_step (st' := T131.setTop (mkF m 67 #[.val (.ref x0), .val (.ref x1), .val (.int (6 : Int32)), .val (.int (4 : Int32))] [(.int (1 : Int32)), (.int (4 : Int32)), (.ref b12)])) (fun t k => XS.iconst X131.here hx rfl (hb hby d6_66) k) ?_
        refine own_step (st' := T131.setTop (mkF m 68 #[.val (.ref x0), .val (.ref x1), .val (.int (6 : Int32)), .val (.int (4 : Int32))] [(.int (5 : Int32)), (.ref b12)])) (fun t k => XS.iadd X131.here hx rfl (hb hby d6_67) rfl k) ?_
        refine own_step (st' := T131.setTop (mkF m 69 #[.val (.ref x0), .val (.ref x1), .val (.int (6 : Int32)), .val (.int (4 : Int32))] [(.int (5 : Int32)), (.ref b12), (.int (5 : Int32)), (.ref b12)])) (fun t k => Jvm.Free.XT.dup2 X131.here hx rfl (hb hby d6_68) rfl rfl rfl k) ?_
        obtain ⟨z132, hz132, rz132⟩ := own_bind rL120
        clear rL120
        refine own_step (st' := T131.setTop (mkF m 70 #[.val (.ref x0), .val (.ref x1), .val (.int (6 : Int32)), .val (.int (4 : Int32))] [(.int z132), (.int (5 : Int32)), (.ref b12)])) (fun t k => own_ldI X131 hx hZ e131 V119 (j := (5 : Int32)) (v := (.int z132)) (own_gd hz132).1 (own_gd hz132).2 (g := (mkF m 69 #[.val (.ref x0), .val (.ref x1), .val (.int (6 : Int32)), .val (.int (4 : Int32))] [(.int (5 : Int32)), (.ref b12), (.int (5 : Int32)), (.ref b12)])) rfl rfl (hb hby d6_69) t k) ?_
        refine own_step (st' := T131.setTop (mkF m 71 #[.val (.ref x0), .val (.ref x1), .val (.int (6 : Int32)), .val (.int (4 : Int32))] [(.ref x0), (.int z132), (.int (5 : Int32)), (.ref b12)])) (fun t k => XS.aloadN X131.here hx rfl (hb hby d6_70) rfl rfl k) ?_
        obtain ⟨T133, X133, e133, st133⟩ := getF X131 hx hZ hown (host := "") (Or.inl (hw _ (List.mem_of_getElem? (i := 30) rfl))) Via.refl e131 f127 (g := (mkF m 71 #[.val (.ref x0), .val (.ref x1), .val (.int (6 : Int32)), .val (.int (4 : Int32))] [(.ref x0), (.int z132), (.int (5 : Int32)), (.ref b12)])) rfl rfl (hb hby d6_71)
        refine own_step (st' := T133.setTop (mkF m 74 #[.val (.ref x0), .val (.ref x1), .val (.int (6 : Int32)), .val (.int (4 : Int32))] [(.ref b12), (.int z132), (.int (5 : Int32)), (.ref b12)])) st133 ?_
        refine own_step (st' := T133.setTop (mkF m 75 #[.val (.ref x0), .val (.ref x1), .val (.int (6 : Int32)), .val (.int (4 : Int32))] [(.int (4 : Int32)), (.ref b12), (.int z132), (.int (5 : Int32)), (.ref b12)])) (fun t k => XS.iloadN X133.here hx rfl (hb hby d6_74) rfl k) ?_
        obtain ⟨z134, hz134, rz134⟩ := own_bind rz132
        clear rz132
        refine own_step (st' := T133.setTop (mkF m 76 #[.val (.ref x0), .val (.ref x1), .val (.int (6 : Int32)), .val (.int (4 : Int32))] [(.int z134), (.int z132), (.int (5 : Int32)), (.ref b12)])) (fun t k => own_ldI X133 hx hZ e133 V119 (j := (4 : Int32)) (v := (.int z134)) (own_gd hz134).1 (own_gd hz134).2 (g := (mkF m 75 #[.val (.ref x0), .val (.ref x1), .val (.int (6 : Int32)), .val (.int (4 : Int32))] [(.int (4 : Int32)), (.ref b12), (.int z132), (.int (5 : Int32)), (.ref b12)])) rfl rfl (hb hby d6_75) t k) ?_
        refine own_step (st' := T133.setTop (mkF m 77 #[.val (.ref x0), .val (.ref x1), .val (.int (6 : Int32)), .val (.int (4 : Int32))] [(.int (z132 + z134)), (.int (5 : Int32)), (.ref b12)])) (fun t k => XS.iadd X133.here hx rfl (hb hby d6_76) rfl k) ?_
        obtain ⟨L136, hL136, rL136⟩ := own_bind rz134
        clear rz134
        obtain ⟨T135, h135, X135, e135, W135, V135, st135⟩ := own_stI X133 hx hZ e133 V119 (j := (5 : Int32)) (i := (5 : Int32).toNatClampNeg) (own_pt hL136).1 rfl (own_pt hL136).2.1 (g := (mkF m 77 #[.val (.ref x0), .val (.ref x1), .val (.int (6 : Int32)), .val (.int (4 : Int32))] [(.int (z132 + z134)), (.int (5 : Int32)), (.ref b12)])) rfl rfl (hb hby d6_77)
        have V135 : Arv Z h135 b12 k12 .int (7 : Int32) ((L120.map Value.int).set (5 : Int32).toNatClampNeg (.int (z132 + z134))) (.int (0 : Int32)) := V135
        rw [(own_pt hL136).2.2] at V135
        have f137 := f121.other W135 (Or.inl ne13)
        have f138 := f122.other W135 (Or.inl ne13)
        have f139 := f123.other W135 (Or.inl ne13)
        have f140 := f124.wr W135
        have f141 := f125.other W135 ne14
        have f142 := f126.other W135 (Or.inl ne13)
        have f143 := f127.other W135 (Or.inl ne13)
        have K144 : Keep h0 h135 [x0] := K128.wr W135 (Or.inr sz_b12)
        have Z145 : n0 ≤ h135.size := Nat.le_trans Z129 (Keep.of_wr W135).1
        have N146 := Fr.snoc X135 N130 g_b12
        refine own_step (st' := T135.setTop (mkF m 78 #[.val (.ref x0), .val (.ref x1), .val (.int (6 : Int32)), .val (.int (4 : Int32))] [])) st135 ?_
        refine own_step (st' := T135.setTop (mkF m 81 #[.val (.ref x0), .val (.ref x1), .val (.int (6 : Int32)), .val (.int (5 : Int32))] [])) (fun t k => XS.iinc X135.here hx rfl (hb hby d6_78) rfl (l' := #[.val (.ref x0), .val (.ref x1), .val (.int (6 : Int32)), .val (.int (5 : Int32))]) rfl k) ?_
        refine own_step (st' := T135.setTop (mkF m 56 #[.val (.ref x0), .val (.ref x1), .val (.int (6 : Int32)), .val (.int (5 : Int32))] [])) (fun t k => XS.goto X135.here hx rfl (pc0 := 81) (pc' := 56) rfl (hb hby d6_81) (by decide) (by decide) k) ?_
        refine own_step (st' := T135.setTop (mkF m 57 #[.val (.ref x0), .val (.ref x1), .val (.int (6 : Int32)), .val (.int (5 : Int32))] [(.int (5 : Int32))])) (fun t k => XS.iloadN X135.here hx rfl (hb hby d6_56) rfl k) ?_
        refine own_step (st' := T135.setTop (mkF m 58 #[.val (.ref x0), .val (.ref x1), .val (.int (6 : Int32)), .val (.int (5 : Int32))] [(.int (6 : Int32)), (.int (5 : Int32))])) (fun t k => XS.iloadN X135.here hx rfl (hb hby d6_57) rfl k) ?_
        refine own_step (st' := T135.setTop (mkF m 61 #[.val (.ref x0), .val (.ref x1), .val (.int (6 : Int32)), .val (.int (5 : Int32))] [])) (fun t k => XS.icmpNo X135.here hx rfl (hb hby d6_58) rfl (tlt (by decide)).2.1 k) ?_
        refine own_step (st' := T135.setTop (mkF m 62 #[.val (.ref x0), .val (.ref x1), .val (.int (6 : Int32)), .val (.int (5 : Int32))] [(.ref x0)])) (fun t k => XS.aloadN X135.here hx rfl (hb hby d6_61) rfl rfl k) ?_
        obtain ⟨T147, X147, e147, st147⟩ := getF X135 hx hZ hown (host := "") (Or.inl (hw _ (List.mem_of_getElem? (i := 30) rfl))) Via.refl e135 f143 (g := (mkF m 62 #[.val (.ref x0), .val (.ref x1), .val (.int (6 : Int32)), .val (.int (5 : Int32))] [(.ref x0)])) rfl rfl (hb hby d6_62)
        refine own_step (st' := T147.setTop (mkF m 65 #[.val (.ref x0), .val (.ref x1), .val (.int (6 : Int32)), .val (.int (5 : Int32))] [(.ref b12)])) st147 ?_
        refine own_step (st' := T147.setTop (mkF m 66 #[.val (.ref x0), .val (.ref x1), .val (.int (6 : Int32)), .val (.int (5 : Int32))] [(.int (5 : Int32)), (.ref b12)])) (fun t k => XS.iloadN X147.here hx rfl (hb hby d6_65) rfl k) ?_
        refine own_step (st' := T147.setTop (mkF m 67 #[.val (.ref x0), .val (.ref x1), .val (.int (6 : Int32)), .val (.int (5 : Int32))] [(.int (1 : Int32)), (.int (5 : Int32)), (.ref b12)])) (fun t k => XS.iconst X147.here hx rfl (hb hby d6_66) k) ?_
        refine own_step (st' := T147.setTop (mkF m 68 #[.val (.ref x0), .val (.ref x1), .val (.int (6 : Int32)), .val (.int (5 : Int32))] [(.int (6 : Int32)), (.ref b12)])) (fun t k => XS.iadd X147.here hx rfl (hb hby d6_67) rfl k) ?_
        refine own_step (st' := T147.setTop (mkF m 69 #[.val (.ref x0), .val (.ref x1), .val (.int (6 : Int32)), .val (.int (5 : Int32))] [(.int (6 : Int32)), (.ref b12), (.int (6 : Int32)), (.ref b12)])) (fun t k => Jvm.Free.XT.dup2 X147.here hx rfl (hb hby d6_68) rfl rfl rfl k) ?_
        obtain ⟨z148, hz148, rz148⟩ := own_bind rL136
        clear rL136
        refine own_step (st' := T147.setTop (mkF m 70 #[.val (.ref x0), .val (.ref x1), .val (.int (6 : Int32)), .val (.int (5 : Int32))] [(.int z148), (.int (6 : Int32)), (.ref b12)])) (fun t k => own_ldI X147 hx hZ e147 V135 (j := (6 : Int32)) (v := (.int z148)) (own_gd hz148).1 (own_gd hz148).2 (g := (mkF m 69 #[.val (.ref x0), .val (.ref x1), .val (.int (6 : Int32)), .val (.int (5 : Int32))] [(.int (6 : Int32)), (.ref b12), (.int (6 : Int32)), (.ref b12)])) rfl rfl (hb hby d6_69) t k) ?_
        refine own_step (st' := T147.setTop (mkF m 71 #[.val (.ref x0), .val (.ref x1), .val (.int (6 : Int32)), .val (.int (5 : Int32))] [(.ref x0), (.int z148), (.int (6 : Int32)), (.ref b12)])) (fun t k => XS.aloadN X147.here hx rfl (hb hby d6_70) rfl rfl k) ?_
        obtain ⟨T149, X149, e149, st149⟩ := getF X147 hx hZ hown (host := "") (Or.inl (hw _ (List.mem_of_getElem? (i := 30) rfl))) Via.refl e147 f143 (g := (mkF m 71 #[.val (.ref x0), .val (.ref x1), .val (.int (6 : Int32)), .val (.int (5 : Int32))] [(.ref x0), (.int z148), (.int (6 : Int32)), (.ref b12)])) rfl rfl (hb hby d6_71)
        refine own_step (st' := T149.setTop (mkF m 74 #[.val (.ref x0), .val (.ref x1), .val (.int (6 : Int32)), .val (.int (5 : Int32))] [(.ref b12), (.int z148), (.int (6 : Int32)), (.ref b12)])) st149 ?_
        refine own_step (st' := T149.setTop (mkF m 75 #[.val (.ref x0), .val (.ref x1), .val (.int (6 : Int32)), .val (.int (5 : Int32))] [(.int (5 : Int32)), (.ref b12), (.int z148), (.int (6 : Int32)), (.ref b12)])) (fun t k => XS.iloadN X149.here hx rfl (hb hby d6_74) rfl k) ?_
        obtain ⟨z150, hz150, rz150⟩ := own_bind rz148
        clear rz148
        refine own_step (st' := T149.setTop (mkF m 76 #[.val (.ref x0), .val (.ref x1), .val (.int (6 : Int32)), .val (.int (5 : Int32))] [(.int z150), (.int z148), (.int (6 : Int32)), (.ref b12)])) (fun t k => own_ldI X149 hx hZ e149 V135 (j := (5 : Int32)) (v := (.int z150)) (own_gd hz150).1 (own_gd hz150).2 (g := (mkF m 75 #[.val (.ref x0), .val (.ref x1), .val (.int (6 : Int32)), .val (.int (5 : Int32))] [(.int (5 : Int32)), (.ref b12), (.int z148), (.int (6 : Int32)), (.ref b12)])) rfl rfl (hb hby d6_75) t k) ?_
        refine own_step (st' := T149.setTop (mkF m 77 #[.val (.ref x0), .val (.ref x1), .val (.int (6 : Int32)), .val (.int (5 : Int32))] [(.int (z148 + z150)), (.int (6 : Int32)), (.ref b12)])) (fun t k => XS.iadd X149.here hx rfl (hb hby d6_76) rfl k) ?_
        obtain ⟨L152, hL152, rL152⟩ := own_bind rz150
        clear rz150
        obtain ⟨T151, h151, X151, e151, W151, V151, st151⟩ := own_stI X149 hx hZ e149 V135 (j := (6 : Int32)) (i := (6 : Int32).toNatClampNeg) (own_pt hL152).1 rfl (own_pt hL152).2.1 (g := (mkF m 77 #[.val (.ref x0), .val (.ref x1), .val (.int (6 : Int32)), .val (.int (5 : Int32))] [(.int (z148 + z150)), (.int (6 : Int32)), (.ref b12)])) rfl rfl (hb hby d6_77)
        have V151 : Arv Z h151 b12 k12 .int (7 : Int32) ((L136.map Value.int).set (6 : Int32).toNatClampNeg (.int (z148 + z150))) (.int (0 : Int32)) := V151
        rw [(own_pt hL152).2.2] at V151
        have f153 := f137.other W151 (Or.inl ne13)
        have f154 := f138.other W151 (Or.inl ne13)
        have f155 := f139.other W151 (Or.inl ne13)
        have f156 := f140.wr W151
        have f157 := f141.other W151 ne14
        have f158 := f142.other W151 (Or.inl ne13)
        have f159 := f143.other W151 (Or.inl ne13)
        have K160 : Keep h0 h151 [x0] := K144.wr W151 (Or.inr sz_b12)
        have Z161 : n0 ≤ h151.size := Nat.le_trans Z145 (Keep.of_wr W151).1
        have N162 := Fr.snoc X151 N146 g_b12
        refine own_step (st' := T151.setTop (mkF m 78 #[.val (.ref x0), .val (.ref x1), .val (.int (6 : Int32)), .val (.int (5 : Int32))] [])) st151 ?_
        refine own_step (st' := T151.setTop (mkF m 81 #[.val (.ref x0), .val (.ref x1), .val (.int (6 : Int32)), .val (.int (6 : Int32))] [])) (fun t k => XS.iinc X151.here hx rfl (hb hby d6_78) rfl (l' := #[.val (.ref x0), .val (.ref x1), .val (.int (6 : Int32)), .val (.int (6 : Int32))]) rfl k) ?_
        refine own_step (st' := T151.setTop (mkF m 56 #[.val (.ref x0), .val (.ref x1), .val (.int (6 : Int32)), .val (.int (6 : Int32))] [])) (fun t k => XS.goto X151.here hx rfl (pc0 := 81) (pc' := 56) rfl (hb hby d6_81) (by decide) (by decide) k) ?_
        refine own_step (st' := T151.setTop (mkF m 57 #[.val (.ref x0), .val (.ref x1), .val (.int (6 : Int32)), .val (.int (6 : Int32))] [(.int (6 : Int32))])) (fun t k => XS.iloadN X151.here hx rfl (hb hby d6_56) rfl k) ?_
        refine own_step (st' := T151.setTop (mkF m 58 #[.val (.ref x0), .val (.ref x1), .val (.int (6 : Int32)), .val (.int (6 : Int32))] [(.int (6 : Int32)), (.int (6 : Int32))])) (fun t k => XS.iloadN X151.here hx rfl (hb hby d6_57) rfl k) ?_
        refine own_step (st' := T151.setTop (mkF m 84 #[.val (.ref x0), .val (.ref x1), .val (.int (6 : Int32)), .val (.int (6 : Int32))] [])) (fun t k => XS.icmpYes X151.here hx rfl (pc0 := 58) (pc' := 84) rfl (hb hby d6_58) rfl (flt (by decide)).2.1 (by decide) (by decide) k) ?_
        refine own_step (st' := T151.setTop (mkF m 85 #[.val (.ref x0), .val (.ref x1), .val (.int (6 : Int32)), .val (.int (6 : Int32))] [(.ref x0)])) (fun t k => XS.aloadN X151.here hx rfl (hb hby d6_84) rfl rfl k) ?_
        refine own_step (st' := T151.setTop (mkF m 86 #[.val (.ref x0), .val (.ref x1), .val (.int (6 : Int32)), .val (.int (6 : Int32))] [(.ref x0), (.ref x0)])) (fun t k => XS.aloadN X151.here hx rfl (hb hby d6_85) rfl rfl k) ?_
        obtain ⟨T163, X163, e163, st163⟩ := getF X151 hx hZ hown (host := "") (Or.inl (hw _ (List.mem_of_getElem? (i := 30) rfl))) Via.refl e151 f159 (g := (mkF m 86 #[.val (.ref x0), .val (.ref x1), .val (.int (6 : Int32)), .val (.int (6 : Int32))] [(.ref x0), (.ref x0)])) rfl rfl (hb hby d6_86)
        refine own_step (st' := T163.setTop (mkF m 89 #[.val (.ref x0), .val (.ref x1), .val (.int (6 : Int32)), .val (.int (6 : Int32))] [(.ref b12), (.ref x0)])) st163 ?_
        refine own_step (st' := T163.setTop (mkF m 90 #[.val (.ref x0), .val (.ref x1), .val (.int (6 : Int32)), .val (.int (6 : Int32))] [(.int (6 : Int32)), (.ref b12), (.ref x0)])) (fun t k => XS.iloadN X163.here hx rfl (hb hby d6_89) rfl k) ?_
        obtain ⟨z164, hz164, rz164⟩ := own_bind rL152
        clear rL152
        refine own_step (st' := T163.setTop (mkF m 91 #[.val (.ref x0), .val (.ref x1), .val (.int (6 : Int32)), .val (.int (6 : Int32))] [(.int z164), (.ref x0)])) (fun t k => own_ldI X163 hx hZ e163 V151 (j := (6 : Int32)) (v := (.int z164)) (own_gd hz164).1 (own_gd hz164).2 (g := (mkF m 90 #[.val (.ref x0), .val (.ref x1), .val (.int (6 : Int32)), .val (.int (6 : Int32))] [(.int (6 : Int32)), (.ref b12), (.ref x0)])) rfl rfl (hb hby d6_90) t k) ?_
        obtain ⟨L166, hL166, rL166⟩ := own_bind rz164
        clear rz164
        obtain ⟨T165, h165, k165, X165, e165, E165, A165, st165⟩ := newP X163 hx hZ (hw _ (List.mem_of_getElem? (i := 0) rfl)) e163 (g := (mkF m 91 #[.val (.ref x0), .val (.ref x1), .val (.int (6 : Int32)), .val (.int (6 : Int32))] [(.int z164), (.ref x0)])) rfl (hb hby d6_91) rfl (own_nwd hL166).1 (cap := 6) (own_nwd hL166).2.1 (by decide) (by decide) (by decide)
        obtain ⟨b165, g165⟩ : ∃ z, z = h151.size := ⟨_, rfl⟩
        rw [← g165] at A165 st165
        have ne167 : x0 ≠ b165 := Nat.ne_of_lt (Nat.lt_of_lt_of_le f153.lt (Nat.le_of_eq g165.symm))
        have ne168 : x1 ≠ b165 := Nat.ne_of_lt (Nat.lt_of_lt_of_le f157.lt (Nat.le_of_eq g165.symm))
        have ne169 : b12 ≠ b165 := Nat.ne_of_lt (Nat.lt_of_lt_of_le V151.lt (Nat.le_of_eq g165.symm))
        have g_b165 : n0 ≤ b165 := Nat.le_trans Z161 (Nat.le_of_eq g165.symm)
        have sz_b165 : h0.size ≤ b165 := Nat.le_trans K160.1 (Nat.le_of_eq g165.symm)
        have f170 := f153.ext E165
        have f171 := f154.ext E165
        have f172 := f155.ext E165
        have f173 := f156.ext E165
        have f174 := f157.ext E165
        have f175 := f158.ext E165
        have f176 := f159.ext E165
        have f177 := V151.ext E165
        have K178 : Keep h0 h165 [x0] := K160.ext E165
        have Z179 : n0 ≤ h165.size := Nat.le_trans Z161 E165.1
        have V165 : Arv Z h165 b165 k165 .int z164 [] (.int (0 : Int32)) := Arv.new A165 (own_nwd hL166).1
        refine own_step (st' := T165.setTop (mkF m 93 #[.val (.ref x0), .val (.ref x1), .val (.int (6 : Int32)), .val (.int (6 : Int32))] [(.ref b165), (.ref x0)])) st165 ?_
        have vp180 : Arv Z h165 b165 k165 .int z164 (L166.map Value.int) (.int (0 : Int32)) := by rw [(own_nwd hL166).2.2]; exact V165.pad own_pad6
        obtain ⟨T181, h181, X181, e181, W181, st181⟩ := putF X165 hx hZ hown (host := "") (Or.inl (hw _ (List.mem_of_getElem? (i := 32) rfl))) Via.refl e165 f170 f173 (Or.inr ⟨(hw _ (List.mem_of_getElem? (i := 33) rfl)), rfl, hnm⟩) (hw _ (List.mem_of_getElem? (i := 20) rfl)) (ty := (.array .int)) (by decide) rfl rfl (g := (mkF m 93 #[.val (.ref x0), .val (.ref x1), .val (.int (6 : Int32)), .val (.int (6 : Int32))] [(.ref b165), (.ref x0)])) rfl rfl (hb hby d6_93)
        have F181 := f170.same W181
        have f182 := f171.other W181 (Or.inr (slot_ne (Or.inr (hw _ (List.mem_of_getElem? (i := 35) rfl))) (Or.inr (hw _ (List.mem_of_getElem? (i := 33) rfl))) (by decide) (t := (.array .int)) (t' := (.array .int)) (by decide) (by decide)))
        have f183 := f172.other W181 (Or.inr (slot_ne (Or.inr (hw _ (List.mem_of_getElem? (i := 37) rfl))) (Or.inr (hw _ (List.mem_of_getElem? (i := 33) rfl))) (by decide) (t := (.array .int)) (t' := (.array .int)) (by decide) (by decide)))
        have f184 := f173.wr W181
        have f185 := f174.other W181 p_8
        have f186 := f175.other W181 (Or.inr (slot_ne (Or.inr (hw _ (List.mem_of_getElem? (i := 29) rfl))) (Or.inr (hw _ (List.mem_of_getElem? (i := 33) rfl))) (by decide) (t := (.array .int)) (t' := (.array .int)) (by decide) (by decide)))
        have f187 := f176.other W181 (Or.inr (slot_ne (Or.inr (hw _ (List.mem_of_getElem? (i := 31) rfl))) (Or.inr (hw _ (List.mem_of_getElem? (i := 33) rfl))) (by decide) (t := (.array .int)) (t' := (.array .int)) (by decide) (by decide)))
        have f188 := f177.other W181 (Ne.symm ne13)
        have f189 := vp180.other W181 (Ne.symm ne167)
        have K190 : Keep h0 h181 [x0] := K178.wr W181 (Or.inl (List.mem_of_getElem? (i := 0) rfl))
        have Z191 : n0 ≤ h181.size := Nat.le_trans Z179 (Keep.of_wr W181).1
        have N192 := Fr.snoc X181 N162 p_6
        refine own_step (st' := T181.setTop (mkF m 96 #[.val (.ref x0), .val (.ref x1), .val (.int (6 : Int32)), .val (.int (6 : Int32))] [])) st181 ?_
        refine own_step (st' := T181.setTop (mkF m 97 #[.val (.ref x0), .val (.ref x1), .val (.int (6 : Int32)), .val (.int (6 : Int32))] [(.ref x0)])) (fun t k => XS.aloadN X181.here hx rfl (hb hby d6_96) rfl rfl k) ?_
        refine own_step (st' := T181.setTop (mkF m 98 #[.val (.ref x0), .val (.ref x1), .val (.int (6 : Int32)), .val (.int (6 : Int32))] [(.int (6 : Int32)), (.ref x0)])) (fun t k => XS.iloadN X181.here hx rfl (hb hby d6_97) rfl k) ?_
        obtain ⟨T193, h193, k193, X193, e193, E193, A193, st193⟩ := newP X181 hx hZ (hw _ (List.mem_of_getElem? (i := 0) rfl)) e181 (g := (mkF m 98 #[.val (.ref x0), .val (.ref x1), .val (.int (6 : Int32)), .val (.int (6 : Int32))] [(.int (6 : Int32)), (.ref x0)])) rfl (hb hby d6_98) rfl (by decide) (cap := 6) (by decide) (by decide) (by decide) (by decide)
        obtain ⟨b193, g193⟩ : ∃ z, z = h181.size := ⟨_, rfl⟩
        rw [← g193] at A193 st193
        have ne194 : x0 ≠ b193 := Nat.ne_of_lt (Nat.lt_of_lt_of_le f182.lt (Nat.le_of_eq g193.symm))
        have ne195 : x1 ≠ b193 := Nat.ne_of_lt (Nat.lt_of_lt_of_le f185.lt (Nat.le_of_eq g193.symm))
        have ne196 : b12 ≠ b193 := Nat.ne_of_lt (Nat.lt_of_lt_of_le f188.lt (Nat.le_of_eq g193.symm))
        have ne197 : b165 ≠ b193 := Nat.ne_of_lt (Nat.lt_of_lt_of_le f189.lt (Nat.le_of_eq g193.symm))
        have g_b193 : n0 ≤ b193 := Nat.le_trans Z191 (Nat.le_of_eq g193.symm)
        have sz_b193 : h0.size ≤ b193 := Nat.le_trans K190.1 (Nat.le_of_eq g193.symm)
        have f198 := f182.ext E193
        have f199 := f183.ext E193
        have f200 := f184.ext E193
        have f201 := f185.ext E193
        have f202 := f186.ext E193
        have f203 := f187.ext E193
        have f204 := f188.ext E193
        have f205 := f189.ext E193
        have f206 := F181.ext E193
        have K207 : Keep h0 h193 [x0] := K190.ext E193
        have Z208 : n0 ≤ h193.size := Nat.le_trans Z191 E193.1
        have V193 : Arv Z h193 b193 k193 .int (6 : Int32) [(.int (0 : Int32)), (.int (0 : Int32)), (.int (0 : Int32)), (.int (0 : Int32)), (.int (0 : Int32)), (.int (0 : Int32))] (.int (0 : Int32)) := (Arv.new A193 (by decide)).pad (pad_rep [] (.int (0 : Int32)) 6)
        refine own_step (st' := T193.setTop (mkF m 100 #[.val (.ref x0), .val (.ref x1), .val (.int (6 : Int32)), .val (.int (6 : Int32))] [(.ref b193), (.ref x0)])) st193 ?_
        have vp209 : Arv Z h193 b193 k193 .int (6 : Int32) (([0, 0, 0, 0, 0, 0] : List Int32).map Value.int) (.int (0 : Int32)) := V193
        obtain ⟨T210, h210, X210, e210, W210, st210⟩ := putF X193 hx hZ hown (host := "") (Or.inl (hw _ (List.mem_of_getElem? (i := 34) rfl))) Via.refl e193 f198 f200 (Or.inr ⟨(hw _ (List.mem_of_getElem? (i := 35) rfl)), rfl, hnm⟩) (hw _ (List.mem_of_getElem? (i := 20) rfl)) (ty := (.array .int)) (by decide) rfl rfl (g := (mkF m 100 #[.val (.ref x0), .val (.ref x1), .val (.int (6 : Int32)), .val (.int (6 : Int32))] [(.ref b193), (.ref x0)])) rfl rfl (hb hby d6_100)
        have F210 := f198.same W210
        have f211 := f199.other W210 (Or.inr (slot_ne (Or.inr (hw _ (List.mem_of_getElem? (i := 37) rfl))) (Or.inr (hw _ (List.mem_of_getElem? (i := 35) rfl))) (by decide) (t := (.array .int)) (t' := (.array .int)) (by decide) (by decide)))
        have f212 := f200.wr W210
        have f213 := f201.other W210 p_8
        have f214 := f202.other W210 (Or.inr (slot_ne (Or.inr (hw _ (List.mem_of_getElem? (i := 29) rfl))) (Or.inr (hw _ (List.mem_of_getElem? (i := 35) rfl))) (by decide) (t := (.array .int)) (t' := (.array .int)) (by decide) (by decide)))
        have f215 := f203.other W210 (Or.inr (slot_ne (Or.inr (hw _ (List.mem_of_getElem? (i := 31) rfl))) (Or.inr (hw _ (List.mem_of_getElem? (i := 35) rfl))) (by decide) (t := (.array .int)) (t' := (.array .int)) (by decide) (by decide)))
        have f216 := f204.other W210 (Ne.symm ne13)
        have f217 := f205.other W210 (Ne.symm ne167)
        have f218 := f206.other W210 (Or.inr (slot_ne (Or.inr (hw _ (List.mem_of_getElem? (i := 33) rfl))) (Or.inr (hw _ (List.mem_of_getElem? (i := 35) rfl))) (by decide) (t := (.array .int)) (t' := (.array .int)) (by decide) (by decide)))
        have f219 := vp209.other W210 (Ne.symm ne194)
        have K220 : Keep h0 h210 [x0] := K207.wr W210 (Or.inl (List.mem_of_getElem? (i := 0) rfl))
        have Z221 : n0 ≤ h210.size := Nat.le_trans Z208 (Keep.of_wr W210).1
        have N222 := Fr.snoc X210 N192 p_6
        refine own_step (st' := T210.setTop (mkF m 103 #[.val (.ref x0), .val (.ref x1), .val (.int (6 : Int32)), .val (.int (6 : Int32))] [])) st210 ?_
        refine own_step (st' := T210.setTop (mkF m 104 #[.val (.ref x0), .val (.ref x1), .val (.int (6 : Int32)), .val (.int (6 : Int32))] [(.ref x0)])) (fun t k => XS.aloadN X210.here hx rfl (hb hby d6_103) rfl rfl k) ?_
        refine own_step (st' := T210.setTop (mkF m 105 #[.val (.ref x0), .val (.ref x1), .val (.int (6 : Int32)), .val (.int (6 : Int32))] [(.int (6 : Int32)), (.ref x0)])) (fun t k => XS.iloadN X210.here hx rfl (hb hby d6_104) rfl k) ?_
        obtain ⟨T223, h223, k223, X223, e223, E223, A223, st223⟩ := newP X210 hx hZ (hw _ (List.mem_of_getElem? (i := 0) rfl)) e210 (g := (mkF m 105 #[.val (.ref x0), .val (.ref x1), .val (.int (6 : Int32)), .val (.int (6 : Int32))] [(.int (6 : Int32)), (.ref x0)])) rfl (hb hby d6_105) rfl (by decide) (cap := 6) (by decide) (by decide) (by decide) (by decide)
        obtain ⟨b223, g223⟩ : ∃ z, z = h210.size := ⟨_, rfl⟩
        rw [← g223] at A223 st223
        have ne224 : x0 ≠ b223 := Nat.ne_of_lt (Nat.lt_of_lt_of_le f211.lt (Nat.le_of_eq g223.symm))
        have ne225 : x1 ≠ b223 := Nat.ne_of_lt (Nat.lt_of_lt_of_le f213.lt (Nat.le_of_eq g223.symm))
        have ne226 : b12 ≠ b223 := Nat.ne_of_lt (Nat.lt_of_lt_of_le f216.lt (Nat.le_of_eq g223.symm))
        have ne227 : b165 ≠ b223 := Nat.ne_of_lt (Nat.lt_of_lt_of_le f217.lt (Nat.le_of_eq g223.symm))
        have ne228 : b193 ≠ b223 := Nat.ne_of_lt (Nat.lt_of_lt_of_le f219.lt (Nat.le_of_eq g223.symm))
        have g_b223 : n0 ≤ b223 := Nat.le_trans Z221 (Nat.le_of_eq g223.symm)
        have sz_b223 : h0.size ≤ b223 := Nat.le_trans K220.1 (Nat.le_of_eq g223.symm)
        have f229 := f211.ext E223
        have f230 := f212.ext E223
        have f231 := f213.ext E223
        have f232 := f214.ext E223
        have f233 := f215.ext E223
        have f234 := f216.ext E223
        have f235 := f217.ext E223
        have f236 := f218.ext E223
        have f237 := f219.ext E223
        have f238 := F210.ext E223
        have K239 : Keep h0 h223 [x0] := K220.ext E223
        have Z240 : n0 ≤ h223.size := Nat.le_trans Z221 E223.1
        have V223 : Arv Z h223 b223 k223 .int (6 : Int32) [(.int (0 : Int32)), (.int (0 : Int32)), (.int (0 : Int32)), (.int (0 : Int32)), (.int (0 : Int32)), (.int (0 : Int32))] (.int (0 : Int32)) := (Arv.new A223 (by decide)).pad (pad_rep [] (.int (0 : Int32)) 6)
        refine own_step (st' := T223.setTop (mkF m 107 #[.val (.ref x0), .val (.ref x1), .val (.int (6 : Int32)), .val (.int (6 : Int32))] [(.ref b223), (.ref x0)])) st223 ?_
        have vp241 : Arv Z h223 b223 k223 .int (6 : Int32) (([0, 0, 0, 0, 0, 0] : List Int32).map Value.int) (.int (0 : Int32)) := V223
        obtain ⟨T242, h242, X242, e242, W242, st242⟩ := putF X223 hx hZ hown (host := "") (Or.inl (hw _ (List.mem_of_getElem? (i := 36) rfl))) Via.refl e223 f229 f230 (Or.inr ⟨(hw _ (List.mem_of_getElem? (i := 37) rfl)), rfl, hnm⟩) (hw _ (List.mem_of_getElem? (i := 20) rfl)) (ty := (.array .int)) (by decide) rfl rfl (g := (mkF m 107 #[.val (.ref x0), .val (.ref x1), .val (.int (6 : Int32)), .val (.int (6 : Int32))] [(.ref b223), (.ref x0)])) rfl rfl (hb hby d6_107)
        have F242 := f229.same W242
        have f243 := f230.wr W242
        have f244 := f231.other W242 p_8
        have f245 := f232.other W242 (Or.inr (slot_ne (Or.inr (hw _ (List.mem_of_getElem? (i := 29) rfl))) (Or.inr (hw _ (List.mem_of_getElem? (i := 37) rfl))) (by decide) (t := (.array .int)) (t' := (.array .int)) (by decide) (by decide)))
        have f246 := f233.other W242 (Or.inr (slot_ne (Or.inr (hw _ (List.mem_of_getElem? (i := 31) rfl))) (Or.inr (hw _ (List.mem_of_getElem? (i := 37) rfl))) (by decide) (t := (.array .int)) (t' := (.array .int)) (by decide) (by decide)))
        have f247 := f234.other W242 (Ne.symm ne13)
        have f248 := f235.other W242 (Ne.symm ne167)
        have f249 := f236.other W242 (Or.inr (slot_ne (Or.inr (hw _ (List.mem_of_getElem? (i := 33) rfl))) (Or.inr (hw _ (List.mem_of_getElem? (i := 37) rfl))) (by decide) (t := (.array .int)) (t' := (.array .int)) (by decide) (by decide)))
        have f250 := f237.other W242 (Ne.symm ne194)
        have f251 := f238.other W242 (Or.inr (slot_ne (Or.inr (hw _ (List.mem_of_getElem? (i := 35) rfl))) (Or.inr (hw _ (List.mem_of_getElem? (i := 37) rfl))) (by decide) (t := (.array .int)) (t' := (.array .int)) (by decide) (by decide)))
        have f252 := vp241.other W242 (Ne.symm ne224)
        have K253 : Keep h0 h242 [x0] := K239.wr W242 (Or.inl (List.mem_of_getElem? (i := 0) rfl))
        have Z254 : n0 ≤ h242.size := Nat.le_trans Z240 (Keep.of_wr W242).1
        have N255 := Fr.snoc X242 N222 p_6
        refine own_step (st' := T242.setTop (mkF m 110 #[.val (.ref x0), .val (.ref x1), .val (.int (6 : Int32)), .val (.int (6 : Int32))] [])) st242 ?_
        refine own_step (st' := T242.setTop (mkF m 111 #[.val (.ref x0), .val (.ref x1), .val (.int (6 : Int32)), .val (.int (6 : Int32))] [(.ref x0)])) (fun t k => XS.aloadN X242.here hx rfl (hb hby d6_110) rfl rfl k) ?_
        obtain ⟨o256, ho256, ro256⟩ := own_bind rL166
        clear rL166
        obtain ⟨cq257, q257, q257'⟩ := f243.cell
        obtain ⟨_, _, ⟨T257, L257, k257, n257⟩, -, X257, ⟨Lc257, hQ257, l257, y257, z257⟩, st257⟩ := X242.privateBack hx (y := (⟨"com/example/rumorwire/rumorwire/TreeSolver", "finishInOrderOfTime", "()V"⟩ : MethodName)) hown (mvT hZ (hw _ (List.mem_of_getElem? (i := 38) rfl))) (mvT hZ (hw _ (List.mem_of_getElem? (i := 39) rfl))) (own_selp (y := (⟨"com/example/rumorwire/rumorwire/TreeSolver", "finishInOrderOfTime", "()V"⟩ : MethodName)) (mvT hZ (hw _ (List.mem_of_getElem? (i := 39) rfl))) (own_nf (args := #[]) (y := (⟨"com/example/rumorwire/rumorwire/TreeSolver", "informedIn", "()[I"⟩ : MethodName)) rfl (mvT hZ (hw _ (List.mem_of_getElem? (i := 53) rfl))) (notFace_of_selects (args := #[]) (mvT hZ (hw _ (List.mem_of_getElem? (i := 54) rfl))))) (Cond.privateMethod_at (mvP hZ (hw _ (List.mem_of_getElem? (i := 40) rfl)) (args := #[]))) (by decide)) (Cond.privateMethod_at (mvP hZ (hw _ (List.mem_of_getElem? (i := 40) rfl)) (args := #[]))) (mvT hZ (hw _ (List.mem_of_getElem? (i := 41) rfl))) (by decide) (backOf (W := 0) (rm8 l Z a0 hw [] x0 x1 b12 b165 b193 b223 kP k12 k165 k193 k223 z164 P L152 L166 ([0, 0, 0, 0, 0, 0] : List Int32) ([0, 0, 0, 0, 0, 0] : List Int32) o256.1 o256.2.1 o256.2.2 h242 n0 Z254 f245 f246 f249 f251 F242 f244 f247 f248 f250 f252 (Ne.symm p_8) ne13 ne167 ne194 ne224 ne14 ne168 ne195 ne225 ne169 ne196 ne226 ne197 ne227 ne228 g_b165 g_b193 g_b223 f243 ho256) hZ (hw _ (List.mem_of_getElem? (i := 41) rfl)) (hw _ (List.mem_of_getElem? (i := 21) rfl)) (by decide) (by decide)) (g := (mkF m 111 #[.val (.ref x0), .val (.ref x1), .val (.int (6 : Int32)), .val (.int (6 : Int32))] [(.ref x0)])) rfl (by rw [hml]; rfl) (Steps.refl _) (a := x0) (by rw [e242]; exact q257) q257' (argsL := []) (rest := []) (lenOf pd_6 rfl) rfl (by show 2 * 0 + _ ≤ _; exact Nat.le_of_eq rfl) (hb hby d6_111) (fun _ _ => ⟨rfl, e242, (by decide : 4 + 3 ≤ _), (by decide : 25 + 18 ≤ _)⟩)
        dsimp only [Pt.U, Pt.locs, Pt.cells, Pt.slots] at X257 l257 y257 z257 st257 hQ257
        subst y257 z257
        obtain ⟨rfl, N257q, K257, pq257_0, pq257_1, pq257_2⟩ := hQ257
        have N257 := Fr.app N255 N257q
        rw [← l257] at N257
        clear l257
        obtain ⟨h257, e257⟩ : ∃ z, T257.heap = z := ⟨_, rfl⟩
        rw [e257] at K257 pq257_0 pq257_1 pq257_2
        have f258 := f243.keep K257
        have f259 := f244.keep K257 (ninS ne168 (ninS ne195 (ninS ne225 nin0)))
        have f260 := f245.keep K257 (ninS ne167 (ninS ne194 (ninS ne224 nin0)))
        have f261 := f246.keep K257 (ninS ne167 (ninS ne194 (ninS ne224 nin0)))
        have f262 := f247.keep K257 (ninS ne169 (ninS ne196 (ninS ne226 nin0)))
        have f263 := f249.keep K257 (ninS ne167 (ninS ne194 (ninS ne224 nin0)))
        have f264 := f251.keep K257 (ninS ne167 (ninS ne194 (ninS ne224 nin0)))
        have f265 := F242.keep K257 (ninS ne167 (ninS ne194 (ninS ne224 nin0)))
        have K266 : Keep h0 h257 [x0] := K253.trans K257 (allS (Or.inr sz_b165) (allS (Or.inr sz_b193) (allS (Or.inr sz_b223) all0)))
        have Z267 : n0 ≤ h257.size := Nat.le_trans Z254 K257.1
        refine own_step (st' := T257.setTop (mkF m 114 #[.val (.ref x0), .val (.ref x1), .val (.int (6 : Int32)), .val (.int (6 : Int32))] [])) (fun t k => st257.trans k) ?_
        refine own_ret X257 Bd.notSynchronized (none) (fun _ => rfl) (fun fs hr => X257.returnOut hx Bd.returns (hb hby d6_114) hr) ?_ (by decide) (by decide)
        rw [e257]
        have hq : some (z164, L152, o256.1, o256.2.1, o256.2.2) = some (nC, S, C, T, F) := ro256
        cases hq
        exact ⟨b12, b165, b193, b223, k12, k165, k193, k223, rfl, N257, K266, sz_b12, sz_b165, sz_b193, sz_b223, f260, f261, f263, f264, f265, f259, f262, pq257_0, pq257_1, pq257_2⟩
  refine own_step (st' := T25.setTop (mkF m 22 #[.val (.ref x0), .val (.ref x1), .val (.int (6 : Int32)), .unset] [(.int (0 : Int32))])) (fun t k => XS.iconst X25.here hx rfl (hb hby d6_21) k) ?_
  refine own_step (st' := T25.setTop (mkF m 23 #[.val (.ref x0), .val (.ref x1), .val (.int (6 : Int32)), .val (.int (0 : Int32))] [])) (fun t k => XS.istoreN X25.here hx rfl (hb hby d6_22) rfl (l' := #[.val (.ref x0), .val (.ref x1), .val (.int (6 : Int32)), .val (.int (0 : Int32))]) rfl k) ?_
  exact J36 _ _ _ _ (0 : Int32) ([0, 0, 0, 0, 0, 0, 0] : List Int32) X25 e25 N35 Z34 f26 f27 f28 f29 f30 f31 f32 F25 K33 p_9
def m_law (v1 : Int32) (v2 : Int32) (v3 : Int32) (v4 : Int32) (v5 : Int32) : Option (Int32) := (own_put (6 : Int32) ([0, 0, 0, 0, 0, 0] : List Int32) (0 : Int32) (-1 : Int32)).bind fun L5 => (own_put (6 : Int32) L5 (1 : Int32) v1).bind fun L9 => (own_put (6 : Int32) L9 (2 : Int32) v2).bind fun L13 => (own_put (6 : Int32) L13 (3 : Int32) v3).bind fun L17 => (own_put (6 : Int32) L17 (4 : Int32) v4).bind fun L21 => (own_put (6 : Int32) L21 (5 : Int32) v5).bind fun L25 => (own_get (6 : Int32) L25 (0 : Int32)).bind fun z33 => (own_put (6 : Int32) ([0, 0, 0, 0, 0, 0] : List Int32) (0 : Int32) z33).bind fun L35 => (own_get (6 : Int32) L25 (1 : Int32)).bind fun z39 => (own_put (6 : Int32) L35 (1 : Int32) z39).bind fun L41 => (own_get (6 : Int32) L25 (2 : Int32)).bind fun z45 => (own_put (6 : Int32) L41 (2 : Int32) z45).bind fun L47 => (own_get (6 : Int32) L25 (3 : Int32)).bind fun z51 => (own_put (6 : Int32) L47 (3 : Int32) z51).bind fun L53 => (own_get (6 : Int32) L25 (4 : Int32)).bind fun z57 => (own_put (6 : Int32) L53 (4 : Int32) z57).bind fun L59 => (own_get (6 : Int32) L25 (5 : Int32)).bind fun z63 => (own_put (6 : Int32) L59 (5 : Int32) z63).bind fun L65 => (m_time L25 ([0, 0, 0, 0, 0, 0] : List Int32) (4 : Int32)).bind fun o76 => (own_put (6 : Int32) ([0, 0, 0, 0, 0, 0] : List Int32) (4 : Int32) o76).bind fun L79 => (m_time L25 L79 (3 : Int32)).bind fun o84 => (own_put (6 : Int32) L79 (3 : Int32) o84).bind fun L87 => (m_time L25 L87 (2 : Int32)).bind fun o92 => (own_put (6 : Int32) L87 (2 : Int32) o92).bind fun L95 => (m_time L25 L95 (1 : Int32)).bind fun o100 => (own_put (6 : Int32) L95 (1 : Int32) o100).bind fun L103 => (m_time L25 L103 (0 : Int32)).bind fun o108 => (own_put (6 : Int32) L103 (0 : Int32) o108).bind fun L111 => (m_ini L65).bind fun o129 => (m_inf o129.1 L65 o129.2.1 o129.2.2.1 o129.2.2.2.1 o129.2.2.2.2).bind fun o152 => (own_get (6 : Int32) o152 (0 : Int32)).bind fun z176 => if z176 = (0 : Int32) then ((m_child L25 L111 o152 (1 : Int32)).bind fun o179 => if o179 = (0 : Int32) then (none) else ((m_child L25 L111 o152 (2 : Int32)).bind fun o184 => if o184 = (0 : Int32) then (none) else ((m_child L25 L111 o152 (3 : Int32)).bind fun o189 => if o189 = (0 : Int32) then (none) else ((m_child L25 L111 o152 (4 : Int32)).bind fun o194 => if o194 = (0 : Int32) then (none) else ((m_child L25 L111 o152 (5 : Int32)).bind fun o199 => if o199 = (0 : Int32) then (none) else ((m_apart L25 o152 (1 : Int32) (2 : Int32)).bind fun o204 => if o204 = (0 : Int32) then (none) else ((m_apart L25 o152 (1 : Int32) (3 : Int32)).bind fun o209 => if o209 = (0 : Int32) then (none) else ((m_apart L25 o152 (1 : Int32) (4 : Int32)).bind fun o214 => if o214 = (0 : Int32) then (none) else ((m_apart L25 o152 (1 : Int32) (5 : Int32)).bind fun o219 => if o219 = (0 : Int32) then (none) else ((m_apart L25 o152 (2 : Int32) (3 : Int32)).bind fun o224 => if o224 = (0 : Int32) then (none) else ((m_apart L25 o152 (2 : Int32) (4 : Int32)).bind fun o229 => if o229 = (0 : Int32) then (none) else ((m_apart L25 o152 (2 : Int32) (5 : Int32)).bind fun o234 => if o234 = (0 : Int32) then (none) else ((m_apart L25 o152 (3 : Int32) (4 : Int32)).bind fun o239 => if o239 = (0 : Int32) then (none) else ((m_apart L25 o152 (3 : Int32) (5 : Int32)).bind fun o244 => if o244 = (0 : Int32) then (none) else ((m_apart L25 o152 (4 : Int32) (5 : Int32)).bind fun o249 => if o249 = (0 : Int32) then (none) else (some (1 : Int32))))))))))))))))) else (none)

def own_rng (k : Nat) : List Int32 := ([-1, 0, 1, 2, 3, 4] : List Int32).take k
theorem own_d000 : ((own_rng 5).all fun d => (own_rng 6).all fun e => decide (m_law (-1) (-1) (-1) d e = some (1 : Int32))) = true := by decide +kernel
theorem own_d001 : ((own_rng 5).all fun d => (own_rng 6).all fun e => decide (m_law (-1) (-1) 0 d e = some (1 : Int32))) = true := by decide +kernel
theorem own_d002 : ((own_rng 5).all fun d => (own_rng 6).all fun e => decide (m_law (-1) (-1) 1 d e = some (1 : Int32))) = true := by decide +kernel
theorem own_d003 : ((own_rng 5).all fun d => (own_rng 6).all fun e => decide (m_law (-1) (-1) 2 d e = some (1 : Int32))) = true := by decide +kernel
theorem own_d010 : ((own_rng 5).all fun d => (own_rng 6).all fun e => decide (m_law (-1) 0 (-1) d e = some (1 : Int32))) = true := by decide +kernel
theorem own_d011 : ((own_rng 5).all fun d => (own_rng 6).all fun e => decide (m_law (-1) 0 0 d e = some (1 : Int32))) = true := by decide +kernel
theorem own_d012 : ((own_rng 5).all fun d => (own_rng 6).all fun e => decide (m_law (-1) 0 1 d e = some (1 : Int32))) = true := by decide +kernel
theorem own_d013 : ((own_rng 5).all fun d => (own_rng 6).all fun e => decide (m_law (-1) 0 2 d e = some (1 : Int32))) = true := by decide +kernel
theorem own_d020 : ((own_rng 5).all fun d => (own_rng 6).all fun e => decide (m_law (-1) 1 (-1) d e = some (1 : Int32))) = true := by decide +kernel
theorem own_d021 : ((own_rng 5).all fun d => (own_rng 6).all fun e => decide (m_law (-1) 1 0 d e = some (1 : Int32))) = true := by decide +kernel
theorem own_d022 : ((own_rng 5).all fun d => (own_rng 6).all fun e => decide (m_law (-1) 1 1 d e = some (1 : Int32))) = true := by decide +kernel
theorem own_d023 : ((own_rng 5).all fun d => (own_rng 6).all fun e => decide (m_law (-1) 1 2 d e = some (1 : Int32))) = true := by decide +kernel
theorem own_d100 : ((own_rng 5).all fun d => (own_rng 6).all fun e => decide (m_law 0 (-1) (-1) d e = some (1 : Int32))) = true := by decide +kernel
theorem own_d101 : ((own_rng 5).all fun d => (own_rng 6).all fun e => decide (m_law 0 (-1) 0 d e = some (1 : Int32))) = true := by decide +kernel
theorem own_d102 : ((own_rng 5).all fun d => (own_rng 6).all fun e => decide (m_law 0 (-1) 1 d e = some (1 : Int32))) = true := by decide +kernel
theorem own_d103 : ((own_rng 5).all fun d => (own_rng 6).all fun e => decide (m_law 0 (-1) 2 d e = some (1 : Int32))) = true := by decide +kernel
theorem own_d110 : ((own_rng 5).all fun d => (own_rng 6).all fun e => decide (m_law 0 0 (-1) d e = some (1 : Int32))) = true := by decide +kernel
theorem own_d111 : ((own_rng 5).all fun d => (own_rng 6).all fun e => decide (m_law 0 0 0 d e = some (1 : Int32))) = true := by decide +kernel
theorem own_d112 : ((own_rng 5).all fun d => (own_rng 6).all fun e => decide (m_law 0 0 1 d e = some (1 : Int32))) = true := by decide +kernel
theorem own_d113 : ((own_rng 5).all fun d => (own_rng 6).all fun e => decide (m_law 0 0 2 d e = some (1 : Int32))) = true := by decide +kernel
theorem own_d120 : ((own_rng 5).all fun d => (own_rng 6).all fun e => decide (m_law 0 1 (-1) d e = some (1 : Int32))) = true := by decide +kernel
theorem own_d121 : ((own_rng 5).all fun d => (own_rng 6).all fun e => decide (m_law 0 1 0 d e = some (1 : Int32))) = true := by decide +kernel
theorem own_d122 : ((own_rng 5).all fun d => (own_rng 6).all fun e => decide (m_law 0 1 1 d e = some (1 : Int32))) = true := by decide +kernel
theorem own_d123 : ((own_rng 5).all fun d => (own_rng 6).all fun e => decide (m_law 0 1 2 d e = some (1 : Int32))) = true := by decide +kernel
theorem own_dec {v1 v2 v3 : Int32} (m1 : v1 ∈ own_rng 2) (m2 : v2 ∈ own_rng 3) (m3 : v3 ∈ own_rng 4) : ((own_rng 5).all fun d => (own_rng 6).all fun e => decide (m_law v1 v2 v3 d e = some (1 : Int32))) = true := by
  have h1 : v1 = -1 ∨ v1 = 0 := by simpa [own_rng] using m1
  have h2 : v2 = -1 ∨ v2 = 0 ∨ v2 = 1 := by simpa [own_rng] using m2
  have h3 : v3 = -1 ∨ v3 = 0 ∨ v3 = 1 ∨ v3 = 2 := by simpa [own_rng] using m3
  clear m1 m2 m3
  rcases h1 with rfl | rfl <;> rcases h2 with rfl | rfl | rfl <;> rcases h3 with rfl | rfl | rfl | rfl
  · exact own_d000
  · exact own_d001
  · exact own_d002
  · exact own_d003
  · exact own_d010
  · exact own_d011
  · exact own_d012
  · exact own_d013
  · exact own_d020
  · exact own_d021
  · exact own_d022
  · exact own_d023
  · exact own_d100
  · exact own_d101
  · exact own_d102
  · exact own_d103
  · exact own_d110
  · exact own_d111
  · exact own_d112
  · exact own_d113
  · exact own_d120
  · exact own_d121
  · exact own_d122
  · exact own_d123
theorem own_in6 {x v m : Int32} {k : Nat} (hm : m.toInt = k) (h1 : 2 ≤ k) (h6 : k ≤ 6) (e : v = (((x &&& (2147483647 : Int32)) % m) - (1 : Int32))) : v ∈ own_rng k := by
  have a := c_mask x 2147483647 31 (by decide) (by decide)
  have b := (c_irem (x &&& 2147483647) m k hm).1 (by omega)
  have d : (1 : Int32).toInt = 1 := by decide
  have s := c_isub ((x &&& (2147483647 : Int32)) % m) 1
  have r := rng32 (((x &&& (2147483647 : Int32)) % m) - 1)
  have lo : 0 ≤ ((x &&& (2147483647 : Int32)) % m).toInt := by rw [b]; exact Int.emod_nonneg _ (by omega)
  have hi : ((x &&& (2147483647 : Int32)) % m).toInt < k := by rw [b]; exact Int.emod_lt_of_pos _ (by omega)
  have ev : v.toInt = ((x &&& (2147483647 : Int32)) % m).toInt - 1 := by rw [e]; omega
  have g : ∀ {q : Int32} {z : Int}, q.toInt = z → v.toInt = z → v = q := fun h1 h2 => Int32.toInt_inj.mp (by omega)
  have cs : v.toInt = -1 ∨ v.toInt = 0 ∨ v.toInt = 1 ∨ v.toInt = 2 ∨ v.toInt = 3 ∨ v.toInt = 4 := by omega
  have kk : k = 2 ∨ k = 3 ∨ k = 4 ∨ k = 5 ∨ k = 6 := by omega
  rcases cs with c | c | c | c | c | c
  · rw [g (q := -1) (by decide) c]; rcases kk with rfl | rfl | rfl | rfl | rfl <;> decide
  · rw [g (q := 0) (by decide) c]; rcases kk with rfl | rfl | rfl | rfl | rfl <;> decide
  · rw [g (q := 1) (by decide) c]; rcases kk with rfl | rfl | rfl | rfl | rfl <;> first | decide | omega
  · rw [g (q := 2) (by decide) c]; rcases kk with rfl | rfl | rfl | rfl | rfl <;> first | decide | omega
  · rw [g (q := 3) (by decide) c]; rcases kk with rfl | rfl | rfl | rfl | rfl <;> first | decide | omega
  · rw [g (q := 4) (by decide) c]; rcases kk with rfl | rfl | rfl | rfl | rfl <;> first | decide | omega
theorem own_all {x0 x1 x2 x3 x4 v1 v2 v3 v4 v5 : Int32} (e1 : v1 = (((x0 &&& (2147483647 : Int32)) % (2 : Int32)) - (1 : Int32))) (e2 : v2 = (((x1 &&& (2147483647 : Int32)) % (3 : Int32)) - (1 : Int32))) (e3 : v3 = (((x2 &&& (2147483647 : Int32)) % (4 : Int32)) - (1 : Int32))) (e4 : v4 = (((x3 &&& (2147483647 : Int32)) % (5 : Int32)) - (1 : Int32))) (e5 : v5 = (((x4 &&& (2147483647 : Int32)) % (6 : Int32)) - (1 : Int32))) : m_law v1 v2 v3 v4 v5 = some (1 : Int32) := by
  have h := own_dec (own_in6 (k := 2) (by decide) (by decide) (by decide) e1) (own_in6 (k := 3) (by decide) (by decide) (by decide) e2) (own_in6 (k := 4) (by decide) (by decide) (by decide) e3)
  have h := List.all_eq_true.mp h v4 (own_in6 (k := 5) (by decide) (by decide) (by decide) e4)
  have h := List.all_eq_true.mp h v5 (own_in6 (k := 6) (by decide) (by decide) (by decide) e5)
  exact of_decide_eq_true h


theorem ef_0_IIIII (m : MethodId) (x0 : Int32) (x1 : Int32) (x2 : Int32) (x3 : Int32) (x4 : Int32) : entryFrame m #[(.int x0), (.int x1), (.int x2), (.int x3), (.int x4)] maxLocals = mkF m 0 #[.val (.int x0), .val (.int x1), .val (.int x2), .val (.int x3), .val (.int x4), .unset, .unset, .unset, .unset, .unset, .unset] [] := by first | (simp [entryFrame, mkF, argsToLocals, Value.category, maxLocals]; done) | rfl
def Q_rm0 (Z : State) (x0 : Int32) (x1 : Int32) (x2 : Int32) (x3 : Int32) (x4 : Int32) (h0 : Heap) (n0 : Nat) (v : Option Value) (h : Heap) (L : List Loc) : Prop := v = some (.int (1 : Int32)) ∧ Fr n0 L
set_option maxRecDepth 65536 in
set_option maxHeartbeats 40000000 in
theorem rm0 (l : Launch) (Z : State) (a0 : Array Value) (hw : ∀ d ∈ tables_1, d.before a0 Z = true) (ws : List Jvm.Cond) (x0 : Int32) (x1 : Int32) (x2 : Int32) (x3 : Int32) (x4 : Int32) (h0 : Heap) (n0 : Nat) (Z0 : n0 ≤ h0.size) :
    MetFree l x (head1 (Jvm.Cond.code x code maxLocals ret :: ws) room_1) (fun a U => a = #[(.int x0), (.int x1), (.int x2), (.int x3), (.int x4)] ∧ Z.Warmed39 U.vm ∧ U.heap = h0) (fun _ _ _ _ _ => True) (fun _ U o U' => ∃ v L, o = .returned v ∧ Q_rm0 Z x0 x1 x2 x3 x4 h0 n0 v U'.heap L ∧ FrameEnd U o U' L room_1.cells room_1.slots) := by
  refine MetFree.of_bodySF (plainFor_of_name pn_1) hisR ?_
  intro p e s m args below meth c s₁ Bd hml0 hP hK
  obtain ⟨rfl, hZ, hh⟩ := hP
  have hx := Bd.exec
  have hby := Bd.bytes
  have hml : c.maxLocals = 11 := hml0
  have hown : s.vm.findClass "com/example/rumorwire/rumorwire/TreeSolverInformedInPinLaw" = some m.cls := findClass_of_methodNamed Bd.named
  have hnm := (name_of_methodNamed Bd.named Bd.method).1
  have X0 : Stand p l e room_1 s m #[(.int x0), (.int x1), (.int x2), (.int x3), (.int x4)] below meth c s₁ [] 0 0 := Stand.of_body Bd
  have e0 : s₁.heap = h0 := by rw [← hh, Bd.state]; rfl
  have N0 := Fr.nil n0
  show own_Ends p e below s room_1.cells room_1.slots (Q_rm0 Z x0 x1 x2 x3 x4 h0 n0) (s₁.setTop (entryFrame m #[(.int x0), (.int x1), (.int x2), (.int x3), (.int x4)] maxLocals))
  rw [ef_0_IIIII]
  obtain ⟨v1, e_v1⟩ : ∃ z : Int32, z = (((x0 &&& (2147483647 : Int32)) % (2 : Int32)) - (1 : Int32)) := ⟨_, rfl⟩
  obtain ⟨v2, e_v2⟩ : ∃ z : Int32, z = (((x1 &&& (2147483647 : Int32)) % (3 : Int32)) - (1 : Int32)) := ⟨_, rfl⟩
  obtain ⟨v3, e_v3⟩ : ∃ z : Int32, z = (((x2 &&& (2147483647 : Int32)) % (4 : Int32)) - (1 : Int32)) := ⟨_, rfl⟩
  obtain ⟨v4, e_v4⟩ : ∃ z : Int32, z = (((x3 &&& (2147483647 : Int32)) % (5 : Int32)) - (1 : Int32)) := ⟨_, rfl⟩
  obtain ⟨v5, e_v5⟩ : ∃ z : Int32, z = (((x4 &&& (2147483647 : Int32)) % (6 : Int32)) - (1 : Int32)) := ⟨_, rfl⟩
  have hr0 := own_all e_v1 e_v2 e_v3 e_v4 e_v5
  refine own_step (st' := s₁.setTop (mkF m 2 #[.val (.int x0), .val (.int x1), .val (.int x2), .val (.int x3), .val (.int x4), .unset, .unset, .unset, .unset, .unset, .unset] [(.int (6 : Int32))])) (fun t k => XS.bipush X0.here hx rfl (hb hby at_0) k) ?_
  obtain ⟨T1, h1, k1, X1, e1, E1, A1, st1⟩ := newP X0 hx hZ (hw _ (List.mem_of_getElem? (i := 0) rfl)) e0 (g := (mkF m 2 #[.val (.int x0), .val (.int x1), .val (.int x2), .val (.int x3), .val (.int x4), .unset, .unset, .unset, .unset, .unset, .unset] [(.int (6 : Int32))])) rfl (hb hby at_2) rfl (by decide) (cap := 6) (by decide) (by decide) (by decide) (by decide)
  obtain ⟨b1, g1⟩ : ∃ z, z = h0.size := ⟨_, rfl⟩
  rw [← g1] at A1 st1
  have g_b1 : n0 ≤ b1 := Nat.le_trans Z0 (Nat.le_of_eq g1.symm)
  have Z2 : n0 ≤ h1.size := Nat.le_trans Z0 E1.1
  have V1 : Arv Z h1 b1 k1 .int (6 : Int32) [(.int (0 : Int32)), (.int (0 : Int32)), (.int (0 : Int32)), (.int (0 : Int32)), (.int (0 : Int32)), (.int (0 : Int32))] (.int (0 : Int32)) := (Arv.new A1 (by decide)).pad (pad_rep [] (.int (0 : Int32)) 6)
  refine own_step (st' := T1.setTop (mkF m 4 #[.val (.int x0), .val (.int x1), .val (.int x2), .val (.int x3), .val (.int x4), .unset, .unset, .unset, .unset, .unset, .unset] [(.ref b1)])) st1 ?_
  have vp3 : Arv Z h1 b1 k1 .int (6 : Int32) (([0, 0, 0, 0, 0, 0] : List Int32).map Value.int) (.int (0 : Int32)) := V1
  refine own_step (st' := T1.setTop (mkF m 6 #[.val (.int x0), .val (.int x1), .val (.int x2), .val (.int x3), .val (.int x4), .val (.ref b1), .unset, .unset, .unset, .unset, .unset] [])) (fun t k => XS.astore X1.here hx rfl (hb hby at_4) rfl rfl (l' := #[.val (.int x0), .val (.int x1), .val (.int x2), .val (.int x3), .val (.int x4), .val (.ref b1), .unset, .unset, .unset, .unset, .unset]) rfl k) ?_
  refine own_step (st' := T1.setTop (mkF m 8 #[.val (.int x0), .val (.int x1), .val (.int x2), .val (.int x3), .val (.int x4), .val (.ref b1), .unset, .unset, .unset, .unset, .unset] [(.ref b1)])) (fun t k => XS.aload X1.here hx rfl (hb hby at_6) rfl rfl k) ?_
  refine own_step (st' := T1.setTop (mkF m 9 #[.val (.int x0), .val (.int x1), .val (.int x2), .val (.int x3), .val (.int x4), .val (.ref b1), .unset, .unset, .unset, .unset, .unset] [(.int (0 : Int32)), (.ref b1)])) (fun t k => XS.iconst X1.here hx rfl (hb hby at_8) k) ?_
  refine own_step (st' := T1.setTop (mkF m 10 #[.val (.int x0), .val (.int x1), .val (.int x2), .val (.int x3), .val (.int x4), .val (.ref b1), .unset, .unset, .unset, .unset, .unset] [(.int (-1 : Int32)), (.int (0 : Int32)), (.ref b1)])) (fun t k => XS.iconst X1.here hx rfl (hb hby at_9) k) ?_
  obtain ⟨L5, hL5, rL5⟩ := own_bind hr0
  clear hr0
  obtain ⟨T4, h4, X4, e4, W4, V4, st4⟩ := own_stI X1 hx hZ e1 vp3 (j := (0 : Int32)) (i := (0 : Int32).toNatClampNeg) (own_pt hL5).1 rfl (own_pt hL5).2.1 (g := (mkF m 10 #[.val (.int x0), .val (.int x1), .val (.int x2), .val (.int x3), .val (.int x4), .val (.ref b1), .unset, .unset, .unset, .unset, .unset] [(.int (-1 : Int32)), (.int (0 : Int32)), (.ref b1)])) rfl rfl (hb hby at_10)
  have V4 : Arv Z h4 b1 k1 .int (6 : Int32) ((([0, 0, 0, 0, 0, 0] : List Int32).map Value.int).set (0 : Int32).toNatClampNeg (.int (-1 : Int32))) (.int (0 : Int32)) := V4
  rw [(own_pt hL5).2.2] at V4
  have Z6 : n0 ≤ h4.size := Nat.le_trans Z2 (Keep.of_wr W4).1
  have N7 := Fr.snoc X4 N0 g_b1
  refine own_step (st' := T4.setTop (mkF m 11 #[.val (.int x0), .val (.int x1), .val (.int x2), .val (.int x3), .val (.int x4), .val (.ref b1), .unset, .unset, .unset, .unset, .unset] [])) st4 ?_
  refine own_step (st' := T4.setTop (mkF m 13 #[.val (.int x0), .val (.int x1), .val (.int x2), .val (.int x3), .val (.int x4), .val (.ref b1), .unset, .unset, .unset, .unset, .unset] [(.ref b1)])) (fun t k => XS.aload X4.here hx rfl (hb hby at_11) rfl rfl k) ?_
  refine own_step (st' := T4.setTop (mkF m 14 #[.val (.int x0), .val (.int x1), .val (.int x2), .val (.int x3), .val (.int x4), .val (.ref b1), .unset, .unset, .unset, .unset, .unset] [(.int (1 : Int32)), (.ref b1)])) (fun t k => XS.iconst X4.here hx rfl (hb hby at_13) k) ?_
  refine own_step (st' := T4.setTop (mkF m 15 #[.val (.int x0), .val (.int x1), .val (.int x2), .val (.int x3), .val (.int x4), .val (.ref b1), .unset, .unset, .unset, .unset, .unset] [(.int x0), (.int (1 : Int32)), (.ref b1)])) (fun t k => XS.iloadN X4.here hx rfl (hb hby at_14) rfl k) ?_
  refine own_step (st' := T4.setTop (mkF m 17 #[.val (.int x0), .val (.int x1), .val (.int x2), .val (.int x3), .val (.int x4), .val (.ref b1), .unset, .unset, .unset, .unset, .unset] [(.int (2147483647 : Int32)), (.int x0), (.int (1 : Int32)), (.ref b1)])) (fun t k => X4.ldcInt hx hown (mvT hZ (hw _ (List.mem_of_getElem? (i := 1) rfl))) (g := (mkF m 15 #[.val (.int x0), .val (.int x1), .val (.int x2), .val (.int x3), .val (.int x4), .val (.ref b1), .unset, .unset, .unset, .unset, .unset] [(.int x0), (.int (1 : Int32)), (.ref b1)])) rfl (hb hby at_15) t k) ?_
  refine own_step (st' := T4.setTop (mkF m 18 #[.val (.int x0), .val (.int x1), .val (.int x2), .val (.int x3), .val (.int x4), .val (.ref b1), .unset, .unset, .unset, .unset, .unset] [(.int (x0 &&& (2147483647 : Int32))), (.int (1 : Int32)), (.ref b1)])) (fun t k => XS.iand X4.here hx rfl (hb hby at_17) rfl k) ?_
  refine own_step (st' := T4.setTop (mkF m 19 #[.val (.int x0), .val (.int x1), .val (.int x2), .val (.int x3), .val (.int x4), .val (.ref b1), .unset, .unset, .unset, .unset, .unset] [(.int (2 : Int32)), (.int (x0 &&& (2147483647 : Int32))), (.int (1 : Int32)), (.ref b1)])) (fun t k => XS.iconst X4.here hx rfl (hb hby at_18) k) ?_
  refine own_step (st' := T4.setTop (mkF m 20 #[.val (.int x0), .val (.int x1), .val (.int x2), .val (.int x3), .val (.int x4), .val (.ref b1), .unset, .unset, .unset, .unset, .unset] [(.int ((x0 &&& (2147483647 : Int32)) % (2 : Int32))), (.int (1 : Int32)), (.ref b1)])) (fun t k => iremM (g := (mkF m 19 #[.val (.int x0), .val (.int x1), .val (.int x2), .val (.int x3), .val (.int x4), .val (.ref b1), .unset, .unset, .unset, .unset, .unset] [(.int (2 : Int32)), (.int (x0 &&& (2147483647 : Int32))), (.int (1 : Int32)), (.ref b1)])) X4 hx rfl (hb hby at_19) rfl (by decide) k) ?_
  refine own_step (st' := T4.setTop (mkF m 21 #[.val (.int x0), .val (.int x1), .val (.int x2), .val (.int x3), .val (.int x4), .val (.ref b1), .unset, .unset, .unset, .unset, .unset] [(.int (1 : Int32)), (.int ((x0 &&& (2147483647 : Int32)) % (2 : Int32))), (.int (1 : Int32)), (.ref b1)])) (fun t k => XS.iconst X4.here hx rfl (hb hby at_20) k) ?_
  refine own_step (st' := T4.setTop (mkF m 22 #[.val (.int x0), .val (.int x1), .val (.int x2), .val (.int x3), .val (.int x4), .val (.ref b1), .unset, .unset, .unset, .unset, .unset] [(.int (((x0 &&& (2147483647 : Int32)) % (2 : Int32)) - (1 : Int32))), (.int (1 : Int32)), (.ref b1)])) (fun t k => XS.isub X4.here hx rfl (hb hby at_21) rfl k) ?_
  rw [← e_v1]
  obtain ⟨L9, hL9, rL9⟩ := own_bind rL5
  clear rL5
  obtain ⟨T8, h8, X8, e8, W8, V8, st8⟩ := own_stI X4 hx hZ e4 V4 (j := (1 : Int32)) (i := (1 : Int32).toNatClampNeg) (own_pt hL9).1 rfl (own_pt hL9).2.1 (g := (mkF m 22 #[.val (.int x0), .val (.int x1), .val (.int x2), .val (.int x3), .val (.int x4), .val (.ref b1), .unset, .unset, .unset, .unset, .unset] [(.int v1), (.int (1 : Int32)), (.ref b1)])) rfl rfl (hb hby at_22)
  have V8 : Arv Z h8 b1 k1 .int (6 : Int32) ((L5.map Value.int).set (1 : Int32).toNatClampNeg (.int v1)) (.int (0 : Int32)) := V8
  rw [(own_pt hL9).2.2] at V8
  have Z10 : n0 ≤ h8.size := Nat.le_trans Z6 (Keep.of_wr W8).1
  have N11 := Fr.snoc X8 N7 g_b1
  refine own_step (st' := T8.setTop (mkF m 23 #[.val (.int x0), .val (.int x1), .val (.int x2), .val (.int x3), .val (.int x4), .val (.ref b1), .unset, .unset, .unset, .unset, .unset] [])) st8 ?_
  refine own_step (st' := T8.setTop (mkF m 25 #[.val (.int x0), .val (.int x1), .val (.int x2), .val (.int x3), .val (.int x4), .val (.ref b1), .unset, .unset, .unset, .unset, .unset] [(.ref b1)])) (fun t k => XS.aload X8.here hx rfl (hb hby at_23) rfl rfl k) ?_
  refine own_step (st' := T8.setTop (mkF m 26 #[.val (.int x0), .val (.int x1), .val (.int x2), .val (.int x3), .val (.int x4), .val (.ref b1), .unset, .unset, .unset, .unset, .unset] [(.int (2 : Int32)), (.ref b1)])) (fun t k => XS.iconst X8.here hx rfl (hb hby at_25) k) ?_
  refine own_step (st' := T8.setTop (mkF m 27 #[.val (.int x0), .val (.int x1), .val (.int x2), .val (.int x3), .val (.int x4), .val (.ref b1), .unset, .unset, .unset, .unset, .unset] [(.int x1), (.int (2 : Int32)), (.ref b1)])) (fun t k => XS.iloadN X8.here hx rfl (hb hby at_26) rfl k) ?_
  refine own_step (st' := T8.setTop (mkF m 29 #[.val (.int x0), .val (.int x1), .val (.int x2), .val (.int x3), .val (.int x4), .val (.ref b1), .unset, .unset, .unset, .unset, .unset] [(.int (2147483647 : Int32)), (.int x1), (.int (2 : Int32)), (.ref b1)])) (fun t k => X8.ldcInt hx hown (mvT hZ (hw _ (List.mem_of_getElem? (i := 1) rfl))) (g := (mkF m 27 #[.val (.int x0), .val (.int x1), .val (.int x2), .val (.int x3), .val (.int x4), .val (.ref b1), .unset, .unset, .unset, .unset, .unset] [(.int x1), (.int (2 : Int32)), (.ref b1)])) rfl (hb hby at_27) t k) ?_
  refine own_step (st' := T8.setTop (mkF m 30 #[.val (.int x0), .val (.int x1), .val (.int x2), .val (.int x3), .val (.int x4), .val (.ref b1), .unset, .unset, .unset, .unset, .unset] [(.int (x1 &&& (2147483647 : Int32))), (.int (2 : Int32)), (.ref b1)])) (fun t k => XS.iand X8.here hx rfl (hb hby at_29) rfl k) ?_
  refine own_step (st' := T8.setTop (mkF m 31 #[.val (.int x0), .val (.int x1), .val (.int x2), .val (.int x3), .val (.int x4), .val (.ref b1), .unset, .unset, .unset, .unset, .unset] [(.int (3 : Int32)), (.int (x1 &&& (2147483647 : Int32))), (.int (2 : Int32)), (.ref b1)])) (fun t k => XS.iconst X8.here hx rfl (hb hby at_30) k) ?_
  refine own_step (st' := T8.setTop (mkF m 32 #[.val (.int x0), .val (.int x1), .val (.int x2), .val (.int x3), .val (.int x4), .val (.ref b1), .unset, .unset, .unset, .unset, .unset] [(.int ((x1 &&& (2147483647 : Int32)) % (3 : Int32))), (.int (2 : Int32)), (.ref b1)])) (fun t k => iremM (g := (mkF m 31 #[.val (.int x0), .val (.int x1), .val (.int x2), .val (.int x3), .val (.int x4), .val (.ref b1), .unset, .unset, .unset, .unset, .unset] [(.int (3 : Int32)), (.int (x1 &&& (2147483647 : Int32))), (.int (2 : Int32)), (.ref b1)])) X8 hx rfl (hb hby at_31) rfl (by decide) k) ?_
  refine own_step (st' := T8.setTop (mkF m 33 #[.val (.int x0), .val (.int x1), .val (.int x2), .val (.int x3), .val (.int x4), .val (.ref b1), .unset, .unset, .unset, .unset, .unset] [(.int (1 : Int32)), (.int ((x1 &&& (2147483647 : Int32)) % (3 : Int32))), (.int (2 : Int32)), (.ref b1)])) (fun t k => XS.iconst X8.here hx rfl (hb hby at_32) k) ?_
  refine own_step (st' := T8.setTop (mkF m 34 #[.val (.int x0), .val (.int x1), .val (.int x2), .val (.int x3), .val (.int x4), .val (.ref b1), .unset, .unset, .unset, .unset, .unset] [(.int (((x1 &&& (2147483647 : Int32)) % (3 : Int32)) - (1 : Int32))), (.int (2 : Int32)), (.ref b1)])) (fun t k => XS.isub X8.here hx rfl (hb hby at_33) rfl k) ?_
  rw [← e_v2]
  obtain ⟨L13, hL13, rL13⟩ := own_bind rL9
  clear rL9
  obtain ⟨T12, h12, X12, e12, W12, V12, st12⟩ := own_stI X8 hx hZ e8 V8 (j := (2 : Int32)) (i := (2 : Int32).toNatClampNeg) (own_pt hL13).1 rfl (own_pt hL13).2.1 (g := (mkF m 34 #[.val (.int x0), .val (.int x1), .val (.int x2), .val (.int x3), .val (.int x4), .val (.ref b1), .unset, .unset, .unset, .unset, .unset] [(.int v2), (.int (2 : Int32)), (.ref b1)])) rfl rfl (hb hby at_34)
  have V12 : Arv Z h12 b1 k1 .int (6 : Int32) ((L9.map Value.int).set (2 : Int32).toNatClampNeg (.int v2)) (.int (0 : Int32)) := V12
  rw [(own_pt hL13).2.2] at V12
  have Z14 : n0 ≤ h12.size := Nat.le_trans Z10 (Keep.of_wr W12).1
  have N15 := Fr.snoc X12 N11 g_b1
  refine own_step (st' := T12.setTop (mkF m 35 #[.val (.int x0), .val (.int x1), .val (.int x2), .val (.int x3), .val (.int x4), .val (.ref b1), .unset, .unset, .unset, .unset, .unset] [])) st12 ?_
  refine own_step (st' := T12.setTop (mkF m 37 #[.val (.int x0), .val (.int x1), .val (.int x2), .val (.int x3), .val (.int x4), .val (.ref b1), .unset, .unset, .unset, .unset, .unset] [(.ref b1)])) (fun t k => XS.aload X12.here hx rfl (hb hby at_35) rfl rfl k) ?_
  refine own_step (st' := T12.setTop (mkF m 38 #[.val (.int x0), .val (.int x1), .val (.int x2), .val (.int x3), .val (.int x4), .val (.ref b1), .unset, .unset, .unset, .unset, .unset] [(.int (3 : Int32)), (.ref b1)])) (fun t k => XS.iconst X12.here hx rfl (hb hby at_37) k) ?_
  refine own_step (st' := T12.setTop (mkF m 39 #[.val (.int x0), .val (.int x1), .val (.int x2), .val (.int x3), .val (.int x4), .val (.ref b1), .unset, .unset, .unset, .unset, .unset] [(.int x2), (.int (3 : Int32)), (.ref b1)])) (fun t k => XS.iloadN X12.here hx rfl (hb hby at_38) rfl k) ?_
  refine own_step (st' := T12.setTop (mkF m 41 #[.val (.int x0), .val (.int x1), .val (.int x2), .val (.int x3), .val (.int x4), .val (.ref b1), .unset, .unset, .unset, .unset, .unset] [(.int (2147483647 : Int32)), (.int x2), (.int (3 : Int32)), (.ref b1)])) (fun t k => X12.ldcInt hx hown (mvT hZ (hw _ (List.mem_of_getElem? (i := 1) rfl))) (g := (mkF m 39 #[.val (.int x0), .val (.int x1), .val (.int x2), .val (.int x3), .val (.int x4), .val (.ref b1), .unset, .unset, .unset, .unset, .unset] [(.int x2), (.int (3 : Int32)), (.ref b1)])) rfl (hb hby at_39) t k) ?_
  refine own_step (st' := T12.setTop (mkF m 42 #[.val (.int x0), .val (.int x1), .val (.int x2), .val (.int x3), .val (.int x4), .val (.ref b1), .unset, .unset, .unset, .unset, .unset] [(.int (x2 &&& (2147483647 : Int32))), (.int (3 : Int32)), (.ref b1)])) (fun t k => XS.iand X12.here hx rfl (hb hby at_41) rfl k) ?_
  refine own_step (st' := T12.setTop (mkF m 43 #[.val (.int x0), .val (.int x1), .val (.int x2), .val (.int x3), .val (.int x4), .val (.ref b1), .unset, .unset, .unset, .unset, .unset] [(.int (4 : Int32)), (.int (x2 &&& (2147483647 : Int32))), (.int (3 : Int32)), (.ref b1)])) (fun t k => XS.iconst X12.here hx rfl (hb hby at_42) k) ?_
  refine own_step (st' := T12.setTop (mkF m 44 #[.val (.int x0), .val (.int x1), .val (.int x2), .val (.int x3), .val (.int x4), .val (.ref b1), .unset, .unset, .unset, .unset, .unset] [(.int ((x2 &&& (2147483647 : Int32)) % (4 : Int32))), (.int (3 : Int32)), (.ref b1)])) (fun t k => iremM (g := (mkF m 43 #[.val (.int x0), .val (.int x1), .val (.int x2), .val (.int x3), .val (.int x4), .val (.ref b1), .unset, .unset, .unset, .unset, .unset] [(.int (4 : Int32)), (.int (x2 &&& (2147483647 : Int32))), (.int (3 : Int32)), (.ref b1)])) X12 hx rfl (hb hby at_43) rfl (by decide) k) ?_
  refine own_step (st' := T12.setTop (mkF m 45 #[.val (.int x0), .val (.int x1), .val (.int x2), .val (.int x3), .val (.int x4), .val (.ref b1), .unset, .unset, .unset, .unset, .unset] [(.int (1 : Int32)), (.int ((x2 &&& (2147483647 : Int32)) % (4 : Int32))), (.int (3 : Int32)), (.ref b1)])) (fun t k => XS.iconst X12.here hx rfl (hb hby at_44) k) ?_
  refine own_step (st' := T12.setTop (mkF m 46 #[.val (.int x0), .val (.int x1), .val (.int x2), .val (.int x3), .val (.int x4), .val (.ref b1), .unset, .unset, .unset, .unset, .unset] [(.int (((x2 &&& (2147483647 : Int32)) % (4 : Int32)) - (1 : Int32))), (.int (3 : Int32)), (.ref b1)])) (fun t k => XS.isub X12.here hx rfl (hb hby at_45) rfl k) ?_
  rw [← e_v3]
  obtain ⟨L17, hL17, rL17⟩ := own_bind rL13
  clear rL13
  obtain ⟨T16, h16, X16, e16, W16, V16, st16⟩ := own_stI X12 hx hZ e12 V12 (j := (3 : Int32)) (i := (3 : Int32).toNatClampNeg) (own_pt hL17).1 rfl (own_pt hL17).2.1 (g := (mkF m 46 #[.val (.int x0), .val (.int x1), .val (.int x2), .val (.int x3), .val (.int x4), .val (.ref b1), .unset, .unset, .unset, .unset, .unset] [(.int v3), (.int (3 : Int32)), (.ref b1)])) rfl rfl (hb hby at_46)
  have V16 : Arv Z h16 b1 k1 .int (6 : Int32) ((L13.map Value.int).set (3 : Int32).toNatClampNeg (.int v3)) (.int (0 : Int32)) := V16
  rw [(own_pt hL17).2.2] at V16
  have Z18 : n0 ≤ h16.size := Nat.le_trans Z14 (Keep.of_wr W16).1
  have N19 := Fr.snoc X16 N15 g_b1
  refine own_step (st' := T16.setTop (mkF m 47 #[.val (.int x0), .val (.int x1), .val (.int x2), .val (.int x3), .val (.int x4), .val (.ref b1), .unset, .unset, .unset, .unset, .unset] [])) st16 ?_
  refine own_step (st' := T16.setTop (mkF m 49 #[.val (.int x0), .val (.int x1), .val (.int x2), .val (.int x3), .val (.int x4), .val (.ref b1), .unset, .unset, .unset, .unset, .unset] [(.ref b1)])) (fun t k => XS.aload X16.here hx rfl (hb hby at_47) rfl rfl k) ?_
  refine own_step (st' := T16.setTop (mkF m 50 #[.val (.int x0), .val (.int x1), .val (.int x2), .val (.int x3), .val (.int x4), .val (.ref b1), .unset, .unset, .unset, .unset, .unset] [(.int (4 : Int32)), (.ref b1)])) (fun t k => XS.iconst X16.here hx rfl (hb hby at_49) k) ?_
  refine own_step (st' := T16.setTop (mkF m 51 #[.val (.int x0), .val (.int x1), .val (.int x2), .val (.int x3), .val (.int x4), .val (.ref b1), .unset, .unset, .unset, .unset, .unset] [(.int x3), (.int (4 : Int32)), (.ref b1)])) (fun t k => XS.iloadN X16.here hx rfl (hb hby at_50) rfl k) ?_
  refine own_step (st' := T16.setTop (mkF m 53 #[.val (.int x0), .val (.int x1), .val (.int x2), .val (.int x3), .val (.int x4), .val (.ref b1), .unset, .unset, .unset, .unset, .unset] [(.int (2147483647 : Int32)), (.int x3), (.int (4 : Int32)), (.ref b1)])) (fun t k => X16.ldcInt hx hown (mvT hZ (hw _ (List.mem_of_getElem? (i := 1) rfl))) (g := (mkF m 51 #[.val (.int x0), .val (.int x1), .val (.int x2), .val (.int x3), .val (.int x4), .val (.ref b1), .unset, .unset, .unset, .unset, .unset] [(.int x3), (.int (4 : Int32)), (.ref b1)])) rfl (hb hby at_51) t k) ?_
  refine own_step (st' := T16.setTop (mkF m 54 #[.val (.int x0), .val (.int x1), .val (.int x2), .val (.int x3), .val (.int x4), .val (.ref b1), .unset, .unset, .unset, .unset, .unset] [(.int (x3 &&& (2147483647 : Int32))), (.int (4 : Int32)), (.ref b1)])) (fun t k => XS.iand X16.here hx rfl (hb hby at_53) rfl k) ?_
  refine own_step (st' := T16.setTop (mkF m 55 #[.val (.int x0), .val (.int x1), .val (.int x2), .val (.int x3), .val (.int x4), .val (.ref b1), .unset, .unset, .unset, .unset, .unset] [(.int (5 : Int32)), (.int (x3 &&& (2147483647 : Int32))), (.int (4 : Int32)), (.ref b1)])) (fun t k => XS.iconst X16.here hx rfl (hb hby at_54) k) ?_
  refine own_step (st' := T16.setTop (mkF m 56 #[.val (.int x0), .val (.int x1), .val (.int x2), .val (.int x3), .val (.int x4), .val (.ref b1), .unset, .unset, .unset, .unset, .unset] [(.int ((x3 &&& (2147483647 : Int32)) % (5 : Int32))), (.int (4 : Int32)), (.ref b1)])) (fun t k => iremM (g := (mkF m 55 #[.val (.int x0), .val (.int x1), .val (.int x2), .val (.int x3), .val (.int x4), .val (.ref b1), .unset, .unset, .unset, .unset, .unset] [(.int (5 : Int32)), (.int (x3 &&& (2147483647 : Int32))), (.int (4 : Int32)), (.ref b1)])) X16 hx rfl (hb hby at_55) rfl (by decide) k) ?_
  refine own_step (st' := T16.setTop (mkF m 57 #[.val (.int x0), .val (.int x1), .val (.int x2), .val (.int x3), .val (.int x4), .val (.ref b1), .unset, .unset, .unset, .unset, .unset] [(.int (1 : Int32)), (.int ((x3 &&& (2147483647 : Int32)) % (5 : Int32))), (.int (4 : Int32)), (.ref b1)])) (fun t k => XS.iconst X16.here hx rfl (hb hby at_56) k) ?_
  refine own_step (st' := T16.setTop (mkF m 58 #[.val (.int x0), .val (.int x1), .val (.int x2), .val (.int x3), .val (.int x4), .val (.ref b1), .unset, .unset, .unset, .unset, .unset] [(.int (((x3 &&& (2147483647 : Int32)) % (5 : Int32)) - (1 : Int32))), (.int (4 : Int32)), (.ref b1)])) (fun t k => XS.isub X16.here hx rfl (hb hby at_57) rfl k) ?_
  rw [← e_v4]
  obtain ⟨L21, hL21, rL21⟩ := own_bind rL17
  clear rL17
  obtain ⟨T20, h20, X20, e20, W20, V20, st20⟩ := own_stI X16 hx hZ e16 V16 (j := (4 : Int32)) (i := (4 : Int32).toNatClampNeg) (own_pt hL21).1 rfl (own_pt hL21).2.1 (g := (mkF m 58 #[.val (.int x0), .val (.int x1), .val (.int x2), .val (.int x3), .val (.int x4), .val (.ref b1), .unset, .unset, .unset, .unset, .unset] [(.int v4), (.int (4 : Int32)), (.ref b1)])) rfl rfl (hb hby at_58)
  have V20 : Arv Z h20 b1 k1 .int (6 : Int32) ((L17.map Value.int).set (4 : Int32).toNatClampNeg (.int v4)) (.int (0 : Int32)) := V20
  rw [(own_pt hL21).2.2] at V20
  have Z22 : n0 ≤ h20.size := Nat.le_trans Z18 (Keep.of_wr W20).1
  have N23 := Fr.snoc X20 N19 g_b1
  refine own_step (st' := T20.setTop (mkF m 59 #[.val (.int x0), .val (.int x1), .val (.int x2), .val (.int x3), .val (.int x4), .val (.ref b1), .unset, .unset, .unset, .unset, .unset] [])) st20 ?_
  refine own_step (st' := T20.setTop (mkF m 61 #[.val (.int x0), .val (.int x1), .val (.int x2), .val (.int x3), .val (.int x4), .val (.ref b1), .unset, .unset, .unset, .unset, .unset] [(.ref b1)])) (fun t k => XS.aload X20.here hx rfl (hb hby at_59) rfl rfl k) ?_
  refine own_step (st' := T20.setTop (mkF m 62 #[.val (.int x0), .val (.int x1), .val (.int x2), .val (.int x3), .val (.int x4), .val (.ref b1), .unset, .unset, .unset, .unset, .unset] [(.int (5 : Int32)), (.ref b1)])) (fun t k => XS.iconst X20.here hx rfl (hb hby at_61) k) ?_
  refine own_step (st' := T20.setTop (mkF m 64 #[.val (.int x0), .val (.int x1), .val (.int x2), .val (.int x3), .val (.int x4), .val (.ref b1), .unset, .unset, .unset, .unset, .unset] [(.int x4), (.int (5 : Int32)), (.ref b1)])) (fun t k => XS.iload X20.here hx rfl (hb hby at_62) rfl k) ?_
  refine own_step (st' := T20.setTop (mkF m 66 #[.val (.int x0), .val (.int x1), .val (.int x2), .val (.int x3), .val (.int x4), .val (.ref b1), .unset, .unset, .unset, .unset, .unset] [(.int (2147483647 : Int32)), (.int x4), (.int (5 : Int32)), (.ref b1)])) (fun t k => X20.ldcInt hx hown (mvT hZ (hw _ (List.mem_of_getElem? (i := 1) rfl))) (g := (mkF m 64 #[.val (.int x0), .val (.int x1), .val (.int x2), .val (.int x3), .val (.int x4), .val (.ref b1), .unset, .unset, .unset, .unset, .unset] [(.int x4), (.int (5 : Int32)), (.ref b1)])) rfl (hb hby at_64) t k) ?_
  refine own_step (st' := T20.setTop (mkF m 67 #[.val (.int x0), .val (.int x1), .val (.int x2), .val (.int x3), .val (.int x4), .val (.ref b1), .unset, .unset, .unset, .unset, .unset] [(.int (x4 &&& (2147483647 : Int32))), (.int (5 : Int32)), (.ref b1)])) (fun t k => XS.iand X20.here hx rfl (hb hby at_66) rfl k) ?_
  refine own_step (st' := T20.setTop (mkF m 69 #[.val (.int x0), .val (.int x1), .val (.int x2), .val (.int x3), .val (.int x4), .val (.ref b1), .unset, .unset, .unset, .unset, .unset] [(.int (6 : Int32)), (.int (x4 &&& (2147483647 : Int32))), (.int (5 : Int32)), (.ref b1)])) (fun t k => XS.bipush X20.here hx rfl (hb hby at_67) k) ?_
  refine own_step (st' := T20.setTop (mkF m 70 #[.val (.int x0), .val (.int x1), .val (.int x2), .val (.int x3), .val (.int x4), .val (.ref b1), .unset, .unset, .unset, .unset, .unset] [(.int ((x4 &&& (2147483647 : Int32)) % (6 : Int32))), (.int (5 : Int32)), (.ref b1)])) (fun t k => iremM (g := (mkF m 69 #[.val (.int x0), .val (.int x1), .val (.int x2), .val (.int x3), .val (.int x4), .val (.ref b1), .unset, .unset, .unset, .unset, .unset] [(.int (6 : Int32)), (.int (x4 &&& (2147483647 : Int32))), (.int (5 : Int32)), (.ref b1)])) X20 hx rfl (hb hby at_69) rfl (by decide) k) ?_
  refine own_step (st' := T20.setTop (mkF m 71 #[.val (.int x0), .val (.int x1), .val (.int x2), .val (.int x3), .val (.int x4), .val (.ref b1), .unset, .unset, .unset, .unset, .unset] [(.int (1 : Int32)), (.int ((x4 &&& (2147483647 : Int32)) % (6 : Int32))), (.int (5 : Int32)), (.ref b1)])) (fun t k => XS.iconst X20.here hx rfl (hb hby at_70) k) ?_
  refine own_step (st' := T20.setTop (mkF m 72 #[.val (.int x0), .val (.int x1), .val (.int x2), .val (.int x3), .val (.int x4), .val (.ref b1), .unset, .unset, .unset, .unset, .unset] [(.int (((x4 &&& (2147483647 : Int32)) % (6 : Int32)) - (1 : Int32))), (.int (5 : Int32)), (.ref b1)])) (fun t k => XS.isub X20.here hx rfl (hb hby at_71) rfl k) ?_
  rw [← e_v5]
  obtain ⟨L25, hL25, rL25⟩ := own_bind rL21
  clear rL21
  obtain ⟨T24, h24, X24, e24, W24, V24, st24⟩ := own_stI X20 hx hZ e20 V20 (j := (5 : Int32)) (i := (5 : Int32).toNatClampNeg) (own_pt hL25).1 rfl (own_pt hL25).2.1 (g := (mkF m 72 #[.val (.int x0), .val (.int x1), .val (.int x2), .val (.int x3), .val (.int x4), .val (.ref b1), .unset, .unset, .unset, .unset, .unset] [(.int v5), (.int (5 : Int32)), (.ref b1)])) rfl rfl (hb hby at_72)
  have V24 : Arv Z h24 b1 k1 .int (6 : Int32) ((L21.map Value.int).set (5 : Int32).toNatClampNeg (.int v5)) (.int (0 : Int32)) := V24
  rw [(own_pt hL25).2.2] at V24
  have Z26 : n0 ≤ h24.size := Nat.le_trans Z22 (Keep.of_wr W24).1
  have N27 := Fr.snoc X24 N23 g_b1
  refine own_step (st' := T24.setTop (mkF m 73 #[.val (.int x0), .val (.int x1), .val (.int x2), .val (.int x3), .val (.int x4), .val (.ref b1), .unset, .unset, .unset, .unset, .unset] [])) st24 ?_
  refine own_step (st' := T24.setTop (mkF m 75 #[.val (.int x0), .val (.int x1), .val (.int x2), .val (.int x3), .val (.int x4), .val (.ref b1), .unset, .unset, .unset, .unset, .unset] [(.int (6 : Int32))])) (fun t k => XS.bipush X24.here hx rfl (hb hby at_73) k) ?_
  obtain ⟨T28, h28, k28, X28, e28, E28, A28, st28⟩ := newP X24 hx hZ (hw _ (List.mem_of_getElem? (i := 0) rfl)) e24 (g := (mkF m 75 #[.val (.int x0), .val (.int x1), .val (.int x2), .val (.int x3), .val (.int x4), .val (.ref b1), .unset, .unset, .unset, .unset, .unset] [(.int (6 : Int32))])) rfl (hb hby at_75) rfl (by decide) (cap := 6) (by decide) (by decide) (by decide) (by decide)
  obtain ⟨b28, g28⟩ : ∃ z, z = h24.size := ⟨_, rfl⟩
  rw [← g28] at A28 st28
  have ne29 : b1 ≠ b28 := Nat.ne_of_lt (Nat.lt_of_lt_of_le V24.lt (Nat.le_of_eq g28.symm))
  have g_b28 : n0 ≤ b28 := Nat.le_trans Z26 (Nat.le_of_eq g28.symm)
  have f30 := V24.ext E28
  have Z31 : n0 ≤ h28.size := Nat.le_trans Z26 E28.1
  have V28 : Arv Z h28 b28 k28 .int (6 : Int32) [(.int (0 : Int32)), (.int (0 : Int32)), (.int (0 : Int32)), (.int (0 : Int32)), (.int (0 : Int32)), (.int (0 : Int32))] (.int (0 : Int32)) := (Arv.new A28 (by decide)).pad (pad_rep [] (.int (0 : Int32)) 6)
  refine own_step (st' := T28.setTop (mkF m 77 #[.val (.int x0), .val (.int x1), .val (.int x2), .val (.int x3), .val (.int x4), .val (.ref b1), .unset, .unset, .unset, .unset, .unset] [(.ref b28)])) st28 ?_
  have vp32 : Arv Z h28 b28 k28 .int (6 : Int32) (([0, 0, 0, 0, 0, 0] : List Int32).map Value.int) (.int (0 : Int32)) := V28
  refine own_step (st' := T28.setTop (mkF m 79 #[.val (.int x0), .val (.int x1), .val (.int x2), .val (.int x3), .val (.int x4), .val (.ref b1), .val (.ref b28), .unset, .unset, .unset, .unset] [])) (fun t k => XS.astore X28.here hx rfl (hb hby at_77) rfl rfl (l' := #[.val (.int x0), .val (.int x1), .val (.int x2), .val (.int x3), .val (.int x4), .val (.ref b1), .val (.ref b28), .unset, .unset, .unset, .unset]) rfl k) ?_
  refine own_step (st' := T28.setTop (mkF m 81 #[.val (.int x0), .val (.int x1), .val (.int x2), .val (.int x3), .val (.int x4), .val (.ref b1), .val (.ref b28), .unset, .unset, .unset, .unset] [(.ref b28)])) (fun t k => XS.aload X28.here hx rfl (hb hby at_79) rfl rfl k) ?_
  refine own_step (st' := T28.setTop (mkF m 82 #[.val (.int x0), .val (.int x1), .val (.int x2), .val (.int x3), .val (.int x4), .val (.ref b1), .val (.ref b28), .unset, .unset, .unset, .unset] [(.int (0 : Int32)), (.ref b28)])) (fun t k => XS.iconst X28.here hx rfl (hb hby at_81) k) ?_
  refine own_step (st' := T28.setTop (mkF m 84 #[.val (.int x0), .val (.int x1), .val (.int x2), .val (.int x3), .val (.int x4), .val (.ref b1), .val (.ref b28), .unset, .unset, .unset, .unset] [(.ref b1), (.int (0 : Int32)), (.ref b28)])) (fun t k => XS.aload X28.here hx rfl (hb hby at_82) rfl rfl k) ?_
  refine own_step (st' := T28.setTop (mkF m 85 #[.val (.int x0), .val (.int x1), .val (.int x2), .val (.int x3), .val (.int x4), .val (.ref b1), .val (.ref b28), .unset, .unset, .unset, .unset] [(.int (0 : Int32)), (.ref b1), (.int (0 : Int32)), (.ref b28)])) (fun t k => XS.iconst X28.here hx rfl (hb hby at_84) k) ?_
  obtain ⟨z33, hz33, rz33⟩ := own_bind rL25
  clear rL25
  refine own_step (st' := T28.setTop (mkF m 86 #[.val (.int x0), .val (.int x1), .val (.int x2), .val (.int x3), .val (.int x4), .val (.ref b1), .val (.ref b28), .unset, .unset, .unset, .unset] [(.int z33), (.int (0 : Int32)), (.ref b28)])) (fun t k => own_ldI X28 hx hZ e28 f30 (j := (0 : Int32)) (v := (.int z33)) (own_gd hz33).1 (own_gd hz33).2 (g := (mkF m 85 #[.val (.int x0), .val (.int x1), .val (.int x2), .val (.int x3), .val (.int x4), .val (.ref b1), .val (.ref b28), .unset, .unset, .unset, .unset] [(.int (0 : Int32)), (.ref b1), (.int (0 : Int32)), (.ref b28)])) rfl rfl (hb hby at_85) t k) ?_
  obtain ⟨L35, hL35, rL35⟩ := own_bind rz33
  clear rz33
  obtain ⟨T34, h34, X34, e34, W34, V34, st34⟩ := own_stI X28 hx hZ e28 vp32 (j := (0 : Int32)) (i := (0 : Int32).toNatClampNeg) (own_pt hL35).1 rfl (own_pt hL35).2.1 (g := (mkF m 86 #[.val (.int x0), .val (.int x1), .val (.int x2), .val (.int x3), .val (.int x4), .val (.ref b1), .val (.ref b28), .unset, .unset, .unset, .unset] [(.int z33), (.int (0 : Int32)), (.ref b28)])) rfl rfl (hb hby at_86)
  have V34 : Arv Z h34 b28 k28 .int (6 : Int32) ((([0, 0, 0, 0, 0, 0] : List Int32).map Value.int).set (0 : Int32).toNatClampNeg (.int z33)) (.int (0 : Int32)) := V34
  rw [(own_pt hL35).2.2] at V34
  have f36 := f30.other W34 ne29
  have Z37 : n0 ≤ h34.size := Nat.le_trans Z31 (Keep.of_wr W34).1
  have N38 := Fr.snoc X34 N27 g_b28
  refine own_step (st' := T34.setTop (mkF m 87 #[.val (.int x0), .val (.int x1), .val (.int x2), .val (.int x3), .val (.int x4), .val (.ref b1), .val (.ref b28), .unset, .unset, .unset, .unset] [])) st34 ?_
  refine own_step (st' := T34.setTop (mkF m 89 #[.val (.int x0), .val (.int x1), .val (.int x2), .val (.int x3), .val (.int x4), .val (.ref b1), .val (.ref b28), .unset, .unset, .unset, .unset] [(.ref b28)])) (fun t k => XS.aload X34.here hx rfl (hb hby at_87) rfl rfl k) ?_
  refine own_step (st' := T34.setTop (mkF m 90 #[.val (.int x0), .val (.int x1), .val (.int x2), .val (.int x3), .val (.int x4), .val (.ref b1), .val (.ref b28), .unset, .unset, .unset, .unset] [(.int (1 : Int32)), (.ref b28)])) (fun t k => XS.iconst X34.here hx rfl (hb hby at_89) k) ?_
  refine own_step (st' := T34.setTop (mkF m 92 #[.val (.int x0), .val (.int x1), .val (.int x2), .val (.int x3), .val (.int x4), .val (.ref b1), .val (.ref b28), .unset, .unset, .unset, .unset] [(.ref b1), (.int (1 : Int32)), (.ref b28)])) (fun t k => XS.aload X34.here hx rfl (hb hby at_90) rfl rfl k) ?_
  refine own_step (st' := T34.setTop (mkF m 93 #[.val (.int x0), .val (.int x1), .val (.int x2), .val (.int x3), .val (.int x4), .val (.ref b1), .val (.ref b28), .unset, .unset, .unset, .unset] [(.int (1 : Int32)), (.ref b1), (.int (1 : Int32)), (.ref b28)])) (fun t k => XS.iconst X34.here hx rfl (hb hby at_92) k) ?_
  obtain ⟨z39, hz39, rz39⟩ := own_bind rL35
  clear rL35
  refine own_step (st' := T34.setTop (mkF m 94 #[.val (.int x0), .val (.int x1), .val (.int x2), .val (.int x3), .val (.int x4), .val (.ref b1), .val (.ref b28), .unset, .unset, .unset, .unset] [(.int z39), (.int (1 : Int32)), (.ref b28)])) (fun t k => own_ldI X34 hx hZ e34 f36 (j := (1 : Int32)) (v := (.int z39)) (own_gd hz39).1 (own_gd hz39).2 (g := (mkF m 93 #[.val (.int x0), .val (.int x1), .val (.int x2), .val (.int x3), .val (.int x4), .val (.ref b1), .val (.ref b28), .unset, .unset, .unset, .unset] [(.int (1 : Int32)), (.ref b1), (.int (1 : Int32)), (.ref b28)])) rfl rfl (hb hby at_93) t k) ?_
  obtain ⟨L41, hL41, rL41⟩ := own_bind rz39
  clear rz39
  obtain ⟨T40, h40, X40, e40, W40, V40, st40⟩ := own_stI X34 hx hZ e34 V34 (j := (1 : Int32)) (i := (1 : Int32).toNatClampNeg) (own_pt hL41).1 rfl (own_pt hL41).2.1 (g := (mkF m 94 #[.val (.int x0), .val (.int x1), .val (.int x2), .val (.int x3), .val (.int x4), .val (.ref b1), .val (.ref b28), .unset, .unset, .unset, .unset] [(.int z39), (.int (1 : Int32)), (.ref b28)])) rfl rfl (hb hby at_94)
  have V40 : Arv Z h40 b28 k28 .int (6 : Int32) ((L35.map Value.int).set (1 : Int32).toNatClampNeg (.int z39)) (.int (0 : Int32)) := V40
  rw [(own_pt hL41).2.2] at V40
  have f42 := f36.other W40 ne29
  have Z43 : n0 ≤ h40.size := Nat.le_trans Z37 (Keep.of_wr W40).1
  have N44 := Fr.snoc X40 N38 g_b28
  refine own_step (st' := T40.setTop (mkF m 95 #[.val (.int x0), .val (.int x1), .val (.int x2), .val (.int x3), .val (.int x4), .val (.ref b1), .val (.ref b28), .unset, .unset, .unset, .unset] [])) st40 ?_
  refine own_step (st' := T40.setTop (mkF m 97 #[.val (.int x0), .val (.int x1), .val (.int x2), .val (.int x3), .val (.int x4), .val (.ref b1), .val (.ref b28), .unset, .unset, .unset, .unset] [(.ref b28)])) (fun t k => XS.aload X40.here hx rfl (hb hby at_95) rfl rfl k) ?_
  refine own_step (st' := T40.setTop (mkF m 98 #[.val (.int x0), .val (.int x1), .val (.int x2), .val (.int x3), .val (.int x4), .val (.ref b1), .val (.ref b28), .unset, .unset, .unset, .unset] [(.int (2 : Int32)), (.ref b28)])) (fun t k => XS.iconst X40.here hx rfl (hb hby at_97) k) ?_
  refine own_step (st' := T40.setTop (mkF m 100 #[.val (.int x0), .val (.int x1), .val (.int x2), .val (.int x3), .val (.int x4), .val (.ref b1), .val (.ref b28), .unset, .unset, .unset, .unset] [(.ref b1), (.int (2 : Int32)), (.ref b28)])) (fun t k => XS.aload X40.here hx rfl (hb hby at_98) rfl rfl k) ?_
  refine own_step (st' := T40.setTop (mkF m 101 #[.val (.int x0), .val (.int x1), .val (.int x2), .val (.int x3), .val (.int x4), .val (.ref b1), .val (.ref b28), .unset, .unset, .unset, .unset] [(.int (2 : Int32)), (.ref b1), (.int (2 : Int32)), (.ref b28)])) (fun t k => XS.iconst X40.here hx rfl (hb hby at_100) k) ?_
  obtain ⟨z45, hz45, rz45⟩ := own_bind rL41
  clear rL41
  refine own_step (st' := T40.setTop (mkF m 102 #[.val (.int x0), .val (.int x1), .val (.int x2), .val (.int x3), .val (.int x4), .val (.ref b1), .val (.ref b28), .unset, .unset, .unset, .unset] [(.int z45), (.int (2 : Int32)), (.ref b28)])) (fun t k => own_ldI X40 hx hZ e40 f42 (j := (2 : Int32)) (v := (.int z45)) (own_gd hz45).1 (own_gd hz45).2 (g := (mkF m 101 #[.val (.int x0), .val (.int x1), .val (.int x2), .val (.int x3), .val (.int x4), .val (.ref b1), .val (.ref b28), .unset, .unset, .unset, .unset] [(.int (2 : Int32)), (.ref b1), (.int (2 : Int32)), (.ref b28)])) rfl rfl (hb hby at_101) t k) ?_
  obtain ⟨L47, hL47, rL47⟩ := own_bind rz45
  clear rz45
  obtain ⟨T46, h46, X46, e46, W46, V46, st46⟩ := own_stI X40 hx hZ e40 V40 (j := (2 : Int32)) (i := (2 : Int32).toNatClampNeg) (own_pt hL47).1 rfl (own_pt hL47).2.1 (g := (mkF m 102 #[.val (.int x0), .val (.int x1), .val (.int x2), .val (.int x3), .val (.int x4), .val (.ref b1), .val (.ref b28), .unset, .unset, .unset, .unset] [(.int z45), (.int (2 : Int32)), (.ref b28)])) rfl rfl (hb hby at_102)
  have V46 : Arv Z h46 b28 k28 .int (6 : Int32) ((L41.map Value.int).set (2 : Int32).toNatClampNeg (.int z45)) (.int (0 : Int32)) := V46
  rw [(own_pt hL47).2.2] at V46
  have f48 := f42.other W46 ne29
  have Z49 : n0 ≤ h46.size := Nat.le_trans Z43 (Keep.of_wr W46).1
  have N50 := Fr.snoc X46 N44 g_b28
  refine own_step (st' := T46.setTop (mkF m 103 #[.val (.int x0), .val (.int x1), .val (.int x2), .val (.int x3), .val (.int x4), .val (.ref b1), .val (.ref b28), .unset, .unset, .unset, .unset] [])) st46 ?_
  refine own_step (st' := T46.setTop (mkF m 105 #[.val (.int x0), .val (.int x1), .val (.int x2), .val (.int x3), .val (.int x4), .val (.ref b1), .val (.ref b28), .unset, .unset, .unset, .unset] [(.ref b28)])) (fun t k => XS.aload X46.here hx rfl (hb hby at_103) rfl rfl k) ?_
  refine own_step (st' := T46.setTop (mkF m 106 #[.val (.int x0), .val (.int x1), .val (.int x2), .val (.int x3), .val (.int x4), .val (.ref b1), .val (.ref b28), .unset, .unset, .unset, .unset] [(.int (3 : Int32)), (.ref b28)])) (fun t k => XS.iconst X46.here hx rfl (hb hby at_105) k) ?_
  refine own_step (st' := T46.setTop (mkF m 108 #[.val (.int x0), .val (.int x1), .val (.int x2), .val (.int x3), .val (.int x4), .val (.ref b1), .val (.ref b28), .unset, .unset, .unset, .unset] [(.ref b1), (.int (3 : Int32)), (.ref b28)])) (fun t k => XS.aload X46.here hx rfl (hb hby at_106) rfl rfl k) ?_
  refine own_step (st' := T46.setTop (mkF m 109 #[.val (.int x0), .val (.int x1), .val (.int x2), .val (.int x3), .val (.int x4), .val (.ref b1), .val (.ref b28), .unset, .unset, .unset, .unset] [(.int (3 : Int32)), (.ref b1), (.int (3 : Int32)), (.ref b28)])) (fun t k => XS.iconst X46.here hx rfl (hb hby at_108) k) ?_
  obtain ⟨z51, hz51, rz51⟩ := own_bind rL47
  clear rL47
  refine own_step (st' := T46.setTop (mkF m 110 #[.val (.int x0), .val (.int x1), .val (.int x2), .val (.int x3), .val (.int x4), .val (.ref b1), .val (.ref b28), .unset, .unset, .unset, .unset] [(.int z51), (.int (3 : Int32)), (.ref b28)])) (fun t k => own_ldI X46 hx hZ e46 f48 (j := (3 : Int32)) (v := (.int z51)) (own_gd hz51).1 (own_gd hz51).2 (g := (mkF m 109 #[.val (.int x0), .val (.int x1), .val (.int x2), .val (.int x3), .val (.int x4), .val (.ref b1), .val (.ref b28), .unset, .unset, .unset, .unset] [(.int (3 : Int32)), (.ref b1), (.int (3 : Int32)), (.ref b28)])) rfl rfl (hb hby at_109) t k) ?_
  obtain ⟨L53, hL53, rL53⟩ := own_bind rz51
  clear rz51
  obtain ⟨T52, h52, X52, e52, W52, V52, st52⟩ := own_stI X46 hx hZ e46 V46 (j := (3 : Int32)) (i := (3 : Int32).toNatClampNeg) (own_pt hL53).1 rfl (own_pt hL53).2.1 (g := (mkF m 110 #[.val (.int x0), .val (.int x1), .val (.int x2), .val (.int x3), .val (.int x4), .val (.ref b1), .val (.ref b28), .unset, .unset, .unset, .unset] [(.int z51), (.int (3 : Int32)), (.ref b28)])) rfl rfl (hb hby at_110)
  have V52 : Arv Z h52 b28 k28 .int (6 : Int32) ((L47.map Value.int).set (3 : Int32).toNatClampNeg (.int z51)) (.int (0 : Int32)) := V52
  rw [(own_pt hL53).2.2] at V52
  have f54 := f48.other W52 ne29
  have Z55 : n0 ≤ h52.size := Nat.le_trans Z49 (Keep.of_wr W52).1
  have N56 := Fr.snoc X52 N50 g_b28
  refine own_step (st' := T52.setTop (mkF m 111 #[.val (.int x0), .val (.int x1), .val (.int x2), .val (.int x3), .val (.int x4), .val (.ref b1), .val (.ref b28), .unset, .unset, .unset, .unset] [])) st52 ?_
  refine own_step (st' := T52.setTop (mkF m 113 #[.val (.int x0), .val (.int x1), .val (.int x2), .val (.int x3), .val (.int x4), .val (.ref b1), .val (.ref b28), .unset, .unset, .unset, .unset] [(.ref b28)])) (fun t k => XS.aload X52.here hx rfl (hb hby at_111) rfl rfl k) ?_
  refine own_step (st' := T52.setTop (mkF m 114 #[.val (.int x0), .val (.int x1), .val (.int x2), .val (.int x3), .val (.int x4), .val (.ref b1), .val (.ref b28), .unset, .unset, .unset, .unset] [(.int (4 : Int32)), (.ref b28)])) (fun t k => XS.iconst X52.here hx rfl (hb hby at_113) k) ?_
  refine own_step (st' := T52.setTop (mkF m 116 #[.val (.int x0), .val (.int x1), .val (.int x2), .val (.int x3), .val (.int x4), .val (.ref b1), .val (.ref b28), .unset, .unset, .unset, .unset] [(.ref b1), (.int (4 : Int32)), (.ref b28)])) (fun t k => XS.aload X52.here hx rfl (hb hby at_114) rfl rfl k) ?_
  refine own_step (st' := T52.setTop (mkF m 117 #[.val (.int x0), .val (.int x1), .val (.int x2), .val (.int x3), .val (.int x4), .val (.ref b1), .val (.ref b28), .unset, .unset, .unset, .unset] [(.int (4 : Int32)), (.ref b1), (.int (4 : Int32)), (.ref b28)])) (fun t k => XS.iconst X52.here hx rfl (hb hby at_116) k) ?_
  obtain ⟨z57, hz57, rz57⟩ := own_bind rL53
  clear rL53
  refine own_step (st' := T52.setTop (mkF m 118 #[.val (.int x0), .val (.int x1), .val (.int x2), .val (.int x3), .val (.int x4), .val (.ref b1), .val (.ref b28), .unset, .unset, .unset, .unset] [(.int z57), (.int (4 : Int32)), (.ref b28)])) (fun t k => own_ldI X52 hx hZ e52 f54 (j := (4 : Int32)) (v := (.int z57)) (own_gd hz57).1 (own_gd hz57).2 (g := (mkF m 117 #[.val (.int x0), .val (.int x1), .val (.int x2), .val (.int x3), .val (.int x4), .val (.ref b1), .val (.ref b28), .unset, .unset, .unset, .unset] [(.int (4 : Int32)), (.ref b1), (.int (4 : Int32)), (.ref b28)])) rfl rfl (hb hby at_117) t k) ?_
  obtain ⟨L59, hL59, rL59⟩ := own_bind rz57
  clear rz57
  obtain ⟨T58, h58, X58, e58, W58, V58, st58⟩ := own_stI X52 hx hZ e52 V52 (j := (4 : Int32)) (i := (4 : Int32).toNatClampNeg) (own_pt hL59).1 rfl (own_pt hL59).2.1 (g := (mkF m 118 #[.val (.int x0), .val (.int x1), .val (.int x2), .val (.int x3), .val (.int x4), .val (.ref b1), .val (.ref b28), .unset, .unset, .unset, .unset] [(.int z57), (.int (4 : Int32)), (.ref b28)])) rfl rfl (hb hby at_118)
  have V58 : Arv Z h58 b28 k28 .int (6 : Int32) ((L53.map Value.int).set (4 : Int32).toNatClampNeg (.int z57)) (.int (0 : Int32)) := V58
  rw [(own_pt hL59).2.2] at V58
  have f60 := f54.other W58 ne29
  have Z61 : n0 ≤ h58.size := Nat.le_trans Z55 (Keep.of_wr W58).1
  have N62 := Fr.snoc X58 N56 g_b28
  refine own_step (st' := T58.setTop (mkF m 119 #[.val (.int x0), .val (.int x1), .val (.int x2), .val (.int x3), .val (.int x4), .val (.ref b1), .val (.ref b28), .unset, .unset, .unset, .unset] [])) st58 ?_
  refine own_step (st' := T58.setTop (mkF m 121 #[.val (.int x0), .val (.int x1), .val (.int x2), .val (.int x3), .val (.int x4), .val (.ref b1), .val (.ref b28), .unset, .unset, .unset, .unset] [(.ref b28)])) (fun t k => XS.aload X58.here hx rfl (hb hby at_119) rfl rfl k) ?_
  refine own_step (st' := T58.setTop (mkF m 122 #[.val (.int x0), .val (.int x1), .val (.int x2), .val (.int x3), .val (.int x4), .val (.ref b1), .val (.ref b28), .unset, .unset, .unset, .unset] [(.int (5 : Int32)), (.ref b28)])) (fun t k => XS.iconst X58.here hx rfl (hb hby at_121) k) ?_
  refine own_step (st' := T58.setTop (mkF m 124 #[.val (.int x0), .val (.int x1), .val (.int x2), .val (.int x3), .val (.int x4), .val (.ref b1), .val (.ref b28), .unset, .unset, .unset, .unset] [(.ref b1), (.int (5 : Int32)), (.ref b28)])) (fun t k => XS.aload X58.here hx rfl (hb hby at_122) rfl rfl k) ?_
  refine own_step (st' := T58.setTop (mkF m 125 #[.val (.int x0), .val (.int x1), .val (.int x2), .val (.int x3), .val (.int x4), .val (.ref b1), .val (.ref b28), .unset, .unset, .unset, .unset] [(.int (5 : Int32)), (.ref b1), (.int (5 : Int32)), (.ref b28)])) (fun t k => XS.iconst X58.here hx rfl (hb hby at_124) k) ?_
  obtain ⟨z63, hz63, rz63⟩ := own_bind rL59
  clear rL59
  refine own_step (st' := T58.setTop (mkF m 126 #[.val (.int x0), .val (.int x1), .val (.int x2), .val (.int x3), .val (.int x4), .val (.ref b1), .val (.ref b28), .unset, .unset, .unset, .unset] [(.int z63), (.int (5 : Int32)), (.ref b28)])) (fun t k => own_ldI X58 hx hZ e58 f60 (j := (5 : Int32)) (v := (.int z63)) (own_gd hz63).1 (own_gd hz63).2 (g := (mkF m 125 #[.val (.int x0), .val (.int x1), .val (.int x2), .val (.int x3), .val (.int x4), .val (.ref b1), .val (.ref b28), .unset, .unset, .unset, .unset] [(.int (5 : Int32)), (.ref b1), (.int (5 : Int32)), (.ref b28)])) rfl rfl (hb hby at_125) t k) ?_
  obtain ⟨L65, hL65, rL65⟩ := own_bind rz63
  clear rz63
  obtain ⟨T64, h64, X64, e64, W64, V64, st64⟩ := own_stI X58 hx hZ e58 V58 (j := (5 : Int32)) (i := (5 : Int32).toNatClampNeg) (own_pt hL65).1 rfl (own_pt hL65).2.1 (g := (mkF m 126 #[.val (.int x0), .val (.int x1), .val (.int x2), .val (.int x3), .val (.int x4), .val (.ref b1), .val (.ref b28), .unset, .unset, .unset, .unset] [(.int z63), (.int (5 : Int32)), (.ref b28)])) rfl rfl (hb hby at_126)
  have V64 : Arv Z h64 b28 k28 .int (6 : Int32) ((L59.map Value.int).set (5 : Int32).toNatClampNeg (.int z63)) (.int (0 : Int32)) := V64
  rw [(own_pt hL65).2.2] at V64
  have f66 := f60.other W64 ne29
  have Z67 : n0 ≤ h64.size := Nat.le_trans Z61 (Keep.of_wr W64).1
  have N68 := Fr.snoc X64 N62 g_b28
  refine own_step (st' := T64.setTop (mkF m 127 #[.val (.int x0), .val (.int x1), .val (.int x2), .val (.int x3), .val (.int x4), .val (.ref b1), .val (.ref b28), .unset, .unset, .unset, .unset] [])) st64 ?_
  refine own_step (st' := T64.setTop (mkF m 129 #[.val (.int x0), .val (.int x1), .val (.int x2), .val (.int x3), .val (.int x4), .val (.ref b1), .val (.ref b28), .unset, .unset, .unset, .unset] [(.int (6 : Int32))])) (fun t k => XS.bipush X64.here hx rfl (hb hby at_127) k) ?_
  obtain ⟨T69, h69, k69, X69, e69, E69, A69, st69⟩ := newP X64 hx hZ (hw _ (List.mem_of_getElem? (i := 0) rfl)) e64 (g := (mkF m 129 #[.val (.int x0), .val (.int x1), .val (.int x2), .val (.int x3), .val (.int x4), .val (.ref b1), .val (.ref b28), .unset, .unset, .unset, .unset] [(.int (6 : Int32))])) rfl (hb hby at_129) rfl (by decide) (cap := 6) (by decide) (by decide) (by decide) (by decide)
  obtain ⟨b69, g69⟩ : ∃ z, z = h64.size := ⟨_, rfl⟩
  rw [← g69] at A69 st69
  have ne70 : b1 ≠ b69 := Nat.ne_of_lt (Nat.lt_of_lt_of_le f66.lt (Nat.le_of_eq g69.symm))
  have ne71 : b28 ≠ b69 := Nat.ne_of_lt (Nat.lt_of_lt_of_le V64.lt (Nat.le_of_eq g69.symm))
  have g_b69 : n0 ≤ b69 := Nat.le_trans Z67 (Nat.le_of_eq g69.symm)
  have f72 := f66.ext E69
  have f73 := V64.ext E69
  have Z74 : n0 ≤ h69.size := Nat.le_trans Z67 E69.1
  have V69 : Arv Z h69 b69 k69 .int (6 : Int32) [(.int (0 : Int32)), (.int (0 : Int32)), (.int (0 : Int32)), (.int (0 : Int32)), (.int (0 : Int32)), (.int (0 : Int32))] (.int (0 : Int32)) := (Arv.new A69 (by decide)).pad (pad_rep [] (.int (0 : Int32)) 6)
  refine own_step (st' := T69.setTop (mkF m 131 #[.val (.int x0), .val (.int x1), .val (.int x2), .val (.int x3), .val (.int x4), .val (.ref b1), .val (.ref b28), .unset, .unset, .unset, .unset] [(.ref b69)])) st69 ?_
  have vp75 : Arv Z h69 b69 k69 .int (6 : Int32) (([0, 0, 0, 0, 0, 0] : List Int32).map Value.int) (.int (0 : Int32)) := V69
  refine own_step (st' := T69.setTop (mkF m 133 #[.val (.int x0), .val (.int x1), .val (.int x2), .val (.int x3), .val (.int x4), .val (.ref b1), .val (.ref b28), .val (.ref b69), .unset, .unset, .unset] [])) (fun t k => XS.astore X69.here hx rfl (hb hby at_131) rfl rfl (l' := #[.val (.int x0), .val (.int x1), .val (.int x2), .val (.int x3), .val (.int x4), .val (.ref b1), .val (.ref b28), .val (.ref b69), .unset, .unset, .unset]) rfl k) ?_
  refine own_step (st' := T69.setTop (mkF m 135 #[.val (.int x0), .val (.int x1), .val (.int x2), .val (.int x3), .val (.int x4), .val (.ref b1), .val (.ref b28), .val (.ref b69), .unset, .unset, .unset] [(.ref b69)])) (fun t k => XS.aload X69.here hx rfl (hb hby at_133) rfl rfl k) ?_
  refine own_step (st' := T69.setTop (mkF m 136 #[.val (.int x0), .val (.int x1), .val (.int x2), .val (.int x3), .val (.int x4), .val (.ref b1), .val (.ref b28), .val (.ref b69), .unset, .unset, .unset] [(.int (4 : Int32)), (.ref b69)])) (fun t k => XS.iconst X69.here hx rfl (hb hby at_135) k) ?_
  refine own_step (st' := T69.setTop (mkF m 138 #[.val (.int x0), .val (.int x1), .val (.int x2), .val (.int x3), .val (.int x4), .val (.ref b1), .val (.ref b28), .val (.ref b69), .unset, .unset, .unset] [(.ref b1), (.int (4 : Int32)), (.ref b69)])) (fun t k => XS.aload X69.here hx rfl (hb hby at_136) rfl rfl k) ?_
  refine own_step (st' := T69.setTop (mkF m 140 #[.val (.int x0), .val (.int x1), .val (.int x2), .val (.int x3), .val (.int x4), .val (.ref b1), .val (.ref b28), .val (.ref b69), .unset, .unset, .unset] [(.ref b69), (.ref b1), (.int (4 : Int32)), (.ref b69)])) (fun t k => XS.aload X69.here hx rfl (hb hby at_138) rfl rfl k) ?_
  refine own_step (st' := T69.setTop (mkF m 141 #[.val (.int x0), .val (.int x1), .val (.int x2), .val (.int x3), .val (.int x4), .val (.ref b1), .val (.ref b28), .val (.ref b69), .unset, .unset, .unset] [(.int (4 : Int32)), (.ref b69), (.ref b1), (.int (4 : Int32)), (.ref b69)])) (fun t k => XS.iconst X69.here hx rfl (hb hby at_140) k) ?_
  obtain ⟨o76, ho76, ro76⟩ := own_bind rL65
  clear rL65
  obtain ⟨_, _, ⟨T77, L77, k77, n77⟩, -, X77, ⟨Lc77, hQ77, l77, y77, z77⟩, st77⟩ := Jvm.LawKit.callS X69 hx (y := (⟨"com/example/rumorwire/rumorwire/TreeSolverInformedInPinLaw", "timeOf", "([I[II)I"⟩ : MethodName)) hown (mvT hZ (hw _ (List.mem_of_getElem? (i := 2) rfl))) (mvT hZ (hw _ (List.mem_of_getElem? (i := 3) rfl))) (mvT hZ (hw _ (List.mem_of_getElem? (i := 4) rfl))) (mvT hZ (hw _ (List.mem_of_getElem? (i := 5) rfl))) (by decide) (backOf (W := 2) (rm1 l Z a0 hw [] b1 b69 (4 : Int32) k1 k69 L25 ([0, 0, 0, 0, 0, 0] : List Int32) o76 h69 n0 Z74 f72 vp75 ho76) hZ (hw _ (List.mem_of_getElem? (i := 5) rfl)) (hw _ (List.mem_of_getElem? (i := 4) rfl)) (by decide) (by decide)) (g := (mkF m 141 #[.val (.int x0), .val (.int x1), .val (.int x2), .val (.int x3), .val (.int x4), .val (.ref b1), .val (.ref b28), .val (.ref b69), .unset, .unset, .unset] [(.int (4 : Int32)), (.ref b69), (.ref b1), (.int (4 : Int32)), (.ref b69)])) rfl (by rw [hml]; rfl) (argsL := [(.ref b1), (.ref b69), (.int (4 : Int32))]) (rest := [(.int (4 : Int32)), (.ref b69)]) (lenOf pd_0 rfl) rfl (by show 2 * 0 + _ ≤ _; exact Nat.le_of_eq rfl) (hb hby at_141) (fun _ _ => ⟨rfl, e69, (by decide : 3 + 0 ≤ _), (by decide : 18 + 0 ≤ _)⟩)
  dsimp only [Pt.U, Pt.locs, Pt.cells, Pt.slots] at X77 l77 y77 z77 st77 hQ77
  subst y77 z77
  obtain ⟨rfl, N77q, e77⟩ := hQ77
  have N77 := Fr.app N68 N77q
  rw [← l77] at N77
  clear l77
  refine own_step (st' := T77.setTop (mkF m 144 #[.val (.int x0), .val (.int x1), .val (.int x2), .val (.int x3), .val (.int x4), .val (.ref b1), .val (.ref b28), .val (.ref b69), .unset, .unset, .unset] [(.int o76), (.int (4 : Int32)), (.ref b69)])) st77 ?_
  obtain ⟨L79, hL79, rL79⟩ := own_bind ro76
  clear ro76
  obtain ⟨T78, h78, X78, e78, W78, V78, st78⟩ := own_stI X77 hx hZ e77 vp75 (j := (4 : Int32)) (i := (4 : Int32).toNatClampNeg) (own_pt hL79).1 rfl (own_pt hL79).2.1 (g := (mkF m 144 #[.val (.int x0), .val (.int x1), .val (.int x2), .val (.int x3), .val (.int x4), .val (.ref b1), .val (.ref b28), .val (.ref b69), .unset, .unset, .unset] [(.int o76), (.int (4 : Int32)), (.ref b69)])) rfl rfl (hb hby at_144)
  have V78 : Arv Z h78 b69 k69 .int (6 : Int32) ((([0, 0, 0, 0, 0, 0] : List Int32).map Value.int).set (4 : Int32).toNatClampNeg (.int o76)) (.int (0 : Int32)) := V78
  rw [(own_pt hL79).2.2] at V78
  have f80 := f72.other W78 ne70
  have f81 := f73.other W78 ne71
  have Z82 : n0 ≤ h78.size := Nat.le_trans Z74 (Keep.of_wr W78).1
  have N83 := Fr.snoc X78 N77 g_b69
  refine own_step (st' := T78.setTop (mkF m 145 #[.val (.int x0), .val (.int x1), .val (.int x2), .val (.int x3), .val (.int x4), .val (.ref b1), .val (.ref b28), .val (.ref b69), .unset, .unset, .unset] [])) st78 ?_
  refine own_step (st' := T78.setTop (mkF m 147 #[.val (.int x0), .val (.int x1), .val (.int x2), .val (.int x3), .val (.int x4), .val (.ref b1), .val (.ref b28), .val (.ref b69), .unset, .unset, .unset] [(.ref b69)])) (fun t k => XS.aload X78.here hx rfl (hb hby at_145) rfl rfl k) ?_
  refine own_step (st' := T78.setTop (mkF m 148 #[.val (.int x0), .val (.int x1), .val (.int x2), .val (.int x3), .val (.int x4), .val (.ref b1), .val (.ref b28), .val (.ref b69), .unset, .unset, .unset] [(.int (3 : Int32)), (.ref b69)])) (fun t k => XS.iconst X78.here hx rfl (hb hby at_147) k) ?_
  refine own_step (st' := T78.setTop (mkF m 150 #[.val (.int x0), .val (.int x1), .val (.int x2), .val (.int x3), .val (.int x4), .val (.ref b1), .val (.ref b28), .val (.ref b69), .unset, .unset, .unset] [(.ref b1), (.int (3 : Int32)), (.ref b69)])) (fun t k => XS.aload X78.here hx rfl (hb hby at_148) rfl rfl k) ?_
  refine own_step (st' := T78.setTop (mkF m 152 #[.val (.int x0), .val (.int x1), .val (.int x2), .val (.int x3), .val (.int x4), .val (.ref b1), .val (.ref b28), .val (.ref b69), .unset, .unset, .unset] [(.ref b69), (.ref b1), (.int (3 : Int32)), (.ref b69)])) (fun t k => XS.aload X78.here hx rfl (hb hby at_150) rfl rfl k) ?_
  refine own_step (st' := T78.setTop (mkF m 153 #[.val (.int x0), .val (.int x1), .val (.int x2), .val (.int x3), .val (.int x4), .val (.ref b1), .val (.ref b28), .val (.ref b69), .unset, .unset, .unset] [(.int (3 : Int32)), (.ref b69), (.ref b1), (.int (3 : Int32)), (.ref b69)])) (fun t k => XS.iconst X78.here hx rfl (hb hby at_152) k) ?_
  obtain ⟨o84, ho84, ro84⟩ := own_bind rL79
  clear rL79
  obtain ⟨_, _, ⟨T85, L85, k85, n85⟩, -, X85, ⟨Lc85, hQ85, l85, y85, z85⟩, st85⟩ := Jvm.LawKit.callS X78 hx (y := (⟨"com/example/rumorwire/rumorwire/TreeSolverInformedInPinLaw", "timeOf", "([I[II)I"⟩ : MethodName)) hown (mvT hZ (hw _ (List.mem_of_getElem? (i := 2) rfl))) (mvT hZ (hw _ (List.mem_of_getElem? (i := 3) rfl))) (mvT hZ (hw _ (List.mem_of_getElem? (i := 4) rfl))) (mvT hZ (hw _ (List.mem_of_getElem? (i := 5) rfl))) (by decide) (backOf (W := 2) (rm1 l Z a0 hw [] b1 b69 (3 : Int32) k1 k69 L25 L79 o84 h78 n0 Z82 f80 V78 ho84) hZ (hw _ (List.mem_of_getElem? (i := 5) rfl)) (hw _ (List.mem_of_getElem? (i := 4) rfl)) (by decide) (by decide)) (g := (mkF m 153 #[.val (.int x0), .val (.int x1), .val (.int x2), .val (.int x3), .val (.int x4), .val (.ref b1), .val (.ref b28), .val (.ref b69), .unset, .unset, .unset] [(.int (3 : Int32)), (.ref b69), (.ref b1), (.int (3 : Int32)), (.ref b69)])) rfl (by rw [hml]; rfl) (argsL := [(.ref b1), (.ref b69), (.int (3 : Int32))]) (rest := [(.int (3 : Int32)), (.ref b69)]) (lenOf pd_0 rfl) rfl (by show 2 * 0 + _ ≤ _; exact Nat.le_of_eq rfl) (hb hby at_153) (fun _ _ => ⟨rfl, e78, (by decide : 3 + 0 ≤ _), (by decide : 18 + 0 ≤ _)⟩)
  dsimp only [Pt.U, Pt.locs, Pt.cells, Pt.slots] at X85 l85 y85 z85 st85 hQ85
  subst y85 z85
  obtain ⟨rfl, N85q, e85⟩ := hQ85
  have N85 := Fr.app N83 N85q
  rw [← l85] at N85
  clear l85
  refine own_step (st' := T85.setTop (mkF m 156 #[.val (.int x0), .val (.int x1), .val (.int x2), .val (.int x3), .val (.int x4), .val (.ref b1), .val (.ref b28), .val (.ref b69), .unset, .unset, .unset] [(.int o84), (.int (3 : Int32)), (.ref b69)])) st85 ?_
  obtain ⟨L87, hL87, rL87⟩ := own_bind ro84
  clear ro84
  obtain ⟨T86, h86, X86, e86, W86, V86, st86⟩ := own_stI X85 hx hZ e85 V78 (j := (3 : Int32)) (i := (3 : Int32).toNatClampNeg) (own_pt hL87).1 rfl (own_pt hL87).2.1 (g := (mkF m 156 #[.val (.int x0), .val (.int x1), .val (.int x2), .val (.int x3), .val (.int x4), .val (.ref b1), .val (.ref b28), .val (.ref b69), .unset, .unset, .unset] [(.int o84), (.int (3 : Int32)), (.ref b69)])) rfl rfl (hb hby at_156)
  have V86 : Arv Z h86 b69 k69 .int (6 : Int32) ((L79.map Value.int).set (3 : Int32).toNatClampNeg (.int o84)) (.int (0 : Int32)) := V86
  rw [(own_pt hL87).2.2] at V86
  have f88 := f80.other W86 ne70
  have f89 := f81.other W86 ne71
  have Z90 : n0 ≤ h86.size := Nat.le_trans Z82 (Keep.of_wr W86).1
  have N91 := Fr.snoc X86 N85 g_b69
  refine own_step (st' := T86.setTop (mkF m 157 #[.val (.int x0), .val (.int x1), .val (.int x2), .val (.int x3), .val (.int x4), .val (.ref b1), .val (.ref b28), .val (.ref b69), .unset, .unset, .unset] [])) st86 ?_
  refine own_step (st' := T86.setTop (mkF m 159 #[.val (.int x0), .val (.int x1), .val (.int x2), .val (.int x3), .val (.int x4), .val (.ref b1), .val (.ref b28), .val (.ref b69), .unset, .unset, .unset] [(.ref b69)])) (fun t k => XS.aload X86.here hx rfl (hb hby at_157) rfl rfl k) ?_
  refine own_step (st' := T86.setTop (mkF m 160 #[.val (.int x0), .val (.int x1), .val (.int x2), .val (.int x3), .val (.int x4), .val (.ref b1), .val (.ref b28), .val (.ref b69), .unset, .unset, .unset] [(.int (2 : Int32)), (.ref b69)])) (fun t k => XS.iconst X86.here hx rfl (hb hby at_159) k) ?_
  refine own_step (st' := T86.setTop (mkF m 162 #[.val (.int x0), .val (.int x1), .val (.int x2), .val (.int x3), .val (.int x4), .val (.ref b1), .val (.ref b28), .val (.ref b69), .unset, .unset, .unset] [(.ref b1), (.int (2 : Int32)), (.ref b69)])) (fun t k => XS.aload X86.here hx rfl (hb hby at_160) rfl rfl k) ?_
  refine own_step (st' := T86.setTop (mkF m 164 #[.val (.int x0), .val (.int x1), .val (.int x2), .val (.int x3), .val (.int x4), .val (.ref b1), .val (.ref b28), .val (.ref b69), .unset, .unset, .unset] [(.ref b69), (.ref b1), (.int (2 : Int32)), (.ref b69)])) (fun t k => XS.aload X86.here hx rfl (hb hby at_162) rfl rfl k) ?_
  refine own_step (st' := T86.setTop (mkF m 165 #[.val (.int x0), .val (.int x1), .val (.int x2), .val (.int x3), .val (.int x4), .val (.ref b1), .val (.ref b28), .val (.ref b69), .unset, .unset, .unset] [(.int (2 : Int32)), (.ref b69), (.ref b1), (.int (2 : Int32)), (.ref b69)])) (fun t k => XS.iconst X86.here hx rfl (hb hby at_164) k) ?_
  obtain ⟨o92, ho92, ro92⟩ := own_bind rL87
  clear rL87
  obtain ⟨_, _, ⟨T93, L93, k93, n93⟩, -, X93, ⟨Lc93, hQ93, l93, y93, z93⟩, st93⟩ := Jvm.LawKit.callS X86 hx (y := (⟨"com/example/rumorwire/rumorwire/TreeSolverInformedInPinLaw", "timeOf", "([I[II)I"⟩ : MethodName)) hown (mvT hZ (hw _ (List.mem_of_getElem? (i := 2) rfl))) (mvT hZ (hw _ (List.mem_of_getElem? (i := 3) rfl))) (mvT hZ (hw _ (List.mem_of_getElem? (i := 4) rfl))) (mvT hZ (hw _ (List.mem_of_getElem? (i := 5) rfl))) (by decide) (backOf (W := 2) (rm1 l Z a0 hw [] b1 b69 (2 : Int32) k1 k69 L25 L87 o92 h86 n0 Z90 f88 V86 ho92) hZ (hw _ (List.mem_of_getElem? (i := 5) rfl)) (hw _ (List.mem_of_getElem? (i := 4) rfl)) (by decide) (by decide)) (g := (mkF m 165 #[.val (.int x0), .val (.int x1), .val (.int x2), .val (.int x3), .val (.int x4), .val (.ref b1), .val (.ref b28), .val (.ref b69), .unset, .unset, .unset] [(.int (2 : Int32)), (.ref b69), (.ref b1), (.int (2 : Int32)), (.ref b69)])) rfl (by rw [hml]; rfl) (argsL := [(.ref b1), (.ref b69), (.int (2 : Int32))]) (rest := [(.int (2 : Int32)), (.ref b69)]) (lenOf pd_0 rfl) rfl (by show 2 * 0 + _ ≤ _; exact Nat.le_of_eq rfl) (hb hby at_165) (fun _ _ => ⟨rfl, e86, (by decide : 3 + 0 ≤ _), (by decide : 18 + 0 ≤ _)⟩)
  dsimp only [Pt.U, Pt.locs, Pt.cells, Pt.slots] at X93 l93 y93 z93 st93 hQ93
  subst y93 z93
  obtain ⟨rfl, N93q, e93⟩ := hQ93
  have N93 := Fr.app N91 N93q
  rw [← l93] at N93
  clear l93
  refine own_step (st' := T93.setTop (mkF m 168 #[.val (.int x0), .val (.int x1), .val (.int x2), .val (.int x3), .val (.int x4), .val (.ref b1), .val (.ref b28), .val (.ref b69), .unset, .unset, .unset] [(.int o92), (.int (2 : Int32)), (.ref b69)])) st93 ?_
  obtain ⟨L95, hL95, rL95⟩ := own_bind ro92
  clear ro92
  obtain ⟨T94, h94, X94, e94, W94, V94, st94⟩ := own_stI X93 hx hZ e93 V86 (j := (2 : Int32)) (i := (2 : Int32).toNatClampNeg) (own_pt hL95).1 rfl (own_pt hL95).2.1 (g := (mkF m 168 #[.val (.int x0), .val (.int x1), .val (.int x2), .val (.int x3), .val (.int x4), .val (.ref b1), .val (.ref b28), .val (.ref b69), .unset, .unset, .unset] [(.int o92), (.int (2 : Int32)), (.ref b69)])) rfl rfl (hb hby at_168)
  have V94 : Arv Z h94 b69 k69 .int (6 : Int32) ((L87.map Value.int).set (2 : Int32).toNatClampNeg (.int o92)) (.int (0 : Int32)) := V94
  rw [(own_pt hL95).2.2] at V94
  have f96 := f88.other W94 ne70
  have f97 := f89.other W94 ne71
  have Z98 : n0 ≤ h94.size := Nat.le_trans Z90 (Keep.of_wr W94).1
  have N99 := Fr.snoc X94 N93 g_b69
  refine own_step (st' := T94.setTop (mkF m 169 #[.val (.int x0), .val (.int x1), .val (.int x2), .val (.int x3), .val (.int x4), .val (.ref b1), .val (.ref b28), .val (.ref b69), .unset, .unset, .unset] [])) st94 ?_
  refine own_step (st' := T94.setTop (mkF m 171 #[.val (.int x0), .val (.int x1), .val (.int x2), .val (.int x3), .val (.int x4), .val (.ref b1), .val (.ref b28), .val (.ref b69), .unset, .unset, .unset] [(.ref b69)])) (fun t k => XS.aload X94.here hx rfl (hb hby at_169) rfl rfl k) ?_
  refine own_step (st' := T94.setTop (mkF m 172 #[.val (.int x0), .val (.int x1), .val (.int x2), .val (.int x3), .val (.int x4), .val (.ref b1), .val (.ref b28), .val (.ref b69), .unset, .unset, .unset] [(.int (1 : Int32)), (.ref b69)])) (fun t k => XS.iconst X94.here hx rfl (hb hby at_171) k) ?_
  refine own_step (st' := T94.setTop (mkF m 174 #[.val (.int x0), .val (.int x1), .val (.int x2), .val (.int x3), .val (.int x4), .val (.ref b1), .val (.ref b28), .val (.ref b69), .unset, .unset, .unset] [(.ref b1), (.int (1 : Int32)), (.ref b69)])) (fun t k => XS.aload X94.here hx rfl (hb hby at_172) rfl rfl k) ?_
  refine own_step (st' := T94.setTop (mkF m 176 #[.val (.int x0), .val (.int x1), .val (.int x2), .val (.int x3), .val (.int x4), .val (.ref b1), .val (.ref b28), .val (.ref b69), .unset, .unset, .unset] [(.ref b69), (.ref b1), (.int (1 : Int32)), (.ref b69)])) (fun t k => XS.aload X94.here hx rfl (hb hby at_174) rfl rfl k) ?_
  refine own_step (st' := T94.setTop (mkF m 177 #[.val (.int x0), .val (.int x1), .val (.int x2), .val (.int x3), .val (.int x4), .val (.ref b1), .val (.ref b28), .val (.ref b69), .unset, .unset, .unset] [(.int (1 : Int32)), (.ref b69), (.ref b1), (.int (1 : Int32)), (.ref b69)])) (fun t k => XS.iconst X94.here hx rfl (hb hby at_176) k) ?_
  obtain ⟨o100, ho100, ro100⟩ := own_bind rL95
  clear rL95
  obtain ⟨_, _, ⟨T101, L101, k101, n101⟩, -, X101, ⟨Lc101, hQ101, l101, y101, z101⟩, st101⟩ := Jvm.LawKit.callS X94 hx (y := (⟨"com/example/rumorwire/rumorwire/TreeSolverInformedInPinLaw", "timeOf", "([I[II)I"⟩ : MethodName)) hown (mvT hZ (hw _ (List.mem_of_getElem? (i := 2) rfl))) (mvT hZ (hw _ (List.mem_of_getElem? (i := 3) rfl))) (mvT hZ (hw _ (List.mem_of_getElem? (i := 4) rfl))) (mvT hZ (hw _ (List.mem_of_getElem? (i := 5) rfl))) (by decide) (backOf (W := 2) (rm1 l Z a0 hw [] b1 b69 (1 : Int32) k1 k69 L25 L95 o100 h94 n0 Z98 f96 V94 ho100) hZ (hw _ (List.mem_of_getElem? (i := 5) rfl)) (hw _ (List.mem_of_getElem? (i := 4) rfl)) (by decide) (by decide)) (g := (mkF m 177 #[.val (.int x0), .val (.int x1), .val (.int x2), .val (.int x3), .val (.int x4), .val (.ref b1), .val (.ref b28), .val (.ref b69), .unset, .unset, .unset] [(.int (1 : Int32)), (.ref b69), (.ref b1), (.int (1 : Int32)), (.ref b69)])) rfl (by rw [hml]; rfl) (argsL := [(.ref b1), (.ref b69), (.int (1 : Int32))]) (rest := [(.int (1 : Int32)), (.ref b69)]) (lenOf pd_0 rfl) rfl (by show 2 * 0 + _ ≤ _; exact Nat.le_of_eq rfl) (hb hby at_177) (fun _ _ => ⟨rfl, e94, (by decide : 3 + 0 ≤ _), (by decide : 18 + 0 ≤ _)⟩)
  dsimp only [Pt.U, Pt.locs, Pt.cells, Pt.slots] at X101 l101 y101 z101 st101 hQ101
  subst y101 z101
  obtain ⟨rfl, N101q, e101⟩ := hQ101
  have N101 := Fr.app N99 N101q
  rw [← l101] at N101
  clear l101
  refine own_step (st' := T101.setTop (mkF m 180 #[.val (.int x0), .val (.int x1), .val (.int x2), .val (.int x3), .val (.int x4), .val (.ref b1), .val (.ref b28), .val (.ref b69), .unset, .unset, .unset] [(.int o100), (.int (1 : Int32)), (.ref b69)])) st101 ?_
  obtain ⟨L103, hL103, rL103⟩ := own_bind ro100
  clear ro100
  obtain ⟨T102, h102, X102, e102, W102, V102, st102⟩ := own_stI X101 hx hZ e101 V94 (j := (1 : Int32)) (i := (1 : Int32).toNatClampNeg) (own_pt hL103).1 rfl (own_pt hL103).2.1 (g := (mkF m 180 #[.val (.int x0), .val (.int x1), .val (.int x2), .val (.int x3), .val (.int x4), .val (.ref b1), .val (.ref b28), .val (.ref b69), .unset, .unset, .unset] [(.int o100), (.int (1 : Int32)), (.ref b69)])) rfl rfl (hb hby at_180)
  have V102 : Arv Z h102 b69 k69 .int (6 : Int32) ((L95.map Value.int).set (1 : Int32).toNatClampNeg (.int o100)) (.int (0 : Int32)) := V102
  rw [(own_pt hL103).2.2] at V102
  have f104 := f96.other W102 ne70
  have f105 := f97.other W102 ne71
  have Z106 : n0 ≤ h102.size := Nat.le_trans Z98 (Keep.of_wr W102).1
  have N107 := Fr.snoc X102 N101 g_b69
  refine own_step (st' := T102.setTop (mkF m 181 #[.val (.int x0), .val (.int x1), .val (.int x2), .val (.int x3), .val (.int x4), .val (.ref b1), .val (.ref b28), .val (.ref b69), .unset, .unset, .unset] [])) st102 ?_
  refine own_step (st' := T102.setTop (mkF m 183 #[.val (.int x0), .val (.int x1), .val (.int x2), .val (.int x3), .val (.int x4), .val (.ref b1), .val (.ref b28), .val (.ref b69), .unset, .unset, .unset] [(.ref b69)])) (fun t k => XS.aload X102.here hx rfl (hb hby at_181) rfl rfl k) ?_
  refine own_step (st' := T102.setTop (mkF m 184 #[.val (.int x0), .val (.int x1), .val (.int x2), .val (.int x3), .val (.int x4), .val (.ref b1), .val (.ref b28), .val (.ref b69), .unset, .unset, .unset] [(.int (0 : Int32)), (.ref b69)])) (fun t k => XS.iconst X102.here hx rfl (hb hby at_183) k) ?_
  refine own_step (st' := T102.setTop (mkF m 186 #[.val (.int x0), .val (.int x1), .val (.int x2), .val (.int x3), .val (.int x4), .val (.ref b1), .val (.ref b28), .val (.ref b69), .unset, .unset, .unset] [(.ref b1), (.int (0 : Int32)), (.ref b69)])) (fun t k => XS.aload X102.here hx rfl (hb hby at_184) rfl rfl k) ?_
  refine own_step (st' := T102.setTop (mkF m 188 #[.val (.int x0), .val (.int x1), .val (.int x2), .val (.int x3), .val (.int x4), .val (.ref b1), .val (.ref b28), .val (.ref b69), .unset, .unset, .unset] [(.ref b69), (.ref b1), (.int (0 : Int32)), (.ref b69)])) (fun t k => XS.aload X102.here hx rfl (hb hby at_186) rfl rfl k) ?_
  refine own_step (st' := T102.setTop (mkF m 189 #[.val (.int x0), .val (.int x1), .val (.int x2), .val (.int x3), .val (.int x4), .val (.ref b1), .val (.ref b28), .val (.ref b69), .unset, .unset, .unset] [(.int (0 : Int32)), (.ref b69), (.ref b1), (.int (0 : Int32)), (.ref b69)])) (fun t k => XS.iconst X102.here hx rfl (hb hby at_188) k) ?_
  obtain ⟨o108, ho108, ro108⟩ := own_bind rL103
  clear rL103
  obtain ⟨_, _, ⟨T109, L109, k109, n109⟩, -, X109, ⟨Lc109, hQ109, l109, y109, z109⟩, st109⟩ := Jvm.LawKit.callS X102 hx (y := (⟨"com/example/rumorwire/rumorwire/TreeSolverInformedInPinLaw", "timeOf", "([I[II)I"⟩ : MethodName)) hown (mvT hZ (hw _ (List.mem_of_getElem? (i := 2) rfl))) (mvT hZ (hw _ (List.mem_of_getElem? (i := 3) rfl))) (mvT hZ (hw _ (List.mem_of_getElem? (i := 4) rfl))) (mvT hZ (hw _ (List.mem_of_getElem? (i := 5) rfl))) (by decide) (backOf (W := 2) (rm1 l Z a0 hw [] b1 b69 (0 : Int32) k1 k69 L25 L103 o108 h102 n0 Z106 f104 V102 ho108) hZ (hw _ (List.mem_of_getElem? (i := 5) rfl)) (hw _ (List.mem_of_getElem? (i := 4) rfl)) (by decide) (by decide)) (g := (mkF m 189 #[.val (.int x0), .val (.int x1), .val (.int x2), .val (.int x3), .val (.int x4), .val (.ref b1), .val (.ref b28), .val (.ref b69), .unset, .unset, .unset] [(.int (0 : Int32)), (.ref b69), (.ref b1), (.int (0 : Int32)), (.ref b69)])) rfl (by rw [hml]; rfl) (argsL := [(.ref b1), (.ref b69), (.int (0 : Int32))]) (rest := [(.int (0 : Int32)), (.ref b69)]) (lenOf pd_0 rfl) rfl (by show 2 * 0 + _ ≤ _; exact Nat.le_of_eq rfl) (hb hby at_189) (fun _ _ => ⟨rfl, e102, (by decide : 3 + 0 ≤ _), (by decide : 18 + 0 ≤ _)⟩)
  dsimp only [Pt.U, Pt.locs, Pt.cells, Pt.slots] at X109 l109 y109 z109 st109 hQ109
  subst y109 z109
  obtain ⟨rfl, N109q, e109⟩ := hQ109
  have N109 := Fr.app N107 N109q
  rw [← l109] at N109
  clear l109
  refine own_step (st' := T109.setTop (mkF m 192 #[.val (.int x0), .val (.int x1), .val (.int x2), .val (.int x3), .val (.int x4), .val (.ref b1), .val (.ref b28), .val (.ref b69), .unset, .unset, .unset] [(.int o108), (.int (0 : Int32)), (.ref b69)])) st109 ?_
  obtain ⟨L111, hL111, rL111⟩ := own_bind ro108
  clear ro108
  obtain ⟨T110, h110, X110, e110, W110, V110, st110⟩ := own_stI X109 hx hZ e109 V102 (j := (0 : Int32)) (i := (0 : Int32).toNatClampNeg) (own_pt hL111).1 rfl (own_pt hL111).2.1 (g := (mkF m 192 #[.val (.int x0), .val (.int x1), .val (.int x2), .val (.int x3), .val (.int x4), .val (.ref b1), .val (.ref b28), .val (.ref b69), .unset, .unset, .unset] [(.int o108), (.int (0 : Int32)), (.ref b69)])) rfl rfl (hb hby at_192)
  have V110 : Arv Z h110 b69 k69 .int (6 : Int32) ((L103.map Value.int).set (0 : Int32).toNatClampNeg (.int o108)) (.int (0 : Int32)) := V110
  rw [(own_pt hL111).2.2] at V110
  have f112 := f104.other W110 ne70
  have f113 := f105.other W110 ne71
  have Z114 : n0 ≤ h110.size := Nat.le_trans Z106 (Keep.of_wr W110).1
  have N115 := Fr.snoc X110 N109 g_b69
  refine own_step (st' := T110.setTop (mkF m 193 #[.val (.int x0), .val (.int x1), .val (.int x2), .val (.int x3), .val (.int x4), .val (.ref b1), .val (.ref b28), .val (.ref b69), .unset, .unset, .unset] [])) st110 ?_
  obtain ⟨T116, h116, X116, e116, E116, A116, D116, -, st116⟩ := newO X110 hx hZ hown (hw _ (List.mem_of_getElem? (i := 19) rfl)) (hw _ (List.mem_of_getElem? (i := 20) rfl)) (hw _ (List.mem_of_getElem? (i := 21) rfl)) e110 (g := (mkF m 193 #[.val (.int x0), .val (.int x1), .val (.int x2), .val (.int x3), .val (.int x4), .val (.ref b1), .val (.ref b28), .val (.ref b69), .unset, .unset, .unset] [])) rfl (hb hby at_193) (by decide) (by decide)
  obtain ⟨b116, g116⟩ : ∃ z, z = h110.size := ⟨_, rfl⟩
  rw [← g116] at A116 D116 st116
  have ne117 : b1 ≠ b116 := Nat.ne_of_lt (Nat.lt_of_lt_of_le f112.lt (Nat.le_of_eq g116.symm))
  have ne118 : b28 ≠ b116 := Nat.ne_of_lt (Nat.lt_of_lt_of_le f113.lt (Nat.le_of_eq g116.symm))
  have ne119 : b69 ≠ b116 := Nat.ne_of_lt (Nat.lt_of_lt_of_le V110.lt (Nat.le_of_eq g116.symm))
  have g_b116 : n0 ≤ b116 := Nat.le_trans Z114 (Nat.le_of_eq g116.symm)
  have f120 := f112.ext E116
  have f121 := f113.ext E116
  have f122 := V110.ext E116
  have Z123 : n0 ≤ h116.size := Nat.le_trans Z114 E116.1
  have f124 : Fld Z h116 b116 "com/example/rumorwire/rumorwire/TreeSolver" "parent" "[I" .null := D116 (Or.inr (hw _ (List.mem_of_getElem? (i := 29) rfl))) (ty := (.array .int)) (by decide)
  have f125 : Fld Z h116 b116 "com/example/rumorwire/rumorwire/TreeSolver" "childStart" "[I" .null := D116 (Or.inr (hw _ (List.mem_of_getElem? (i := 31) rfl))) (ty := (.array .int)) (by decide)
  have f126 : Fld Z h116 b116 "com/example/rumorwire/rumorwire/TreeSolver" "children" "[I" .null := D116 (Or.inr (hw _ (List.mem_of_getElem? (i := 33) rfl))) (ty := (.array .int)) (by decide)
  have f127 : Fld Z h116 b116 "com/example/rumorwire/rumorwire/TreeSolver" "time" "[I" .null := D116 (Or.inr (hw _ (List.mem_of_getElem? (i := 35) rfl))) (ty := (.array .int)) (by decide)
  have f128 : Fld Z h116 b116 "com/example/rumorwire/rumorwire/TreeSolver" "finished" "[I" .null := D116 (Or.inr (hw _ (List.mem_of_getElem? (i := 37) rfl))) (ty := (.array .int)) (by decide)
  refine own_step (st' := T116.setTop (mkF m 196 #[.val (.int x0), .val (.int x1), .val (.int x2), .val (.int x3), .val (.int x4), .val (.ref b1), .val (.ref b28), .val (.ref b69), .unset, .unset, .unset] [(.ref b116)])) st116 ?_
  refine own_step (st' := T116.setTop (mkF m 197 #[.val (.int x0), .val (.int x1), .val (.int x2), .val (.int x3), .val (.int x4), .val (.ref b1), .val (.ref b28), .val (.ref b69), .unset, .unset, .unset] [(.ref b116), (.ref b116)])) (fun t k => XS.dup X116.here hx rfl (hb hby at_196) rfl rfl k) ?_
  refine own_step (st' := T116.setTop (mkF m 199 #[.val (.int x0), .val (.int x1), .val (.int x2), .val (.int x3), .val (.int x4), .val (.ref b1), .val (.ref b28), .val (.ref b69), .unset, .unset, .unset] [(.ref b28), (.ref b116), (.ref b116)])) (fun t k => XS.aload X116.here hx rfl (hb hby at_197) rfl rfl k) ?_
  obtain ⟨o129, ho129, ro129⟩ := own_bind rL111
  clear rL111
  obtain ⟨_, _, ⟨T130, L130, k130, n130⟩, -, X130, ⟨Lc130, hQ130, l130, y130, z130⟩, st130⟩ := X116.specialBack hx (y := (⟨"com/example/rumorwire/rumorwire/TreeSolver", "<init>", "([I)V"⟩ : MethodName)) rfl hown (mvT hZ (hw _ (List.mem_of_getElem? (i := 22) rfl))) (mvT hZ (hw _ (List.mem_of_getElem? (i := 23) rfl))) (mvT hZ (hw _ (List.mem_of_getElem? (i := 24) rfl))) (by decide) (backOf (W := 1) (rm6 l Z a0 hw [] b116 b28 k28 L65 o129.2.1 o129.2.2.1 o129.2.2.2.1 o129.2.2.2.2 o129.1 h116 n0 Z123 f124 f125 f126 f127 f128 A116 g_b116 f121 ne118 ho129) hZ (hw _ (List.mem_of_getElem? (i := 24) rfl)) (hw _ (List.mem_of_getElem? (i := 21) rfl)) (by decide) (by decide)) (g := (mkF m 199 #[.val (.int x0), .val (.int x1), .val (.int x2), .val (.int x3), .val (.int x4), .val (.ref b1), .val (.ref b28), .val (.ref b69), .unset, .unset, .unset] [(.ref b28), (.ref b116), (.ref b116)])) rfl (by rw [hml]; rfl) (Steps.refl _) (a := b116) (argsL := [(.ref b28)]) (rest := [(.ref b116)]) (lenOf pd_5 rfl) rfl (by show 2 * 0 + _ ≤ _; exact Nat.le_of_eq rfl) (hb hby at_199) (fun _ _ => ⟨rfl, e116, (by decide : 4 + 7 ≤ _), (by decide : 23 + 43 ≤ _)⟩)
  dsimp only [Pt.U, Pt.locs, Pt.cells, Pt.slots] at X130 l130 y130 z130 st130 hQ130
  subst y130 z130
  obtain ⟨bS_130, bC_130, bT_130, bF_130, kS_130, kC_130, kT_130, kF_130, rfl, N130q, K130, pq130_0, pq130_1, pq130_2, pq130_3, pq130_4, pq130_5, pq130_6, pq130_7, pq130_8, pq130_9, pq130_10, pq130_11, pq130_12, pq130_13⟩ := hQ130
  have N130 := Fr.app N115 N130q
  rw [← l130] at N130
  clear l130
  obtain ⟨h130, e130⟩ : ∃ z, T130.heap = z := ⟨_, rfl⟩
  rw [e130] at K130 pq130_4 pq130_5 pq130_6 pq130_7 pq130_8 pq130_9 pq130_10 pq130_11 pq130_12 pq130_13
  have ne131 : b1 ≠ bS_130 := Nat.ne_of_lt (Nat.lt_of_lt_of_le f120.lt pq130_0)
  have ne132 : b28 ≠ bS_130 := Nat.ne_of_lt (Nat.lt_of_lt_of_le f121.lt pq130_0)
  have ne133 : b69 ≠ bS_130 := Nat.ne_of_lt (Nat.lt_of_lt_of_le f122.lt pq130_0)
  have ne134 : b116 ≠ bS_130 := Nat.ne_of_lt (Nat.lt_of_lt_of_le A116.lt pq130_0)
  have g_bS_130 : n0 ≤ bS_130 := Nat.le_trans Z123 pq130_0
  have ne135 : b1 ≠ bC_130 := Nat.ne_of_lt (Nat.lt_of_lt_of_le f120.lt pq130_1)
  have ne136 : b28 ≠ bC_130 := Nat.ne_of_lt (Nat.lt_of_lt_of_le f121.lt pq130_1)
  have ne137 : b69 ≠ bC_130 := Nat.ne_of_lt (Nat.lt_of_lt_of_le f122.lt pq130_1)
  have ne138 : b116 ≠ bC_130 := Nat.ne_of_lt (Nat.lt_of_lt_of_le A116.lt pq130_1)
  have g_bC_130 : n0 ≤ bC_130 := Nat.le_trans Z123 pq130_1
  have ne139 : b1 ≠ bT_130 := Nat.ne_of_lt (Nat.lt_of_lt_of_le f120.lt pq130_2)
  have ne140 : b28 ≠ bT_130 := Nat.ne_of_lt (Nat.lt_of_lt_of_le f121.lt pq130_2)
  have ne141 : b69 ≠ bT_130 := Nat.ne_of_lt (Nat.lt_of_lt_of_le f122.lt pq130_2)
  have ne142 : b116 ≠ bT_130 := Nat.ne_of_lt (Nat.lt_of_lt_of_le A116.lt pq130_2)
  have g_bT_130 : n0 ≤ bT_130 := Nat.le_trans Z123 pq130_2
  have ne143 : b1 ≠ bF_130 := Nat.ne_of_lt (Nat.lt_of_lt_of_le f120.lt pq130_3)
  have ne144 : b28 ≠ bF_130 := Nat.ne_of_lt (Nat.lt_of_lt_of_le f121.lt pq130_3)
  have ne145 : b69 ≠ bF_130 := Nat.ne_of_lt (Nat.lt_of_lt_of_le f122.lt pq130_3)
  have ne146 : b116 ≠ bF_130 := Nat.ne_of_lt (Nat.lt_of_lt_of_le A116.lt pq130_3)
  have g_bF_130 : n0 ≤ bF_130 := Nat.le_trans Z123 pq130_3
  have f147 := f120.keep K130 (ninS ne117 nin0)
  have f148 := f121.keep K130 (ninS ne118 nin0)
  have f149 := f122.keep K130 (ninS ne119 nin0)
  have f150 := A116.keep K130
  have Z151 : n0 ≤ h130.size := Nat.le_trans Z123 K130.1
  refine own_step (st' := T130.setTop (mkF m 202 #[.val (.int x0), .val (.int x1), .val (.int x2), .val (.int x3), .val (.int x4), .val (.ref b1), .val (.ref b28), .val (.ref b69), .unset, .unset, .unset] [(.ref b116)])) (fun t k => st130.trans k) ?_
  refine own_step (st' := T130.setTop (mkF m 204 #[.val (.int x0), .val (.int x1), .val (.int x2), .val (.int x3), .val (.int x4), .val (.ref b1), .val (.ref b28), .val (.ref b69), .val (.ref b116), .unset, .unset] [])) (fun t k => XS.astore X130.here hx rfl (hb hby at_202) rfl rfl (l' := #[.val (.int x0), .val (.int x1), .val (.int x2), .val (.int x3), .val (.int x4), .val (.ref b1), .val (.ref b28), .val (.ref b69), .val (.ref b116), .unset, .unset]) rfl k) ?_
  refine own_step (st' := T130.setTop (mkF m 206 #[.val (.int x0), .val (.int x1), .val (.int x2), .val (.int x3), .val (.int x4), .val (.ref b1), .val (.ref b28), .val (.ref b69), .val (.ref b116), .unset, .unset] [(.ref b116)])) (fun t k => XS.aload X130.here hx rfl (hb hby at_204) rfl rfl k) ?_
  obtain ⟨o152, ho152, ro152⟩ := own_bind ro129
  clear ro129
  obtain ⟨cq153, kq153, q153a, q153b, q153c⟩ := isOf hZ e130 f150
  obtain ⟨_, _, ⟨T153, L153, k153, n153⟩, -, X153, ⟨Lc153, hQ153, l153, y153, z153⟩, st153⟩ := X130.virtualBack hx (y := (⟨"com/example/rumorwire/rumorwire/TreeSolver", "informedIn", "()[I"⟩ : MethodName)) (z := (⟨"com/example/rumorwire/rumorwire/TreeSolver", "informedIn", "()[I"⟩ : MethodName)) hown (mvT hZ (hw _ (List.mem_of_getElem? (i := 51) rfl))) (mvT hZ (hw _ (List.mem_of_getElem? (i := 52) rfl))) (notFace_of_selects (args := #[]) (mvT hZ (hw _ (List.mem_of_getElem? (i := 54) rfl)))) (mvT hZ (hw _ (List.mem_of_getElem? (i := 54) rfl))) (mvT hZ (hw _ (List.mem_of_getElem? (i := 53) rfl))) (by decide) (backOf (W := 0) (rm11 l Z a0 hw [] b116 b28 bS_130 bC_130 bT_130 bF_130 k28 kS_130 kC_130 kT_130 kF_130 o129.1 L65 o129.2.1 o129.2.2.1 o129.2.2.2.1 o129.2.2.2.2 o152 h130 n0 Z151 pq130_4 pq130_5 pq130_6 pq130_7 pq130_8 pq130_9 pq130_10 pq130_11 pq130_12 pq130_13 ho152) hZ (hw _ (List.mem_of_getElem? (i := 55) rfl)) (hw _ (List.mem_of_getElem? (i := 21) rfl)) (by decide) (by decide)) q153a q153c (g := (mkF m 206 #[.val (.int x0), .val (.int x1), .val (.int x2), .val (.int x3), .val (.int x4), .val (.ref b1), .val (.ref b28), .val (.ref b69), .val (.ref b116), .unset, .unset] [(.ref b116)])) rfl (by rw [hml]; rfl) (Steps.refl _) (argsL := []) (rest := []) (lenOf pd_9 rfl) rfl (by show 2 * 0 + _ ≤ _; exact Nat.le_of_eq rfl) (hb hby at_206) (fun _ _ => ⟨rfl, e130, (by decide : 11 + 1 ≤ _), (by decide : 66 + 6 ≤ _)⟩)
  dsimp only [Pt.U, Pt.locs, Pt.cells, Pt.slots] at X153 l153 y153 z153 st153 hQ153
  subst y153 z153
  obtain ⟨b_153, kb_153, rfl, N153q, K153, pq153_0, pq153_1⟩ := hQ153
  have N153 := Fr.app N130 N153q
  rw [← l153] at N153
  clear l153
  obtain ⟨h153, e153⟩ : ∃ z, T153.heap = z := ⟨_, rfl⟩
  rw [e153] at K153 pq153_1
  have ne154 : b1 ≠ b_153 := Nat.ne_of_lt (Nat.lt_of_lt_of_le f147.lt pq153_0)
  have ne155 : b28 ≠ b_153 := Nat.ne_of_lt (Nat.lt_of_lt_of_le pq130_9.lt pq153_0)
  have ne156 : b69 ≠ b_153 := Nat.ne_of_lt (Nat.lt_of_lt_of_le f149.lt pq153_0)
  have ne157 : b116 ≠ b_153 := Nat.ne_of_lt (Nat.lt_of_lt_of_le f150.lt pq153_0)
  have ne158 : bS_130 ≠ b_153 := Nat.ne_of_lt (Nat.lt_of_lt_of_le pq130_10.lt pq153_0)
  have ne159 : bC_130 ≠ b_153 := Nat.ne_of_lt (Nat.lt_of_lt_of_le pq130_11.lt pq153_0)
  have ne160 : bT_130 ≠ b_153 := Nat.ne_of_lt (Nat.lt_of_lt_of_le pq130_12.lt pq153_0)
  have ne161 : bF_130 ≠ b_153 := Nat.ne_of_lt (Nat.lt_of_lt_of_le pq130_13.lt pq153_0)
  have g_b_153 : n0 ≤ b_153 := Nat.le_trans Z151 pq153_0
  have f162 := f147.keep K153 nin0
  have f163 := pq130_9.keep K153 nin0
  have f164 := f149.keep K153 nin0
  have f165 := f150.keep K153
  have f166 := pq130_4.keep K153 nin0
  have f167 := pq130_5.keep K153 nin0
  have f168 := pq130_6.keep K153 nin0
  have f169 := pq130_7.keep K153 nin0
  have f170 := pq130_8.keep K153 nin0
  have f171 := pq130_10.keep K153 nin0
  have f172 := pq130_11.keep K153 nin0
  have f173 := pq130_12.keep K153 nin0
  have f174 := pq130_13.keep K153 nin0
  have Z175 : n0 ≤ h153.size := Nat.le_trans Z151 K153.1
  refine own_step (st' := T153.setTop (mkF m 209 #[.val (.int x0), .val (.int x1), .val (.int x2), .val (.int x3), .val (.int x4), .val (.ref b1), .val (.ref b28), .val (.ref b69), .val (.ref b116), .unset, .unset] [(.ref b_153)])) (fun t k => st153.trans k) ?_
  refine own_step (st' := T153.setTop (mkF m 211 #[.val (.int x0), .val (.int x1), .val (.int x2), .val (.int x3), .val (.int x4), .val (.ref b1), .val (.ref b28), .val (.ref b69), .val (.ref b116), .val (.ref b_153), .unset] [])) (fun t k => XS.astore X153.here hx rfl (hb hby at_209) rfl rfl (l' := #[.val (.int x0), .val (.int x1), .val (.int x2), .val (.int x3), .val (.int x4), .val (.ref b1), .val (.ref b28), .val (.ref b69), .val (.ref b116), .val (.ref b_153), .unset]) rfl k) ?_
  refine own_step (st' := T153.setTop (mkF m 213 #[.val (.int x0), .val (.int x1), .val (.int x2), .val (.int x3), .val (.int x4), .val (.ref b1), .val (.ref b28), .val (.ref b69), .val (.ref b116), .val (.ref b_153), .unset] [(.ref b_153)])) (fun t k => XS.aload X153.here hx rfl (hb hby at_211) rfl rfl k) ?_
  refine own_step (st' := T153.setTop (mkF m 216 #[.val (.int x0), .val (.int x1), .val (.int x2), .val (.int x3), .val (.int x4), .val (.ref b1), .val (.ref b28), .val (.ref b69), .val (.ref b116), .val (.ref b_153), .unset] [])) (fun t k => XS.ifnullNo X153.here hx rfl (hb hby at_213) rfl k) ?_
  refine own_step (st' := T153.setTop (mkF m 218 #[.val (.int x0), .val (.int x1), .val (.int x2), .val (.int x3), .val (.int x4), .val (.ref b1), .val (.ref b28), .val (.ref b69), .val (.ref b116), .val (.ref b_153), .unset] [(.ref b_153)])) (fun t k => XS.aload X153.here hx rfl (hb hby at_216) rfl rfl k) ?_
  refine own_step (st' := T153.setTop (mkF m 219 #[.val (.int x0), .val (.int x1), .val (.int x2), .val (.int x3), .val (.int x4), .val (.ref b1), .val (.ref b28), .val (.ref b69), .val (.ref b116), .val (.ref b_153), .unset] [(.int (6 : Int32))])) (fun t k => own_len X153 hx hZ e153 pq153_1 (g := (mkF m 218 #[.val (.int x0), .val (.int x1), .val (.int x2), .val (.int x3), .val (.int x4), .val (.ref b1), .val (.ref b28), .val (.ref b69), .val (.ref b116), .val (.ref b_153), .unset] [(.ref b_153)])) rfl rfl (hb hby at_218) t k) ?_
  refine own_step (st' := T153.setTop (mkF m 221 #[.val (.int x0), .val (.int x1), .val (.int x2), .val (.int x3), .val (.int x4), .val (.ref b1), .val (.ref b28), .val (.ref b69), .val (.ref b116), .val (.ref b_153), .unset] [(.int (6 : Int32)), (.int (6 : Int32))])) (fun t k => XS.bipush X153.here hx rfl (hb hby at_219) k) ?_
  refine own_step (st' := T153.setTop (mkF m 226 #[.val (.int x0), .val (.int x1), .val (.int x2), .val (.int x3), .val (.int x4), .val (.ref b1), .val (.ref b28), .val (.ref b69), .val (.ref b116), .val (.ref b_153), .unset] [])) (fun t k => XS.icmpYes X153.here hx rfl (pc0 := 221) (pc' := 226) rfl (hb hby at_221) rfl (teq (by decide)).1 (by decide) (by decide) k) ?_
  refine own_step (st' := T153.setTop (mkF m 228 #[.val (.int x0), .val (.int x1), .val (.int x2), .val (.int x3), .val (.int x4), .val (.ref b1), .val (.ref b28), .val (.ref b69), .val (.ref b116), .val (.ref b_153), .unset] [(.ref b_153)])) (fun t k => XS.aload X153.here hx rfl (hb hby at_226) rfl rfl k) ?_
  refine own_step (st' := T153.setTop (mkF m 229 #[.val (.int x0), .val (.int x1), .val (.int x2), .val (.int x3), .val (.int x4), .val (.ref b1), .val (.ref b28), .val (.ref b69), .val (.ref b116), .val (.ref b_153), .unset] [(.int (0 : Int32)), (.ref b_153)])) (fun t k => XS.iconst X153.here hx rfl (hb hby at_228) k) ?_
  obtain ⟨z176, hz176, rz176⟩ := own_bind ro152
  clear ro152
  refine own_step (st' := T153.setTop (mkF m 230 #[.val (.int x0), .val (.int x1), .val (.int x2), .val (.int x3), .val (.int x4), .val (.ref b1), .val (.ref b28), .val (.ref b69), .val (.ref b116), .val (.ref b_153), .unset] [(.int z176)])) (fun t k => own_ldI X153 hx hZ e153 pq153_1 (j := (0 : Int32)) (v := (.int z176)) (own_gd hz176).1 (own_gd hz176).2 (g := (mkF m 229 #[.val (.int x0), .val (.int x1), .val (.int x2), .val (.int x3), .val (.int x4), .val (.ref b1), .val (.ref b28), .val (.ref b69), .val (.ref b116), .val (.ref b_153), .unset] [(.int (0 : Int32)), (.ref b_153)])) rfl rfl (hb hby at_229) t k) ?_
  by_cases hc177 : z176 = (0 : Int32)
  · have r178 := own_if1 hc177 rz176
    clear rz176
    refine own_step (st' := T153.setTop (mkF m 233 #[.val (.int x0), .val (.int x1), .val (.int x2), .val (.int x3), .val (.int x4), .val (.ref b1), .val (.ref b28), .val (.ref b69), .val (.ref b116), .val (.ref b_153), .unset] [])) (fun t k => XS.ifNo X153.here hx rfl (hb hby at_230) rfl ((if0 _ _).trans (teq hc177).2) k) ?_
    refine own_step (st' := T153.setTop (mkF m 234 #[.val (.int x0), .val (.int x1), .val (.int x2), .val (.int x3), .val (.int x4), .val (.ref b1), .val (.ref b28), .val (.ref b69), .val (.ref b116), .val (.ref b_153), .unset] [(.int (1 : Int32))])) (fun t k => XS.iconst X153.here hx rfl (hb hby at_233) k) ?_
    refine own_step (st' := T153.setTop (mkF m 238 #[.val (.int x0), .val (.int x1), .val (.int x2), .val (.int x3), .val (.int x4), .val (.ref b1), .val (.ref b28), .val (.ref b69), .val (.ref b116), .val (.ref b_153), .unset] [(.int (1 : Int32))])) (fun t k => XS.goto X153.here hx rfl (pc0 := 234) (pc' := 238) rfl (hb hby at_234) (by decide) (by decide) k) ?_
    refine own_step (st' := T153.setTop (mkF m 240 #[.val (.int x0), .val (.int x1), .val (.int x2), .val (.int x3), .val (.int x4), .val (.ref b1), .val (.ref b28), .val (.ref b69), .val (.ref b116), .val (.ref b_153), .val (.int (1 : Int32))] [])) (fun t k => XS.istore X153.here hx rfl (hb hby at_238) rfl (l' := #[.val (.int x0), .val (.int x1), .val (.int x2), .val (.int x3), .val (.int x4), .val (.ref b1), .val (.ref b28), .val (.ref b69), .val (.ref b116), .val (.ref b_153), .val (.int (1 : Int32))]) rfl k) ?_
    refine own_step (st' := T153.setTop (mkF m 242 #[.val (.int x0), .val (.int x1), .val (.int x2), .val (.int x3), .val (.int x4), .val (.ref b1), .val (.ref b28), .val (.ref b69), .val (.ref b116), .val (.ref b_153), .val (.int (1 : Int32))] [(.int (1 : Int32))])) (fun t k => XS.iload X153.here hx rfl (hb hby at_240) rfl k) ?_
    refine own_step (st' := T153.setTop (mkF m 245 #[.val (.int x0), .val (.int x1), .val (.int x2), .val (.int x3), .val (.int x4), .val (.ref b1), .val (.ref b28), .val (.ref b69), .val (.ref b116), .val (.ref b_153), .val (.int (1 : Int32))] [])) (fun t k => XS.ifNo X153.here hx rfl (hb hby at_242) rfl ((if0 _ _).trans (feq (by decide)).1) k) ?_
    refine own_step (st' := T153.setTop (mkF m 247 #[.val (.int x0), .val (.int x1), .val (.int x2), .val (.int x3), .val (.int x4), .val (.ref b1), .val (.ref b28), .val (.ref b69), .val (.ref b116), .val (.ref b_153), .val (.int (1 : Int32))] [(.ref b1)])) (fun t k => XS.aload X153.here hx rfl (hb hby at_245) rfl rfl k) ?_
    refine own_step (st' := T153.setTop (mkF m 249 #[.val (.int x0), .val (.int x1), .val (.int x2), .val (.int x3), .val (.int x4), .val (.ref b1), .val (.ref b28), .val (.ref b69), .val (.ref b116), .val (.ref b_153), .val (.int (1 : Int32))] [(.ref b69), (.ref b1)])) (fun t k => XS.aload X153.here hx rfl (hb hby at_247) rfl rfl k) ?_
    refine own_step (st' := T153.setTop (mkF m 251 #[.val (.int x0), .val (.int x1), .val (.int x2), .val (.int x3), .val (.int x4), .val (.ref b1), .val (.ref b28), .val (.ref b69), .val (.ref b116), .val (.ref b_153), .val (.int (1 : Int32))] [(.ref b_153), (.ref b69), (.ref b1)])) (fun t k => XS.aload X153.here hx rfl (hb hby at_249) rfl rfl k) ?_
    refine own_step (st' := T153.setTop (mkF m 252 #[.val (.int x0), .val (.int x1), .val (.int x2), .val (.int x3), .val (.int x4), .val (.ref b1), .val (.ref b28), .val (.ref b69), .val (.ref b116), .val (.ref b_153), .val (.int (1 : Int32))] [(.int (1 : Int32)), (.ref b_153), (.ref b69), (.ref b1)])) (fun t k => XS.iconst X153.here hx rfl (hb hby at_251) k) ?_
    obtain ⟨o179, ho179, ro179⟩ := own_bind r178
    clear r178
    obtain ⟨_, _, ⟨T180, L180, k180, n180⟩, -, X180, ⟨Lc180, hQ180, l180, y180, z180⟩, st180⟩ := Jvm.LawKit.callS X153 hx (y := (⟨"com/example/rumorwire/rumorwire/TreeSolverInformedInPinLaw", "child", "([I[I[II)Z"⟩ : MethodName)) hown (mvT hZ (hw _ (List.mem_of_getElem? (i := 56) rfl))) (mvT hZ (hw _ (List.mem_of_getElem? (i := 57) rfl))) (mvT hZ (hw _ (List.mem_of_getElem? (i := 4) rfl))) (mvT hZ (hw _ (List.mem_of_getElem? (i := 58) rfl))) (by decide) (backOf (W := 0) (rm12 l Z a0 hw [] b1 b69 b_153 (1 : Int32) k1 k69 kb_153 L25 L111 o152 o179 h153 n0 Z175 f162 f164 pq153_1 ho179) hZ (hw _ (List.mem_of_getElem? (i := 58) rfl)) (hw _ (List.mem_of_getElem? (i := 4) rfl)) (by decide) (by decide)) (g := (mkF m 252 #[.val (.int x0), .val (.int x1), .val (.int x2), .val (.int x3), .val (.int x4), .val (.ref b1), .val (.ref b28), .val (.ref b69), .val (.ref b116), .val (.ref b_153), .val (.int (1 : Int32))] [(.int (1 : Int32)), (.ref b_153), (.ref b69), (.ref b1)])) rfl (by rw [hml]; rfl) (argsL := [(.ref b1), (.ref b69), (.ref b_153), (.int (1 : Int32))]) (rest := []) (lenOf pd_10 rfl) rfl (by show 2 * 0 + _ ≤ _; exact Nat.le_of_eq rfl) (hb hby at_252) (fun _ _ => ⟨rfl, e153, (by decide : 12 + 0 ≤ _), (by decide : 72 + 0 ≤ _)⟩)
    dsimp only [Pt.U, Pt.locs, Pt.cells, Pt.slots] at X180 l180 y180 z180 st180 hQ180
    subst y180 z180
    obtain ⟨rfl, N180q, e180⟩ := hQ180
    have N180 := Fr.app N153 N180q
    rw [← l180] at N180
    clear l180
    refine own_step (st' := T180.setTop (mkF m 255 #[.val (.int x0), .val (.int x1), .val (.int x2), .val (.int x3), .val (.int x4), .val (.ref b1), .val (.ref b28), .val (.ref b69), .val (.ref b116), .val (.ref b_153), .val (.int (1 : Int32))] [(.int o179)])) st180 ?_
    by_cases hc181 : o179 = (0 : Int32)
    · have r182 := own_if1 hc181 ro179
      clear ro179
      cases r182
    · have r183 := own_if0 hc181 ro179
      clear ro179
      refine own_step (st' := T180.setTop (mkF m 258 #[.val (.int x0), .val (.int x1), .val (.int x2), .val (.int x3), .val (.int x4), .val (.ref b1), .val (.ref b28), .val (.ref b69), .val (.ref b116), .val (.ref b_153), .val (.int (1 : Int32))] [])) (fun t k => XS.ifNo X180.here hx rfl (hb hby at_255) rfl ((if0 _ _).trans (feq hc181).1) k) ?_
      refine own_step (st' := T180.setTop (mkF m 260 #[.val (.int x0), .val (.int x1), .val (.int x2), .val (.int x3), .val (.int x4), .val (.ref b1), .val (.ref b28), .val (.ref b69), .val (.ref b116), .val (.ref b_153), .val (.int (1 : Int32))] [(.ref b1)])) (fun t k => XS.aload X180.here hx rfl (hb hby at_258) rfl rfl k) ?_
      refine own_step (st' := T180.setTop (mkF m 262 #[.val (.int x0), .val (.int x1), .val (.int x2), .val (.int x3), .val (.int x4), .val (.ref b1), .val (.ref b28), .val (.ref b69), .val (.ref b116), .val (.ref b_153), .val (.int (1 : Int32))] [(.ref b69), (.ref b1)])) (fun t k => XS.aload X180.here hx rfl (hb hby at_260) rfl rfl k) ?_
      refine own_step (st' := T180.setTop (mkF m 264 #[.val (.int x0), .val (.int x1), .val (.int x2), .val (.int x3), .val (.int x4), .val (.ref b1), .val (.ref b28), .val (.ref b69), .val (.ref b116), .val (.ref b_153), .val (.int (1 : Int32))] [(.ref b_153), (.ref b69), (.ref b1)])) (fun t k => XS.aload X180.here hx rfl (hb hby at_262) rfl rfl k) ?_
      refine own_step (st' := T180.setTop (mkF m 265 #[.val (.int x0), .val (.int x1), .val (.int x2), .val (.int x3), .val (.int x4), .val (.ref b1), .val (.ref b28), .val (.ref b69), .val (.ref b116), .val (.ref b_153), .val (.int (1 : Int32))] [(.int (2 : Int32)), (.ref b_153), (.ref b69), (.ref b1)])) (fun t k => XS.iconst X180.here hx rfl (hb hby at_264) k) ?_
      obtain ⟨o184, ho184, ro184⟩ := own_bind r183
      clear r183
      obtain ⟨_, _, ⟨T185, L185, k185, n185⟩, -, X185, ⟨Lc185, hQ185, l185, y185, z185⟩, st185⟩ := Jvm.LawKit.callS X180 hx (y := (⟨"com/example/rumorwire/rumorwire/TreeSolverInformedInPinLaw", "child", "([I[I[II)Z"⟩ : MethodName)) hown (mvT hZ (hw _ (List.mem_of_getElem? (i := 56) rfl))) (mvT hZ (hw _ (List.mem_of_getElem? (i := 57) rfl))) (mvT hZ (hw _ (List.mem_of_getElem? (i := 4) rfl))) (mvT hZ (hw _ (List.mem_of_getElem? (i := 58) rfl))) (by decide) (backOf (W := 0) (rm12 l Z a0 hw [] b1 b69 b_153 (2 : Int32) k1 k69 kb_153 L25 L111 o152 o184 h153 n0 Z175 f162 f164 pq153_1 ho184) hZ (hw _ (List.mem_of_getElem? (i := 58) rfl)) (hw _ (List.mem_of_getElem? (i := 4) rfl)) (by decide) (by decide)) (g := (mkF m 265 #[.val (.int x0), .val (.int x1), .val (.int x2), .val (.int x3), .val (.int x4), .val (.ref b1), .val (.ref b28), .val (.ref b69), .val (.ref b116), .val (.ref b_153), .val (.int (1 : Int32))] [(.int (2 : Int32)), (.ref b_153), (.ref b69), (.ref b1)])) rfl (by rw [hml]; rfl) (argsL := [(.ref b1), (.ref b69), (.ref b_153), (.int (2 : Int32))]) (rest := []) (lenOf pd_10 rfl) rfl (by show 2 * 0 + _ ≤ _; exact Nat.le_of_eq rfl) (hb hby at_265) (fun _ _ => ⟨rfl, e180, (by decide : 12 + 0 ≤ _), (by decide : 72 + 0 ≤ _)⟩)
      dsimp only [Pt.U, Pt.locs, Pt.cells, Pt.slots] at X185 l185 y185 z185 st185 hQ185
      subst y185 z185
      obtain ⟨rfl, N185q, e185⟩ := hQ185
      have N185 := Fr.app N180 N185q
      rw [← l185] at N185
      clear l185
      refine own_step (st' := T185.setTop (mkF m 268 #[.val (.int x0), .val (.int x1), .val (.int x2), .val (.int x3), .val (.int x4), .val (.ref b1), .val (.ref b28), .val (.ref b69), .val (.ref b116), .val (.ref b_153), .val (.int (1 : Int32))] [(.int o184)])) st185 ?_
      by_cases hc186 : o184 = (0 : Int32)
      · have r187 := own_if1 hc186 ro184
        clear ro184
        cases r187
      · have r188 := own_if0 hc186 ro184
        clear ro184
        refine own_step (st' := T185.setTop (mkF m 271 #[.val (.int x0), .val (.int x1), .val (.int x2), .val (.int x3), .val (.int x4), .val (.ref b1), .val (.ref b28), .val (.ref b69), .val (.ref b116), .val (.ref b_153), .val (.int (1 : Int32))] [])) (fun t k => XS.ifNo X185.here hx rfl (hb hby at_268) rfl ((if0 _ _).trans (feq hc186).1) k) ?_
        refine own_step (st' := T185.setTop (mkF m 273 #[.val (.int x0), .val (.int x1), .val (.int x2), .val (.int x3), .val (.int x4), .val (.ref b1), .val (.ref b28), .val (.ref b69), .val (.ref b116), .val (.ref b_153), .val (.int (1 : Int32))] [(.ref b1)])) (fun t k => XS.aload X185.here hx rfl (hb hby at_271) rfl rfl k) ?_
        refine own_step (st' := T185.setTop (mkF m 275 #[.val (.int x0), .val (.int x1), .val (.int x2), .val (.int x3), .val (.int x4), .val (.ref b1), .val (.ref b28), .val (.ref b69), .val (.ref b116), .val (.ref b_153), .val (.int (1 : Int32))] [(.ref b69), (.ref b1)])) (fun t k => XS.aload X185.here hx rfl (hb hby at_273) rfl rfl k) ?_
        refine own_step (st' := T185.setTop (mkF m 277 #[.val (.int x0), .val (.int x1), .val (.int x2), .val (.int x3), .val (.int x4), .val (.ref b1), .val (.ref b28), .val (.ref b69), .val (.ref b116), .val (.ref b_153), .val (.int (1 : Int32))] [(.ref b_153), (.ref b69), (.ref b1)])) (fun t k => XS.aload X185.here hx rfl (hb hby at_275) rfl rfl k) ?_
        refine own_step (st' := T185.setTop (mkF m 278 #[.val (.int x0), .val (.int x1), .val (.int x2), .val (.int x3), .val (.int x4), .val (.ref b1), .val (.ref b28), .val (.ref b69), .val (.ref b116), .val (.ref b_153), .val (.int (1 : Int32))] [(.int (3 : Int32)), (.ref b_153), (.ref b69), (.ref b1)])) (fun t k => XS.iconst X185.here hx rfl (hb hby at_277) k) ?_
        obtain ⟨o189, ho189, ro189⟩ := own_bind r188
        clear r188
        obtain ⟨_, _, ⟨T190, L190, k190, n190⟩, -, X190, ⟨Lc190, hQ190, l190, y190, z190⟩, st190⟩ := Jvm.LawKit.callS X185 hx (y := (⟨"com/example/rumorwire/rumorwire/TreeSolverInformedInPinLaw", "child", "([I[I[II)Z"⟩ : MethodName)) hown (mvT hZ (hw _ (List.mem_of_getElem? (i := 56) rfl))) (mvT hZ (hw _ (List.mem_of_getElem? (i := 57) rfl))) (mvT hZ (hw _ (List.mem_of_getElem? (i := 4) rfl))) (mvT hZ (hw _ (List.mem_of_getElem? (i := 58) rfl))) (by decide) (backOf (W := 0) (rm12 l Z a0 hw [] b1 b69 b_153 (3 : Int32) k1 k69 kb_153 L25 L111 o152 o189 h153 n0 Z175 f162 f164 pq153_1 ho189) hZ (hw _ (List.mem_of_getElem? (i := 58) rfl)) (hw _ (List.mem_of_getElem? (i := 4) rfl)) (by decide) (by decide)) (g := (mkF m 278 #[.val (.int x0), .val (.int x1), .val (.int x2), .val (.int x3), .val (.int x4), .val (.ref b1), .val (.ref b28), .val (.ref b69), .val (.ref b116), .val (.ref b_153), .val (.int (1 : Int32))] [(.int (3 : Int32)), (.ref b_153), (.ref b69), (.ref b1)])) rfl (by rw [hml]; rfl) (argsL := [(.ref b1), (.ref b69), (.ref b_153), (.int (3 : Int32))]) (rest := []) (lenOf pd_10 rfl) rfl (by show 2 * 0 + _ ≤ _; exact Nat.le_of_eq rfl) (hb hby at_278) (fun _ _ => ⟨rfl, e185, (by decide : 12 + 0 ≤ _), (by decide : 72 + 0 ≤ _)⟩)
        dsimp only [Pt.U, Pt.locs, Pt.cells, Pt.slots] at X190 l190 y190 z190 st190 hQ190
        subst y190 z190
        obtain ⟨rfl, N190q, e190⟩ := hQ190
        have N190 := Fr.app N185 N190q
        rw [← l190] at N190
        clear l190
        refine own_step (st' := T190.setTop (mkF m 281 #[.val (.int x0), .val (.int x1), .val (.int x2), .val (.int x3), .val (.int x4), .val (.ref b1), .val (.ref b28), .val (.ref b69), .val (.ref b116), .val (.ref b_153), .val (.int (1 : Int32))] [(.int o189)])) st190 ?_
        by_cases hc191 : o189 = (0 : Int32)
        · have r192 := own_if1 hc191 ro189
          clear ro189
          cases r192
        · have r193 := own_if0 hc191 ro189
          clear ro189
          refine own_step (st' := T190.setTop (mkF m 284 #[.val (.int x0), .val (.int x1), .val (.int x2), .val (.int x3), .val (.int x4), .val (.ref b1), .val (.ref b28), .val (.ref b69), .val (.ref b116), .val (.ref b_153), .val (.int (1 : Int32))] [])) (fun t k => XS.ifNo X190.here hx rfl (hb hby at_281) rfl ((if0 _ _).trans (feq hc191).1) k) ?_
          refine own_step (st' := T190.setTop (mkF m 286 #[.val (.int x0), .val (.int x1), .val (.int x2), .val (.int x3), .val (.int x4), .val (.ref b1), .val (.ref b28), .val (.ref b69), .val (.ref b116), .val (.ref b_153), .val (.int (1 : Int32))] [(.ref b1)])) (fun t k => XS.aload X190.here hx rfl (hb hby at_284) rfl rfl k) ?_
          refine own_step (st' := T190.setTop (mkF m 288 #[.val (.int x0), .val (.int x1), .val (.int x2), .val (.int x3), .val (.int x4), .val (.ref b1), .val (.ref b28), .val (.ref b69), .val (.ref b116), .val (.ref b_153), .val (.int (1 : Int32))] [(.ref b69), (.ref b1)])) (fun t k => XS.aload X190.here hx rfl (hb hby at_286) rfl rfl k) ?_
          refine own_step (st' := T190.setTop (mkF m 290 #[.val (.int x0), .val (.int x1), .val (.int x2), .val (.int x3), .val (.int x4), .val (.ref b1), .val (.ref b28), .val (.ref b69), .val (.ref b116), .val (.ref b_153), .val (.int (1 : Int32))] [(.ref b_153), (.ref b69), (.ref b1)])) (fun t k => XS.aload X190.here hx rfl (hb hby at_288) rfl rfl k) ?_
          refine own_step (st' := T190.setTop (mkF m 291 #[.val (.int x0), .val (.int x1), .val (.int x2), .val (.int x3), .val (.int x4), .val (.ref b1), .val (.ref b28), .val (.ref b69), .val (.ref b116), .val (.ref b_153), .val (.int (1 : Int32))] [(.int (4 : Int32)), (.ref b_153), (.ref b69), (.ref b1)])) (fun t k => XS.iconst X190.here hx rfl (hb hby at_290) k) ?_
          obtain ⟨o194, ho194, ro194⟩ := own_bind r193
          clear r193
          obtain ⟨_, _, ⟨T195, L195, k195, n195⟩, -, X195, ⟨Lc195, hQ195, l195, y195, z195⟩, st195⟩ := Jvm.LawKit.callS X190 hx (y := (⟨"com/example/rumorwire/rumorwire/TreeSolverInformedInPinLaw", "child", "([I[I[II)Z"⟩ : MethodName)) hown (mvT hZ (hw _ (List.mem_of_getElem? (i := 56) rfl))) (mvT hZ (hw _ (List.mem_of_getElem? (i := 57) rfl))) (mvT hZ (hw _ (List.mem_of_getElem? (i := 4) rfl))) (mvT hZ (hw _ (List.mem_of_getElem? (i := 58) rfl))) (by decide) (backOf (W := 0) (rm12 l Z a0 hw [] b1 b69 b_153 (4 : Int32) k1 k69 kb_153 L25 L111 o152 o194 h153 n0 Z175 f162 f164 pq153_1 ho194) hZ (hw _ (List.mem_of_getElem? (i := 58) rfl)) (hw _ (List.mem_of_getElem? (i := 4) rfl)) (by decide) (by decide)) (g := (mkF m 291 #[.val (.int x0), .val (.int x1), .val (.int x2), .val (.int x3), .val (.int x4), .val (.ref b1), .val (.ref b28), .val (.ref b69), .val (.ref b116), .val (.ref b_153), .val (.int (1 : Int32))] [(.int (4 : Int32)), (.ref b_153), (.ref b69), (.ref b1)])) rfl (by rw [hml]; rfl) (argsL := [(.ref b1), (.ref b69), (.ref b_153), (.int (4 : Int32))]) (rest := []) (lenOf pd_10 rfl) rfl (by show 2 * 0 + _ ≤ _; exact Nat.le_of_eq rfl) (hb hby at_291) (fun _ _ => ⟨rfl, e190, (by decide : 12 + 0 ≤ _), (by decide : 72 + 0 ≤ _)⟩)
          dsimp only [Pt.U, Pt.locs, Pt.cells, Pt.slots] at X195 l195 y195 z195 st195 hQ195
          subst y195 z195
          obtain ⟨rfl, N195q, e195⟩ := hQ195
          have N195 := Fr.app N190 N195q
          rw [← l195] at N195
          clear l195
          refine own_step (st' := T195.setTop (mkF m 294 #[.val (.int x0), .val (.int x1), .val (.int x2), .val (.int x3), .val (.int x4), .val (.ref b1), .val (.ref b28), .val (.ref b69), .val (.ref b116), .val (.ref b_153), .val (.int (1 : Int32))] [(.int o194)])) st195 ?_
          by_cases hc196 : o194 = (0 : Int32)
          · have r197 := own_if1 hc196 ro194
            clear ro194
            cases r197
          · have r198 := own_if0 hc196 ro194
            clear ro194
            refine own_step (st' := T195.setTop (mkF m 297 #[.val (.int x0), .val (.int x1), .val (.int x2), .val (.int x3), .val (.int x4), .val (.ref b1), .val (.ref b28), .val (.ref b69), .val (.ref b116), .val (.ref b_153), .val (.int (1 : Int32))] [])) (fun t k => XS.ifNo X195.here hx rfl (hb hby at_294) rfl ((if0 _ _).trans (feq hc196).1) k) ?_
            refine own_step (st' := T195.setTop (mkF m 299 #[.val (.int x0), .val (.int x1), .val (.int x2), .val (.int x3), .val (.int x4), .val (.ref b1), .val (.ref b28), .val (.ref b69), .val (.ref b116), .val (.ref b_153), .val (.int (1 : Int32))] [(.ref b1)])) (fun t k => XS.aload X195.here hx rfl (hb hby at_297) rfl rfl k) ?_
            refine own_step (st' := T195.setTop (mkF m 301 #[.val (.int x0), .val (.int x1), .val (.int x2), .val (.int x3), .val (.int x4), .val (.ref b1), .val (.ref b28), .val (.ref b69), .val (.ref b116), .val (.ref b_153), .val (.int (1 : Int32))] [(.ref b69), (.ref b1)])) (fun t k => XS.aload X195.here hx rfl (hb hby at_299) rfl rfl k) ?_
            refine own_step (st' := T195.setTop (mkF m 303 #[.val (.int x0), .val (.int x1), .val (.int x2), .val (.int x3), .val (.int x4), .val (.ref b1), .val (.ref b28), .val (.ref b69), .val (.ref b116), .val (.ref b_153), .val (.int (1 : Int32))] [(.ref b_153), (.ref b69), (.ref b1)])) (fun t k => XS.aload X195.here hx rfl (hb hby at_301) rfl rfl k) ?_
            refine own_step (st' := T195.setTop (mkF m 304 #[.val (.int x0), .val (.int x1), .val (.int x2), .val (.int x3), .val (.int x4), .val (.ref b1), .val (.ref b28), .val (.ref b69), .val (.ref b116), .val (.ref b_153), .val (.int (1 : Int32))] [(.int (5 : Int32)), (.ref b_153), (.ref b69), (.ref b1)])) (fun t k => XS.iconst X195.here hx rfl (hb hby at_303) k) ?_
            obtain ⟨o199, ho199, ro199⟩ := own_bind r198
            clear r198
            obtain ⟨_, _, ⟨T200, L200, k200, n200⟩, -, X200, ⟨Lc200, hQ200, l200, y200, z200⟩, st200⟩ := Jvm.LawKit.callS X195 hx (y := (⟨"com/example/rumorwire/rumorwire/TreeSolverInformedInPinLaw", "child", "([I[I[II)Z"⟩ : MethodName)) hown (mvT hZ (hw _ (List.mem_of_getElem? (i := 56) rfl))) (mvT hZ (hw _ (List.mem_of_getElem? (i := 57) rfl))) (mvT hZ (hw _ (List.mem_of_getElem? (i := 4) rfl))) (mvT hZ (hw _ (List.mem_of_getElem? (i := 58) rfl))) (by decide) (backOf (W := 0) (rm12 l Z a0 hw [] b1 b69 b_153 (5 : Int32) k1 k69 kb_153 L25 L111 o152 o199 h153 n0 Z175 f162 f164 pq153_1 ho199) hZ (hw _ (List.mem_of_getElem? (i := 58) rfl)) (hw _ (List.mem_of_getElem? (i := 4) rfl)) (by decide) (by decide)) (g := (mkF m 304 #[.val (.int x0), .val (.int x1), .val (.int x2), .val (.int x3), .val (.int x4), .val (.ref b1), .val (.ref b28), .val (.ref b69), .val (.ref b116), .val (.ref b_153), .val (.int (1 : Int32))] [(.int (5 : Int32)), (.ref b_153), (.ref b69), (.ref b1)])) rfl (by rw [hml]; rfl) (argsL := [(.ref b1), (.ref b69), (.ref b_153), (.int (5 : Int32))]) (rest := []) (lenOf pd_10 rfl) rfl (by show 2 * 0 + _ ≤ _; exact Nat.le_of_eq rfl) (hb hby at_304) (fun _ _ => ⟨rfl, e195, (by decide : 12 + 0 ≤ _), (by decide : 72 + 0 ≤ _)⟩)
            dsimp only [Pt.U, Pt.locs, Pt.cells, Pt.slots] at X200 l200 y200 z200 st200 hQ200
            subst y200 z200
            obtain ⟨rfl, N200q, e200⟩ := hQ200
            have N200 := Fr.app N195 N200q
            rw [← l200] at N200
            clear l200
            refine own_step (st' := T200.setTop (mkF m 307 #[.val (.int x0), .val (.int x1), .val (.int x2), .val (.int x3), .val (.int x4), .val (.ref b1), .val (.ref b28), .val (.ref b69), .val (.ref b116), .val (.ref b_153), .val (.int (1 : Int32))] [(.int o199)])) st200 ?_
            by_cases hc201 : o199 = (0 : Int32)
            · have r202 := own_if1 hc201 ro199
              clear ro199
              cases r202
            · have r203 := own_if0 hc201 ro199
              clear ro199
              refine own_step (st' := T200.setTop (mkF m 310 #[.val (.int x0), .val (.int x1), .val (.int x2), .val (.int x3), .val (.int x4), .val (.ref b1), .val (.ref b28), .val (.ref b69), .val (.ref b116), .val (.ref b_153), .val (.int (1 : Int32))] [])) (fun t k => XS.ifNo X200.here hx rfl (hb hby at_307) rfl ((if0 _ _).trans (feq hc201).1) k) ?_
              refine own_step (st' := T200.setTop (mkF m 311 #[.val (.int x0), .val (.int x1), .val (.int x2), .val (.int x3), .val (.int x4), .val (.ref b1), .val (.ref b28), .val (.ref b69), .val (.ref b116), .val (.ref b_153), .val (.int (1 : Int32))] [(.int (1 : Int32))])) (fun t k => XS.iconst X200.here hx rfl (hb hby at_310) k) ?_
              refine own_step (st' := T200.setTop (mkF m 315 #[.val (.int x0), .val (.int x1), .val (.int x2), .val (.int x3), .val (.int x4), .val (.ref b1), .val (.ref b28), .val (.ref b69), .val (.ref b116), .val (.ref b_153), .val (.int (1 : Int32))] [(.int (1 : Int32))])) (fun t k => XS.goto X200.here hx rfl (pc0 := 311) (pc' := 315) rfl (hb hby at_311) (by decide) (by decide) k) ?_
              refine own_step (st' := T200.setTop (mkF m 317 #[.val (.int x0), .val (.int x1), .val (.int x2), .val (.int x3), .val (.int x4), .val (.ref b1), .val (.ref b28), .val (.ref b69), .val (.ref b116), .val (.ref b_153), .val (.int (1 : Int32))] [])) (fun t k => XS.istore X200.here hx rfl (hb hby at_315) rfl (l' := #[.val (.int x0), .val (.int x1), .val (.int x2), .val (.int x3), .val (.int x4), .val (.ref b1), .val (.ref b28), .val (.ref b69), .val (.ref b116), .val (.ref b_153), .val (.int (1 : Int32))]) rfl k) ?_
              refine own_step (st' := T200.setTop (mkF m 319 #[.val (.int x0), .val (.int x1), .val (.int x2), .val (.int x3), .val (.int x4), .val (.ref b1), .val (.ref b28), .val (.ref b69), .val (.ref b116), .val (.ref b_153), .val (.int (1 : Int32))] [(.int (1 : Int32))])) (fun t k => XS.iload X200.here hx rfl (hb hby at_317) rfl k) ?_
              refine own_step (st' := T200.setTop (mkF m 322 #[.val (.int x0), .val (.int x1), .val (.int x2), .val (.int x3), .val (.int x4), .val (.ref b1), .val (.ref b28), .val (.ref b69), .val (.ref b116), .val (.ref b_153), .val (.int (1 : Int32))] [])) (fun t k => XS.ifNo X200.here hx rfl (hb hby at_319) rfl ((if0 _ _).trans (feq (by decide)).1) k) ?_
              refine own_step (st' := T200.setTop (mkF m 324 #[.val (.int x0), .val (.int x1), .val (.int x2), .val (.int x3), .val (.int x4), .val (.ref b1), .val (.ref b28), .val (.ref b69), .val (.ref b116), .val (.ref b_153), .val (.int (1 : Int32))] [(.ref b1)])) (fun t k => XS.aload X200.here hx rfl (hb hby at_322) rfl rfl k) ?_
              refine own_step (st' := T200.setTop (mkF m 326 #[.val (.int x0), .val (.int x1), .val (.int x2), .val (.int x3), .val (.int x4), .val (.ref b1), .val (.ref b28), .val (.ref b69), .val (.ref b116), .val (.ref b_153), .val (.int (1 : Int32))] [(.ref b_153), (.ref b1)])) (fun t k => XS.aload X200.here hx rfl (hb hby at_324) rfl rfl k) ?_
              refine own_step (st' := T200.setTop (mkF m 327 #[.val (.int x0), .val (.int x1), .val (.int x2), .val (.int x3), .val (.int x4), .val (.ref b1), .val (.ref b28), .val (.ref b69), .val (.ref b116), .val (.ref b_153), .val (.int (1 : Int32))] [(.int (1 : Int32)), (.ref b_153), (.ref b1)])) (fun t k => XS.iconst X200.here hx rfl (hb hby at_326) k) ?_
              refine own_step (st' := T200.setTop (mkF m 328 #[.val (.int x0), .val (.int x1), .val (.int x2), .val (.int x3), .val (.int x4), .val (.ref b1), .val (.ref b28), .val (.ref b69), .val (.ref b116), .val (.ref b_153), .val (.int (1 : Int32))] [(.int (2 : Int32)), (.int (1 : Int32)), (.ref b_153), (.ref b1)])) (fun t k => XS.iconst X200.here hx rfl (hb hby at_327) k) ?_
              obtain ⟨o204, ho204, ro204⟩ := own_bind r203
              clear r203
              obtain ⟨_, _, ⟨T205, L205, k205, n205⟩, -, X205, ⟨Lc205, hQ205, l205, y205, z205⟩, st205⟩ := Jvm.LawKit.callS X200 hx (y := (⟨"com/example/rumorwire/rumorwire/TreeSolverInformedInPinLaw", "apart", "([I[III)Z"⟩ : MethodName)) hown (mvT hZ (hw _ (List.mem_of_getElem? (i := 59) rfl))) (mvT hZ (hw _ (List.mem_of_getElem? (i := 60) rfl))) (mvT hZ (hw _ (List.mem_of_getElem? (i := 4) rfl))) (mvT hZ (hw _ (List.mem_of_getElem? (i := 61) rfl))) (by decide) (backOf (W := 0) (rm13 l Z a0 hw [] b1 b_153 (1 : Int32) (2 : Int32) k1 kb_153 L25 o152 o204 h153 n0 Z175 f162 pq153_1 ho204) hZ (hw _ (List.mem_of_getElem? (i := 61) rfl)) (hw _ (List.mem_of_getElem? (i := 4) rfl)) (by decide) (by decide)) (g := (mkF m 328 #[.val (.int x0), .val (.int x1), .val (.int x2), .val (.int x3), .val (.int x4), .val (.ref b1), .val (.ref b28), .val (.ref b69), .val (.ref b116), .val (.ref b_153), .val (.int (1 : Int32))] [(.int (2 : Int32)), (.int (1 : Int32)), (.ref b_153), (.ref b1)])) rfl (by rw [hml]; rfl) (argsL := [(.ref b1), (.ref b_153), (.int (1 : Int32)), (.int (2 : Int32))]) (rest := []) (lenOf pd_11 rfl) rfl (by show 2 * 0 + _ ≤ _; exact Nat.le_of_eq rfl) (hb hby at_328) (fun _ _ => ⟨rfl, e200, (by decide : 12 + 0 ≤ _), (by decide : 72 + 0 ≤ _)⟩)
              dsimp only [Pt.U, Pt.locs, Pt.cells, Pt.slots] at X205 l205 y205 z205 st205 hQ205
              subst y205 z205
              obtain ⟨rfl, N205q, e205⟩ := hQ205
              have N205 := Fr.app N200 N205q
              rw [← l205] at N205
              clear l205
              refine own_step (st' := T205.setTop (mkF m 331 #[.val (.int x0), .val (.int x1), .val (.int x2), .val (.int x3), .val (.int x4), .val (.ref b1), .val (.ref b28), .val (.ref b69), .val (.ref b116), .val (.ref b_153), .val (.int (1 : Int32))] [(.int o204)])) st205 ?_
              by_cases hc206 : o204 = (0 : Int32)
              · have r207 := own_if1 hc206 ro204
                clear ro204
                cases r207
              · have r208 := own_if0 hc206 ro204
                clear ro204
                refine own_step (st' := T205.setTop (mkF m 334 #[.val (.int x0), .val (.int x1), .val (.int x2), .val (.int x3), .val (.int x4), .val (.ref b1), .val (.ref b28), .val (.ref b69), .val (.ref b116), .val (.ref b_153), .val (.int (1 : Int32))] [])) (fun t k => XS.ifNo X205.here hx rfl (hb hby at_331) rfl ((if0 _ _).trans (feq hc206).1) k) ?_
                refine own_step (st' := T205.setTop (mkF m 336 #[.val (.int x0), .val (.int x1), .val (.int x2), .val (.int x3), .val (.int x4), .val (.ref b1), .val (.ref b28), .val (.ref b69), .val (.ref b116), .val (.ref b_153), .val (.int (1 : Int32))] [(.ref b1)])) (fun t k => XS.aload X205.here hx rfl (hb hby at_334) rfl rfl k) ?_
                refine own_step (st' := T205.setTop (mkF m 338 #[.val (.int x0), .val (.int x1), .val (.int x2), .val (.int x3), .val (.int x4), .val (.ref b1), .val (.ref b28), .val (.ref b69), .val (.ref b116), .val (.ref b_153), .val (.int (1 : Int32))] [(.ref b_153), (.ref b1)])) (fun t k => XS.aload X205.here hx rfl (hb hby at_336) rfl rfl k) ?_
                refine own_step (st' := T205.setTop (mkF m 339 #[.val (.int x0), .val (.int x1), .val (.int x2), .val (.int x3), .val (.int x4), .val (.ref b1), .val (.ref b28), .val (.ref b69), .val (.ref b116), .val (.ref b_153), .val (.int (1 : Int32))] [(.int (1 : Int32)), (.ref b_153), (.ref b1)])) (fun t k => XS.iconst X205.here hx rfl (hb hby at_338) k) ?_
                refine own_step (st' := T205.setTop (mkF m 340 #[.val (.int x0), .val (.int x1), .val (.int x2), .val (.int x3), .val (.int x4), .val (.ref b1), .val (.ref b28), .val (.ref b69), .val (.ref b116), .val (.ref b_153), .val (.int (1 : Int32))] [(.int (3 : Int32)), (.int (1 : Int32)), (.ref b_153), (.ref b1)])) (fun t k => XS.iconst X205.here hx rfl (hb hby at_339) k) ?_
                obtain ⟨o209, ho209, ro209⟩ := own_bind r208
                clear r208
                obtain ⟨_, _, ⟨T210, L210, k210, n210⟩, -, X210, ⟨Lc210, hQ210, l210, y210, z210⟩, st210⟩ := Jvm.LawKit.callS X205 hx (y := (⟨"com/example/rumorwire/rumorwire/TreeSolverInformedInPinLaw", "apart", "([I[III)Z"⟩ : MethodName)) hown (mvT hZ (hw _ (List.mem_of_getElem? (i := 59) rfl))) (mvT hZ (hw _ (List.mem_of_getElem? (i := 60) rfl))) (mvT hZ (hw _ (List.mem_of_getElem? (i := 4) rfl))) (mvT hZ (hw _ (List.mem_of_getElem? (i := 61) rfl))) (by decide) (backOf (W := 0) (rm13 l Z a0 hw [] b1 b_153 (1 : Int32) (3 : Int32) k1 kb_153 L25 o152 o209 h153 n0 Z175 f162 pq153_1 ho209) hZ (hw _ (List.mem_of_getElem? (i := 61) rfl)) (hw _ (List.mem_of_getElem? (i := 4) rfl)) (by decide) (by decide)) (g := (mkF m 340 #[.val (.int x0), .val (.int x1), .val (.int x2), .val (.int x3), .val (.int x4), .val (.ref b1), .val (.ref b28), .val (.ref b69), .val (.ref b116), .val (.ref b_153), .val (.int (1 : Int32))] [(.int (3 : Int32)), (.int (1 : Int32)), (.ref b_153), (.ref b1)])) rfl (by rw [hml]; rfl) (argsL := [(.ref b1), (.ref b_153), (.int (1 : Int32)), (.int (3 : Int32))]) (rest := []) (lenOf pd_11 rfl) rfl (by show 2 * 0 + _ ≤ _; exact Nat.le_of_eq rfl) (hb hby at_340) (fun _ _ => ⟨rfl, e205, (by decide : 12 + 0 ≤ _), (by decide : 72 + 0 ≤ _)⟩)
                dsimp only [Pt.U, Pt.locs, Pt.cells, Pt.slots] at X210 l210 y210 z210 st210 hQ210
                subst y210 z210
                obtain ⟨rfl, N210q, e210⟩ := hQ210
                have N210 := Fr.app N205 N210q
                rw [← l210] at N210
                clear l210
                refine own_step (st' := T210.setTop (mkF m 343 #[.val (.int x0), .val (.int x1), .val (.int x2), .val (.int x3), .val (.int x4), .val (.ref b1), .val (.ref b28), .val (.ref b69), .val (.ref b116), .val (.ref b_153), .val (.int (1 : Int32))] [(.int o209)])) st210 ?_
                by_cases hc211 : o209 = (0 : Int32)
                · have r212 := own_if1 hc211 ro209
                  clear ro209
                  cases r212
                · have r213 := own_if0 hc211 ro209
                  clear ro209
                  refine own_step (st' := T210.setTop (mkF m 346 #[.val (.int x0), .val (.int x1), .val (.int x2), .val (.int x3), .val (.int x4), .val (.ref b1), .val (.ref b28), .val (.ref b69), .val (.ref b116), .val (.ref b_153), .val (.int (1 : Int32))] [])) (fun t k => XS.ifNo X210.here hx rfl (hb hby at_343) rfl ((if0 _ _).trans (feq hc211).1) k) ?_
                  refine own_step (st' := T210.setTop (mkF m 348 #[.val (.int x0), .val (.int x1), .val (.int x2), .val (.int x3), .val (.int x4), .val (.ref b1), .val (.ref b28), .val (.ref b69), .val (.ref b116), .val (.ref b_153), .val (.int (1 : Int32))] [(.ref b1)])) (fun t k => XS.aload X210.here hx rfl (hb hby at_346) rfl rfl k) ?_
                  refine own_step (st' := T210.setTop (mkF m 350 #[.val (.int x0), .val (.int x1), .val (.int x2), .val (.int x3), .val (.int x4), .val (.ref b1), .val (.ref b28), .val (.ref b69), .val (.ref b116), .val (.ref b_153), .val (.int (1 : Int32))] [(.ref b_153), (.ref b1)])) (fun t k => XS.aload X210.here hx rfl (hb hby at_348) rfl rfl k) ?_
                  refine own_step (st' := T210.setTop (mkF m 351 #[.val (.int x0), .val (.int x1), .val (.int x2), .val (.int x3), .val (.int x4), .val (.ref b1), .val (.ref b28), .val (.ref b69), .val (.ref b116), .val (.ref b_153), .val (.int (1 : Int32))] [(.int (1 : Int32)), (.ref b_153), (.ref b1)])) (fun t k => XS.iconst X210.here hx rfl (hb hby at_350) k) ?_
                  refine own_step (st' := T210.setTop (mkF m 352 #[.val (.int x0), .val (.int x1), .val (.int x2), .val (.int x3), .val (.int x4), .val (.ref b1), .val (.ref b28), .val (.ref b69), .val (.ref b116), .val (.ref b_153), .val (.int (1 : Int32))] [(.int (4 : Int32)), (.int (1 : Int32)), (.ref b_153), (.ref b1)])) (fun t k => XS.iconst X210.here hx rfl (hb hby at_351) k) ?_
                  obtain ⟨o214, ho214, ro214⟩ := own_bind r213
                  clear r213
                  obtain ⟨_, _, ⟨T215, L215, k215, n215⟩, -, X215, ⟨Lc215, hQ215, l215, y215, z215⟩, st215⟩ := Jvm.LawKit.callS X210 hx (y := (⟨"com/example/rumorwire/rumorwire/TreeSolverInformedInPinLaw", "apart", "([I[III)Z"⟩ : MethodName)) hown (mvT hZ (hw _ (List.mem_of_getElem? (i := 59) rfl))) (mvT hZ (hw _ (List.mem_of_getElem? (i := 60) rfl))) (mvT hZ (hw _ (List.mem_of_getElem? (i := 4) rfl))) (mvT hZ (hw _ (List.mem_of_getElem? (i := 61) rfl))) (by decide) (backOf (W := 0) (rm13 l Z a0 hw [] b1 b_153 (1 : Int32) (4 : Int32) k1 kb_153 L25 o152 o214 h153 n0 Z175 f162 pq153_1 ho214) hZ (hw _ (List.mem_of_getElem? (i := 61) rfl)) (hw _ (List.mem_of_getElem? (i := 4) rfl)) (by decide) (by decide)) (g := (mkF m 352 #[.val (.int x0), .val (.int x1), .val (.int x2), .val (.int x3), .val (.int x4), .val (.ref b1), .val (.ref b28), .val (.ref b69), .val (.ref b116), .val (.ref b_153), .val (.int (1 : Int32))] [(.int (4 : Int32)), (.int (1 : Int32)), (.ref b_153), (.ref b1)])) rfl (by rw [hml]; rfl) (argsL := [(.ref b1), (.ref b_153), (.int (1 : Int32)), (.int (4 : Int32))]) (rest := []) (lenOf pd_11 rfl) rfl (by show 2 * 0 + _ ≤ _; exact Nat.le_of_eq rfl) (hb hby at_352) (fun _ _ => ⟨rfl, e210, (by decide : 12 + 0 ≤ _), (by decide : 72 + 0 ≤ _)⟩)
                  dsimp only [Pt.U, Pt.locs, Pt.cells, Pt.slots] at X215 l215 y215 z215 st215 hQ215
                  subst y215 z215
                  obtain ⟨rfl, N215q, e215⟩ := hQ215
                  have N215 := Fr.app N210 N215q
                  rw [← l215] at N215
                  clear l215
                  refine own_step (st' := T215.setTop (mkF m 355 #[.val (.int x0), .val (.int x1), .val (.int x2), .val (.int x3), .val (.int x4), .val (.ref b1), .val (.ref b28), .val (.ref b69), .val (.ref b116), .val (.ref b_153), .val (.int (1 : Int32))] [(.int o214)])) st215 ?_
                  by_cases hc216 : o214 = (0 : Int32)
                  · have r217 := own_if1 hc216 ro214
                    clear ro214
                    cases r217
                  · have r218 := own_if0 hc216 ro214
                    clear ro214
                    refine own_step (st' := T215.setTop (mkF m 358 #[.val (.int x0), .val (.int x1), .val (.int x2), .val (.int x3), .val (.int x4), .val (.ref b1), .val (.ref b28), .val (.ref b69), .val (.ref b116), .val (.ref b_153), .val (.int (1 : Int32))] [])) (fun t k => XS.ifNo X215.here hx rfl (hb hby at_355) rfl ((if0 _ _).trans (feq hc216).1) k) ?_
                    refine own_step (st' := T215.setTop (mkF m 360 #[.val (.int x0), .val (.int x1), .val (.int x2), .val (.int x3), .val (.int x4), .val (.ref b1), .val (.ref b28), .val (.ref b69), .val (.ref b116), .val (.ref b_153), .val (.int (1 : Int32))] [(.ref b1)])) (fun t k => XS.aload X215.here hx rfl (hb hby at_358) rfl rfl k) ?_
                    refine own_step (st' := T215.setTop (mkF m 362 #[.val (.int x0), .val (.int x1), .val (.int x2), .val (.int x3), .val (.int x4), .val (.ref b1), .val (.ref b28), .val (.ref b69), .val (.ref b116), .val (.ref b_153), .val (.int (1 : Int32))] [(.ref b_153), (.ref b1)])) (fun t k => XS.aload X215.here hx rfl (hb hby at_360) rfl rfl k) ?_
                    refine own_step (st' := T215.setTop (mkF m 363 #[.val (.int x0), .val (.int x1), .val (.int x2), .val (.int x3), .val (.int x4), .val (.ref b1), .val (.ref b28), .val (.ref b69), .val (.ref b116), .val (.ref b_153), .val (.int (1 : Int32))] [(.int (1 : Int32)), (.ref b_153), (.ref b1)])) (fun t k => XS.iconst X215.here hx rfl (hb hby at_362) k) ?_
                    refine own_step (st' := T215.setTop (mkF m 364 #[.val (.int x0), .val (.int x1), .val (.int x2), .val (.int x3), .val (.int x4), .val (.ref b1), .val (.ref b28), .val (.ref b69), .val (.ref b116), .val (.ref b_153), .val (.int (1 : Int32))] [(.int (5 : Int32)), (.int (1 : Int32)), (.ref b_153), (.ref b1)])) (fun t k => XS.iconst X215.here hx rfl (hb hby at_363) k) ?_
                    obtain ⟨o219, ho219, ro219⟩ := own_bind r218
                    clear r218
                    obtain ⟨_, _, ⟨T220, L220, k220, n220⟩, -, X220, ⟨Lc220, hQ220, l220, y220, z220⟩, st220⟩ := Jvm.LawKit.callS X215 hx (y := (⟨"com/example/rumorwire/rumorwire/TreeSolverInformedInPinLaw", "apart", "([I[III)Z"⟩ : MethodName)) hown (mvT hZ (hw _ (List.mem_of_getElem? (i := 59) rfl))) (mvT hZ (hw _ (List.mem_of_getElem? (i := 60) rfl))) (mvT hZ (hw _ (List.mem_of_getElem? (i := 4) rfl))) (mvT hZ (hw _ (List.mem_of_getElem? (i := 61) rfl))) (by decide) (backOf (W := 0) (rm13 l Z a0 hw [] b1 b_153 (1 : Int32) (5 : Int32) k1 kb_153 L25 o152 o219 h153 n0 Z175 f162 pq153_1 ho219) hZ (hw _ (List.mem_of_getElem? (i := 61) rfl)) (hw _ (List.mem_of_getElem? (i := 4) rfl)) (by decide) (by decide)) (g := (mkF m 364 #[.val (.int x0), .val (.int x1), .val (.int x2), .val (.int x3), .val (.int x4), .val (.ref b1), .val (.ref b28), .val (.ref b69), .val (.ref b116), .val (.ref b_153), .val (.int (1 : Int32))] [(.int (5 : Int32)), (.int (1 : Int32)), (.ref b_153), (.ref b1)])) rfl (by rw [hml]; rfl) (argsL := [(.ref b1), (.ref b_153), (.int (1 : Int32)), (.int (5 : Int32))]) (rest := []) (lenOf pd_11 rfl) rfl (by show 2 * 0 + _ ≤ _; exact Nat.le_of_eq rfl) (hb hby at_364) (fun _ _ => ⟨rfl, e215, (by decide : 12 + 0 ≤ _), (by decide : 72 + 0 ≤ _)⟩)
                    dsimp only [Pt.U, Pt.locs, Pt.cells, Pt.slots] at X220 l220 y220 z220 st220 hQ220
                    subst y220 z220
                    obtain ⟨rfl, N220q, e220⟩ := hQ220
                    have N220 := Fr.app N215 N220q
                    rw [← l220] at N220
                    clear l220
                    refine own_step (st' := T220.setTop (mkF m 367 #[.val (.int x0), .val (.int x1), .val (.int x2), .val (.int x3), .val (.int x4), .val (.ref b1), .val (.ref b28), .val (.ref b69), .val (.ref b116), .val (.ref b_153), .val (.int (1 : Int32))] [(.int o219)])) st220 ?_
                    by_cases hc221 : o219 = (0 : Int32)
                    · have r222 := own_if1 hc221 ro219
                      clear ro219
                      cases r222
                    · have r223 := own_if0 hc221 ro219
                      clear ro219
                      refine own_step (st' := T220.setTop (mkF m 370 #[.val (.int x0), .val (.int x1), .val (.int x2), .val (.int x3), .val (.int x4), .val (.ref b1), .val (.ref b28), .val (.ref b69), .val (.ref b116), .val (.ref b_153), .val (.int (1 : Int32))] [])) (fun t k => XS.ifNo X220.here hx rfl (hb hby at_367) rfl ((if0 _ _).trans (feq hc221).1) k) ?_
                      refine own_step (st' := T220.setTop (mkF m 371 #[.val (.int x0), .val (.int x1), .val (.int x2), .val (.int x3), .val (.int x4), .val (.ref b1), .val (.ref b28), .val (.ref b69), .val (.ref b116), .val (.ref b_153), .val (.int (1 : Int32))] [(.int (1 : Int32))])) (fun t k => XS.iconst X220.here hx rfl (hb hby at_370) k) ?_
                      refine own_step (st' := T220.setTop (mkF m 375 #[.val (.int x0), .val (.int x1), .val (.int x2), .val (.int x3), .val (.int x4), .val (.ref b1), .val (.ref b28), .val (.ref b69), .val (.ref b116), .val (.ref b_153), .val (.int (1 : Int32))] [(.int (1 : Int32))])) (fun t k => XS.goto X220.here hx rfl (pc0 := 371) (pc' := 375) rfl (hb hby at_371) (by decide) (by decide) k) ?_
                      refine own_step (st' := T220.setTop (mkF m 377 #[.val (.int x0), .val (.int x1), .val (.int x2), .val (.int x3), .val (.int x4), .val (.ref b1), .val (.ref b28), .val (.ref b69), .val (.ref b116), .val (.ref b_153), .val (.int (1 : Int32))] [])) (fun t k => XS.istore X220.here hx rfl (hb hby at_375) rfl (l' := #[.val (.int x0), .val (.int x1), .val (.int x2), .val (.int x3), .val (.int x4), .val (.ref b1), .val (.ref b28), .val (.ref b69), .val (.ref b116), .val (.ref b_153), .val (.int (1 : Int32))]) rfl k) ?_
                      refine own_step (st' := T220.setTop (mkF m 379 #[.val (.int x0), .val (.int x1), .val (.int x2), .val (.int x3), .val (.int x4), .val (.ref b1), .val (.ref b28), .val (.ref b69), .val (.ref b116), .val (.ref b_153), .val (.int (1 : Int32))] [(.int (1 : Int32))])) (fun t k => XS.iload X220.here hx rfl (hb hby at_377) rfl k) ?_
                      refine own_step (st' := T220.setTop (mkF m 382 #[.val (.int x0), .val (.int x1), .val (.int x2), .val (.int x3), .val (.int x4), .val (.ref b1), .val (.ref b28), .val (.ref b69), .val (.ref b116), .val (.ref b_153), .val (.int (1 : Int32))] [])) (fun t k => XS.ifNo X220.here hx rfl (hb hby at_379) rfl ((if0 _ _).trans (feq (by decide)).1) k) ?_
                      refine own_step (st' := T220.setTop (mkF m 384 #[.val (.int x0), .val (.int x1), .val (.int x2), .val (.int x3), .val (.int x4), .val (.ref b1), .val (.ref b28), .val (.ref b69), .val (.ref b116), .val (.ref b_153), .val (.int (1 : Int32))] [(.ref b1)])) (fun t k => XS.aload X220.here hx rfl (hb hby at_382) rfl rfl k) ?_
                      refine own_step (st' := T220.setTop (mkF m 386 #[.val (.int x0), .val (.int x1), .val (.int x2), .val (.int x3), .val (.int x4), .val (.ref b1), .val (.ref b28), .val (.ref b69), .val (.ref b116), .val (.ref b_153), .val (.int (1 : Int32))] [(.ref b_153), (.ref b1)])) (fun t k => XS.aload X220.here hx rfl (hb hby at_384) rfl rfl k) ?_
                      refine own_step (st' := T220.setTop (mkF m 387 #[.val (.int x0), .val (.int x1), .val (.int x2), .val (.int x3), .val (.int x4), .val (.ref b1), .val (.ref b28), .val (.ref b69), .val (.ref b116), .val (.ref b_153), .val (.int (1 : Int32))] [(.int (2 : Int32)), (.ref b_153), (.ref b1)])) (fun t k => XS.iconst X220.here hx rfl (hb hby at_386) k) ?_
                      refine own_step (st' := T220.setTop (mkF m 388 #[.val (.int x0), .val (.int x1), .val (.int x2), .val (.int x3), .val (.int x4), .val (.ref b1), .val (.ref b28), .val (.ref b69), .val (.ref b116), .val (.ref b_153), .val (.int (1 : Int32))] [(.int (3 : Int32)), (.int (2 : Int32)), (.ref b_153), (.ref b1)])) (fun t k => XS.iconst X220.here hx rfl (hb hby at_387) k) ?_
                      obtain ⟨o224, ho224, ro224⟩ := own_bind r223
                      clear r223
                      obtain ⟨_, _, ⟨T225, L225, k225, n225⟩, -, X225, ⟨Lc225, hQ225, l225, y225, z225⟩, st225⟩ := Jvm.LawKit.callS X220 hx (y := (⟨"com/example/rumorwire/rumorwire/TreeSolverInformedInPinLaw", "apart", "([I[III)Z"⟩ : MethodName)) hown (mvT hZ (hw _ (List.mem_of_getElem? (i := 59) rfl))) (mvT hZ (hw _ (List.mem_of_getElem? (i := 60) rfl))) (mvT hZ (hw _ (List.mem_of_getElem? (i := 4) rfl))) (mvT hZ (hw _ (List.mem_of_getElem? (i := 61) rfl))) (by decide) (backOf (W := 0) (rm13 l Z a0 hw [] b1 b_153 (2 : Int32) (3 : Int32) k1 kb_153 L25 o152 o224 h153 n0 Z175 f162 pq153_1 ho224) hZ (hw _ (List.mem_of_getElem? (i := 61) rfl)) (hw _ (List.mem_of_getElem? (i := 4) rfl)) (by decide) (by decide)) (g := (mkF m 388 #[.val (.int x0), .val (.int x1), .val (.int x2), .val (.int x3), .val (.int x4), .val (.ref b1), .val (.ref b28), .val (.ref b69), .val (.ref b116), .val (.ref b_153), .val (.int (1 : Int32))] [(.int (3 : Int32)), (.int (2 : Int32)), (.ref b_153), (.ref b1)])) rfl (by rw [hml]; rfl) (argsL := [(.ref b1), (.ref b_153), (.int (2 : Int32)), (.int (3 : Int32))]) (rest := []) (lenOf pd_11 rfl) rfl (by show 2 * 0 + _ ≤ _; exact Nat.le_of_eq rfl) (hb hby at_388) (fun _ _ => ⟨rfl, e220, (by decide : 12 + 0 ≤ _), (by decide : 72 + 0 ≤ _)⟩)
                      dsimp only [Pt.U, Pt.locs, Pt.cells, Pt.slots] at X225 l225 y225 z225 st225 hQ225
                      subst y225 z225
                      obtain ⟨rfl, N225q, e225⟩ := hQ225
                      have N225 := Fr.app N220 N225q
                      rw [← l225] at N225
                      clear l225
                      refine own_step (st' := T225.setTop (mkF m 391 #[.val (.int x0), .val (.int x1), .val (.int x2), .val (.int x3), .val (.int x4), .val (.ref b1), .val (.ref b28), .val (.ref b69), .val (.ref b116), .val (.ref b_153), .val (.int (1 : Int32))] [(.int o224)])) st225 ?_
                      by_cases hc226 : o224 = (0 : Int32)
                      · have r227 := own_if1 hc226 ro224
                        clear ro224
                        cases r227
                      · have r228 := own_if0 hc226 ro224
                        clear ro224
                        refine own_step (st' := T225.setTop (mkF m 394 #[.val (.int x0), .val (.int x1), .val (.int x2), .val (.int x3), .val (.int x4), .val (.ref b1), .val (.ref b28), .val (.ref b69), .val (.ref b116), .val (.ref b_153), .val (.int (1 : Int32))] [])) (fun t k => XS.ifNo X225.here hx rfl (hb hby at_391) rfl ((if0 _ _).trans (feq hc226).1) k) ?_
                        refine own_step (st' := T225.setTop (mkF m 396 #[.val (.int x0), .val (.int x1), .val (.int x2), .val (.int x3), .val (.int x4), .val (.ref b1), .val (.ref b28), .val (.ref b69), .val (.ref b116), .val (.ref b_153), .val (.int (1 : Int32))] [(.ref b1)])) (fun t k => XS.aload X225.here hx rfl (hb hby at_394) rfl rfl k) ?_
                        refine own_step (st' := T225.setTop (mkF m 398 #[.val (.int x0), .val (.int x1), .val (.int x2), .val (.int x3), .val (.int x4), .val (.ref b1), .val (.ref b28), .val (.ref b69), .val (.ref b116), .val (.ref b_153), .val (.int (1 : Int32))] [(.ref b_153), (.ref b1)])) (fun t k => XS.aload X225.here hx rfl (hb hby at_396) rfl rfl k) ?_
                        refine own_step (st' := T225.setTop (mkF m 399 #[.val (.int x0), .val (.int x1), .val (.int x2), .val (.int x3), .val (.int x4), .val (.ref b1), .val (.ref b28), .val (.ref b69), .val (.ref b116), .val (.ref b_153), .val (.int (1 : Int32))] [(.int (2 : Int32)), (.ref b_153), (.ref b1)])) (fun t k => XS.iconst X225.here hx rfl (hb hby at_398) k) ?_
                        refine own_step (st' := T225.setTop (mkF m 400 #[.val (.int x0), .val (.int x1), .val (.int x2), .val (.int x3), .val (.int x4), .val (.ref b1), .val (.ref b28), .val (.ref b69), .val (.ref b116), .val (.ref b_153), .val (.int (1 : Int32))] [(.int (4 : Int32)), (.int (2 : Int32)), (.ref b_153), (.ref b1)])) (fun t k => XS.iconst X225.here hx rfl (hb hby at_399) k) ?_
                        obtain ⟨o229, ho229, ro229⟩ := own_bind r228
                        clear r228
                        obtain ⟨_, _, ⟨T230, L230, k230, n230⟩, -, X230, ⟨Lc230, hQ230, l230, y230, z230⟩, st230⟩ := Jvm.LawKit.callS X225 hx (y := (⟨"com/example/rumorwire/rumorwire/TreeSolverInformedInPinLaw", "apart", "([I[III)Z"⟩ : MethodName)) hown (mvT hZ (hw _ (List.mem_of_getElem? (i := 59) rfl))) (mvT hZ (hw _ (List.mem_of_getElem? (i := 60) rfl))) (mvT hZ (hw _ (List.mem_of_getElem? (i := 4) rfl))) (mvT hZ (hw _ (List.mem_of_getElem? (i := 61) rfl))) (by decide) (backOf (W := 0) (rm13 l Z a0 hw [] b1 b_153 (2 : Int32) (4 : Int32) k1 kb_153 L25 o152 o229 h153 n0 Z175 f162 pq153_1 ho229) hZ (hw _ (List.mem_of_getElem? (i := 61) rfl)) (hw _ (List.mem_of_getElem? (i := 4) rfl)) (by decide) (by decide)) (g := (mkF m 400 #[.val (.int x0), .val (.int x1), .val (.int x2), .val (.int x3), .val (.int x4), .val (.ref b1), .val (.ref b28), .val (.ref b69), .val (.ref b116), .val (.ref b_153), .val (.int (1 : Int32))] [(.int (4 : Int32)), (.int (2 : Int32)), (.ref b_153), (.ref b1)])) rfl (by rw [hml]; rfl) (argsL := [(.ref b1), (.ref b_153), (.int (2 : Int32)), (.int (4 : Int32))]) (rest := []) (lenOf pd_11 rfl) rfl (by show 2 * 0 + _ ≤ _; exact Nat.le_of_eq rfl) (hb hby at_400) (fun _ _ => ⟨rfl, e225, (by decide : 12 + 0 ≤ _), (by decide : 72 + 0 ≤ _)⟩)
                        dsimp only [Pt.U, Pt.locs, Pt.cells, Pt.slots] at X230 l230 y230 z230 st230 hQ230
                        subst y230 z230
                        obtain ⟨rfl, N230q, e230⟩ := hQ230
                        have N230 := Fr.app N225 N230q
                        rw [← l230] at N230
                        clear l230
                        refine own_step (st' := T230.setTop (mkF m 403 #[.val (.int x0), .val (.int x1), .val (.int x2), .val (.int x3), .val (.int x4), .val (.ref b1), .val (.ref b28), .val (.ref b69), .val (.ref b116), .val (.ref b_153), .val (.int (1 : Int32))] [(.int o229)])) st230 ?_
                        by_cases hc231 : o229 = (0 : Int32)
                        · have r232 := own_if1 hc231 ro229
                          clear ro229
                          cases r232
                        · have r233 := own_if0 hc231 ro229
                          clear ro229
                          refine own_step (st' := T230.setTop (mkF m 406 #[.val (.int x0), .val (.int x1), .val (.int x2), .val (.int x3), .val (.int x4), .val (.ref b1), .val (.ref b28), .val (.ref b69), .val (.ref b116), .val (.ref b_153), .val (.int (1 : Int32))] [])) (fun t k => XS.ifNo X230.here hx rfl (hb hby at_403) rfl ((if0 _ _).trans (feq hc231).1) k) ?_
                          refine own_step (st' := T230.setTop (mkF m 408 #[.val (.int x0), .val (.int x1), .val (.int x2), .val (.int x3), .val (.int x4), .val (.ref b1), .val (.ref b28), .val (.ref b69), .val (.ref b116), .val (.ref b_153), .val (.int (1 : Int32))] [(.ref b1)])) (fun t k => XS.aload X230.here hx rfl (hb hby at_406) rfl rfl k) ?_
                          refine own_step (st' := T230.setTop (mkF m 410 #[.val (.int x0), .val (.int x1), .val (.int x2), .val (.int x3), .val (.int x4), .val (.ref b1), .val (.ref b28), .val (.ref b69), .val (.ref b116), .val (.ref b_153), .val (.int (1 : Int32))] [(.ref b_153), (.ref b1)])) (fun t k => XS.aload X230.here hx rfl (hb hby at_408) rfl rfl k) ?_
                          refine own_step (st' := T230.setTop (mkF m 411 #[.val (.int x0), .val (.int x1), .val (.int x2), .val (.int x3), .val (.int x4), .val (.ref b1), .val (.ref b28), .val (.ref b69), .val (.ref b116), .val (.ref b_153), .val (.int (1 : Int32))] [(.int (2 : Int32)), (.ref b_153), (.ref b1)])) (fun t k => XS.iconst X230.here hx rfl (hb hby at_410) k) ?_
                          refine own_step (st' := T230.setTop (mkF m 412 #[.val (.int x0), .val (.int x1), .val (.int x2), .val (.int x3), .val (.int x4), .val (.ref b1), .val (.ref b28), .val (.ref b69), .val (.ref b116), .val (.ref b_153), .val (.int (1 : Int32))] [(.int (5 : Int32)), (.int (2 : Int32)), (.ref b_153), (.ref b1)])) (fun t k => XS.iconst X230.here hx rfl (hb hby at_411) k) ?_
                          obtain ⟨o234, ho234, ro234⟩ := own_bind r233
                          clear r233
                          obtain ⟨_, _, ⟨T235, L235, k235, n235⟩, -, X235, ⟨Lc235, hQ235, l235, y235, z235⟩, st235⟩ := Jvm.LawKit.callS X230 hx (y := (⟨"com/example/rumorwire/rumorwire/TreeSolverInformedInPinLaw", "apart", "([I[III)Z"⟩ : MethodName)) hown (mvT hZ (hw _ (List.mem_of_getElem? (i := 59) rfl))) (mvT hZ (hw _ (List.mem_of_getElem? (i := 60) rfl))) (mvT hZ (hw _ (List.mem_of_getElem? (i := 4) rfl))) (mvT hZ (hw _ (List.mem_of_getElem? (i := 61) rfl))) (by decide) (backOf (W := 0) (rm13 l Z a0 hw [] b1 b_153 (2 : Int32) (5 : Int32) k1 kb_153 L25 o152 o234 h153 n0 Z175 f162 pq153_1 ho234) hZ (hw _ (List.mem_of_getElem? (i := 61) rfl)) (hw _ (List.mem_of_getElem? (i := 4) rfl)) (by decide) (by decide)) (g := (mkF m 412 #[.val (.int x0), .val (.int x1), .val (.int x2), .val (.int x3), .val (.int x4), .val (.ref b1), .val (.ref b28), .val (.ref b69), .val (.ref b116), .val (.ref b_153), .val (.int (1 : Int32))] [(.int (5 : Int32)), (.int (2 : Int32)), (.ref b_153), (.ref b1)])) rfl (by rw [hml]; rfl) (argsL := [(.ref b1), (.ref b_153), (.int (2 : Int32)), (.int (5 : Int32))]) (rest := []) (lenOf pd_11 rfl) rfl (by show 2 * 0 + _ ≤ _; exact Nat.le_of_eq rfl) (hb hby at_412) (fun _ _ => ⟨rfl, e230, (by decide : 12 + 0 ≤ _), (by decide : 72 + 0 ≤ _)⟩)
                          dsimp only [Pt.U, Pt.locs, Pt.cells, Pt.slots] at X235 l235 y235 z235 st235 hQ235
                          subst y235 z235
                          obtain ⟨rfl, N235q, e235⟩ := hQ235
                          have N235 := Fr.app N230 N235q
                          rw [← l235] at N235
                          clear l235
                          refine own_step (st' := T235.setTop (mkF m 415 #[.val (.int x0), .val (.int x1), .val (.int x2), .val (.int x3), .val (.int x4), .val (.ref b1), .val (.ref b28), .val (.ref b69), .val (.ref b116), .val (.ref b_153), .val (.int (1 : Int32))] [(.int o234)])) st235 ?_
                          by_cases hc236 : o234 = (0 : Int32)
                          · have r237 := own_if1 hc236 ro234
                            clear ro234
                            cases r237
                          · have r238 := own_if0 hc236 ro234
                            clear ro234
                            refine own_step (st' := T235.setTop (mkF m 418 #[.val (.int x0), .val (.int x1), .val (.int x2), .val (.int x3), .val (.int x4), .val (.ref b1), .val (.ref b28), .val (.ref b69), .val (.ref b116), .val (.ref b_153), .val (.int (1 : Int32))] [])) (fun t k => XS.ifNo X235.here hx rfl (hb hby at_415) rfl ((if0 _ _).trans (feq hc236).1) k) ?_
                            refine own_step (st' := T235.setTop (mkF m 419 #[.val (.int x0), .val (.int x1), .val (.int x2), .val (.int x3), .val (.int x4), .val (.ref b1), .val (.ref b28), .val (.ref b69), .val (.ref b116), .val (.ref b_153), .val (.int (1 : Int32))] [(.int (1 : Int32))])) (fun t k => XS.iconst X235.here hx rfl (hb hby at_418) k) ?_
                            refine own_step (st' := T235.setTop (mkF m 423 #[.val (.int x0), .val (.int x1), .val (.int x2), .val (.int x3), .val (.int x4), .val (.ref b1), .val (.ref b28), .val (.ref b69), .val (.ref b116), .val (.ref b_153), .val (.int (1 : Int32))] [(.int (1 : Int32))])) (fun t k => XS.goto X235.here hx rfl (pc0 := 419) (pc' := 423) rfl (hb hby at_419) (by decide) (by decide) k) ?_
                            refine own_step (st' := T235.setTop (mkF m 425 #[.val (.int x0), .val (.int x1), .val (.int x2), .val (.int x3), .val (.int x4), .val (.ref b1), .val (.ref b28), .val (.ref b69), .val (.ref b116), .val (.ref b_153), .val (.int (1 : Int32))] [])) (fun t k => XS.istore X235.here hx rfl (hb hby at_423) rfl (l' := #[.val (.int x0), .val (.int x1), .val (.int x2), .val (.int x3), .val (.int x4), .val (.ref b1), .val (.ref b28), .val (.ref b69), .val (.ref b116), .val (.ref b_153), .val (.int (1 : Int32))]) rfl k) ?_
                            refine own_step (st' := T235.setTop (mkF m 427 #[.val (.int x0), .val (.int x1), .val (.int x2), .val (.int x3), .val (.int x4), .val (.ref b1), .val (.ref b28), .val (.ref b69), .val (.ref b116), .val (.ref b_153), .val (.int (1 : Int32))] [(.int (1 : Int32))])) (fun t k => XS.iload X235.here hx rfl (hb hby at_425) rfl k) ?_
                            refine own_step (st' := T235.setTop (mkF m 430 #[.val (.int x0), .val (.int x1), .val (.int x2), .val (.int x3), .val (.int x4), .val (.ref b1), .val (.ref b28), .val (.ref b69), .val (.ref b116), .val (.ref b_153), .val (.int (1 : Int32))] [])) (fun t k => XS.ifNo X235.here hx rfl (hb hby at_427) rfl ((if0 _ _).trans (feq (by decide)).1) k) ?_
                            refine own_step (st' := T235.setTop (mkF m 432 #[.val (.int x0), .val (.int x1), .val (.int x2), .val (.int x3), .val (.int x4), .val (.ref b1), .val (.ref b28), .val (.ref b69), .val (.ref b116), .val (.ref b_153), .val (.int (1 : Int32))] [(.ref b1)])) (fun t k => XS.aload X235.here hx rfl (hb hby at_430) rfl rfl k) ?_
                            refine own_step (st' := T235.setTop (mkF m 434 #[.val (.int x0), .val (.int x1), .val (.int x2), .val (.int x3), .val (.int x4), .val (.ref b1), .val (.ref b28), .val (.ref b69), .val (.ref b116), .val (.ref b_153), .val (.int (1 : Int32))] [(.ref b_153), (.ref b1)])) (fun t k => XS.aload X235.here hx rfl (hb hby at_432) rfl rfl k) ?_
                            refine own_step (st' := T235.setTop (mkF m 435 #[.val (.int x0), .val (.int x1), .val (.int x2), .val (.int x3), .val (.int x4), .val (.ref b1), .val (.ref b28), .val (.ref b69), .val (.ref b116), .val (.ref b_153), .val (.int (1 : Int32))] [(.int (3 : Int32)), (.ref b_153), (.ref b1)])) (fun t k => XS.iconst X235.here hx rfl (hb hby at_434) k) ?_
                            refine own_step (st' := T235.setTop (mkF m 436 #[.val (.int x0), .val (.int x1), .val (.int x2), .val (.int x3), .val (.int x4), .val (.ref b1), .val (.ref b28), .val (.ref b69), .val (.ref b116), .val (.ref b_153), .val (.int (1 : Int32))] [(.int (4 : Int32)), (.int (3 : Int32)), (.ref b_153), (.ref b1)])) (fun t k => XS.iconst X235.here hx rfl (hb hby at_435) k) ?_
                            obtain ⟨o239, ho239, ro239⟩ := own_bind r238
                            clear r238
                            obtain ⟨_, _, ⟨T240, L240, k240, n240⟩, -, X240, ⟨Lc240, hQ240, l240, y240, z240⟩, st240⟩ := Jvm.LawKit.callS X235 hx (y := (⟨"com/example/rumorwire/rumorwire/TreeSolverInformedInPinLaw", "apart", "([I[III)Z"⟩ : MethodName)) hown (mvT hZ (hw _ (List.mem_of_getElem? (i := 59) rfl))) (mvT hZ (hw _ (List.mem_of_getElem? (i := 60) rfl))) (mvT hZ (hw _ (List.mem_of_getElem? (i := 4) rfl))) (mvT hZ (hw _ (List.mem_of_getElem? (i := 61) rfl))) (by decide) (backOf (W := 0) (rm13 l Z a0 hw [] b1 b_153 (3 : Int32) (4 : Int32) k1 kb_153 L25 o152 o239 h153 n0 Z175 f162 pq153_1 ho239) hZ (hw _ (List.mem_of_getElem? (i := 61) rfl)) (hw _ (List.mem_of_getElem? (i := 4) rfl)) (by decide) (by decide)) (g := (mkF m 436 #[.val (.int x0), .val (.int x1), .val (.int x2), .val (.int x3), .val (.int x4), .val (.ref b1), .val (.ref b28), .val (.ref b69), .val (.ref b116), .val (.ref b_153), .val (.int (1 : Int32))] [(.int (4 : Int32)), (.int (3 : Int32)), (.ref b_153), (.ref b1)])) rfl (by rw [hml]; rfl) (argsL := [(.ref b1), (.ref b_153), (.int (3 : Int32)), (.int (4 : Int32))]) (rest := []) (lenOf pd_11 rfl) rfl (by show 2 * 0 + _ ≤ _; exact Nat.le_of_eq rfl) (hb hby at_436) (fun _ _ => ⟨rfl, e235, (by decide : 12 + 0 ≤ _), (by decide : 72 + 0 ≤ _)⟩)
                            dsimp only [Pt.U, Pt.locs, Pt.cells, Pt.slots] at X240 l240 y240 z240 st240 hQ240
                            subst y240 z240
                            obtain ⟨rfl, N240q, e240⟩ := hQ240
                            have N240 := Fr.app N235 N240q
                            rw [← l240] at N240
                            clear l240
                            refine own_step (st' := T240.setTop (mkF m 439 #[.val (.int x0), .val (.int x1), .val (.int x2), .val (.int x3), .val (.int x4), .val (.ref b1), .val (.ref b28), .val (.ref b69), .val (.ref b116), .val (.ref b_153), .val (.int (1 : Int32))] [(.int o239)])) st240 ?_
                            by_cases hc241 : o239 = (0 : Int32)
                            · have r242 := own_if1 hc241 ro239
                              clear ro239
                              cases r242
                            · have r243 := own_if0 hc241 ro239
                              clear ro239
                              refine own_step (st' := T240.setTop (mkF m 442 #[.val (.int x0), .val (.int x1), .val (.int x2), .val (.int x3), .val (.int x4), .val (.ref b1), .val (.ref b28), .val (.ref b69), .val (.ref b116), .val (.ref b_153), .val (.int (1 : Int32))] [])) (fun t k => XS.ifNo X240.here hx rfl (hb hby at_439) rfl ((if0 _ _).trans (feq hc241).1) k) ?_
                              refine own_step (st' := T240.setTop (mkF m 444 #[.val (.int x0), .val (.int x1), .val (.int x2), .val (.int x3), .val (.int x4), .val (.ref b1), .val (.ref b28), .val (.ref b69), .val (.ref b116), .val (.ref b_153), .val (.int (1 : Int32))] [(.ref b1)])) (fun t k => XS.aload X240.here hx rfl (hb hby at_442) rfl rfl k) ?_
                              refine own_step (st' := T240.setTop (mkF m 446 #[.val (.int x0), .val (.int x1), .val (.int x2), .val (.int x3), .val (.int x4), .val (.ref b1), .val (.ref b28), .val (.ref b69), .val (.ref b116), .val (.ref b_153), .val (.int (1 : Int32))] [(.ref b_153), (.ref b1)])) (fun t k => XS.aload X240.here hx rfl (hb hby at_444) rfl rfl k) ?_
                              refine own_step (st' := T240.setTop (mkF m 447 #[.val (.int x0), .val (.int x1), .val (.int x2), .val (.int x3), .val (.int x4), .val (.ref b1), .val (.ref b28), .val (.ref b69), .val (.ref b116), .val (.ref b_153), .val (.int (1 : Int32))] [(.int (3 : Int32)), (.ref b_153), (.ref b1)])) (fun t k => XS.iconst X240.here hx rfl (hb hby at_446) k) ?_
                              refine own_step (st' := T240.setTop (mkF m 448 #[.val (.int x0), .val (.int x1), .val (.int x2), .val (.int x3), .val (.int x4), .val (.ref b1), .val (.ref b28), .val (.ref b69), .val (.ref b116), .val (.ref b_153), .val (.int (1 : Int32))] [(.int (5 : Int32)), (.int (3 : Int32)), (.ref b_153), (.ref b1)])) (fun t k => XS.iconst X240.here hx rfl (hb hby at_447) k) ?_
                              obtain ⟨o244, ho244, ro244⟩ := own_bind r243
                              clear r243
                              obtain ⟨_, _, ⟨T245, L245, k245, n245⟩, -, X245, ⟨Lc245, hQ245, l245, y245, z245⟩, st245⟩ := Jvm.LawKit.callS X240 hx (y := (⟨"com/example/rumorwire/rumorwire/TreeSolverInformedInPinLaw", "apart", "([I[III)Z"⟩ : MethodName)) hown (mvT hZ (hw _ (List.mem_of_getElem? (i := 59) rfl))) (mvT hZ (hw _ (List.mem_of_getElem? (i := 60) rfl))) (mvT hZ (hw _ (List.mem_of_getElem? (i := 4) rfl))) (mvT hZ (hw _ (List.mem_of_getElem? (i := 61) rfl))) (by decide) (backOf (W := 0) (rm13 l Z a0 hw [] b1 b_153 (3 : Int32) (5 : Int32) k1 kb_153 L25 o152 o244 h153 n0 Z175 f162 pq153_1 ho244) hZ (hw _ (List.mem_of_getElem? (i := 61) rfl)) (hw _ (List.mem_of_getElem? (i := 4) rfl)) (by decide) (by decide)) (g := (mkF m 448 #[.val (.int x0), .val (.int x1), .val (.int x2), .val (.int x3), .val (.int x4), .val (.ref b1), .val (.ref b28), .val (.ref b69), .val (.ref b116), .val (.ref b_153), .val (.int (1 : Int32))] [(.int (5 : Int32)), (.int (3 : Int32)), (.ref b_153), (.ref b1)])) rfl (by rw [hml]; rfl) (argsL := [(.ref b1), (.ref b_153), (.int (3 : Int32)), (.int (5 : Int32))]) (rest := []) (lenOf pd_11 rfl) rfl (by show 2 * 0 + _ ≤ _; exact Nat.le_of_eq rfl) (hb hby at_448) (fun _ _ => ⟨rfl, e240, (by decide : 12 + 0 ≤ _), (by decide : 72 + 0 ≤ _)⟩)
                              dsimp only [Pt.U, Pt.locs, Pt.cells, Pt.slots] at X245 l245 y245 z245 st245 hQ245
                              subst y245 z245
                              obtain ⟨rfl, N245q, e245⟩ := hQ245
                              have N245 := Fr.app N240 N245q
                              rw [← l245] at N245
                              clear l245
                              refine own_step (st' := T245.setTop (mkF m 451 #[.val (.int x0), .val (.int x1), .val (.int x2), .val (.int x3), .val (.int x4), .val (.ref b1), .val (.ref b28), .val (.ref b69), .val (.ref b116), .val (.ref b_153), .val (.int (1 : Int32))] [(.int o244)])) st245 ?_
                              by_cases hc246 : o244 = (0 : Int32)
                              · have r247 := own_if1 hc246 ro244
                                clear ro244
                                cases r247
                              · have r248 := own_if0 hc246 ro244
                                clear ro244
                                refine own_step (st' := T245.setTop (mkF m 454 #[.val (.int x0), .val (.int x1), .val (.int x2), .val (.int x3), .val (.int x4), .val (.ref b1), .val (.ref b28), .val (.ref b69), .val (.ref b116), .val (.ref b_153), .val (.int (1 : Int32))] [])) (fun t k => XS.ifNo X245.here hx rfl (hb hby at_451) rfl ((if0 _ _).trans (feq hc246).1) k) ?_
                                refine own_step (st' := T245.setTop (mkF m 456 #[.val (.int x0), .val (.int x1), .val (.int x2), .val (.int x3), .val (.int x4), .val (.ref b1), .val (.ref b28), .val (.ref b69), .val (.ref b116), .val (.ref b_153), .val (.int (1 : Int32))] [(.ref b1)])) (fun t k => XS.aload X245.here hx rfl (hb hby at_454) rfl rfl k) ?_
                                refine own_step (st' := T245.setTop (mkF m 458 #[.val (.int x0), .val (.int x1), .val (.int x2), .val (.int x3), .val (.int x4), .val (.ref b1), .val (.ref b28), .val (.ref b69), .val (.ref b116), .val (.ref b_153), .val (.int (1 : Int32))] [(.ref b_153), (.ref b1)])) (fun t k => XS.aload X245.here hx rfl (hb hby at_456) rfl rfl k) ?_
                                refine own_step (st' := T245.setTop (mkF m 459 #[.val (.int x0), .val (.int x1), .val (.int x2), .val (.int x3), .val (.int x4), .val (.ref b1), .val (.ref b28), .val (.ref b69), .val (.ref b116), .val (.ref b_153), .val (.int (1 : Int32))] [(.int (4 : Int32)), (.ref b_153), (.ref b1)])) (fun t k => XS.iconst X245.here hx rfl (hb hby at_458) k) ?_
                                refine own_step (st' := T245.setTop (mkF m 460 #[.val (.int x0), .val (.int x1), .val (.int x2), .val (.int x3), .val (.int x4), .val (.ref b1), .val (.ref b28), .val (.ref b69), .val (.ref b116), .val (.ref b_153), .val (.int (1 : Int32))] [(.int (5 : Int32)), (.int (4 : Int32)), (.ref b_153), (.ref b1)])) (fun t k => XS.iconst X245.here hx rfl (hb hby at_459) k) ?_
                                obtain ⟨o249, ho249, ro249⟩ := own_bind r248
                                clear r248
                                obtain ⟨_, _, ⟨T250, L250, k250, n250⟩, -, X250, ⟨Lc250, hQ250, l250, y250, z250⟩, st250⟩ := Jvm.LawKit.callS X245 hx (y := (⟨"com/example/rumorwire/rumorwire/TreeSolverInformedInPinLaw", "apart", "([I[III)Z"⟩ : MethodName)) hown (mvT hZ (hw _ (List.mem_of_getElem? (i := 59) rfl))) (mvT hZ (hw _ (List.mem_of_getElem? (i := 60) rfl))) (mvT hZ (hw _ (List.mem_of_getElem? (i := 4) rfl))) (mvT hZ (hw _ (List.mem_of_getElem? (i := 61) rfl))) (by decide) (backOf (W := 0) (rm13 l Z a0 hw [] b1 b_153 (4 : Int32) (5 : Int32) k1 kb_153 L25 o152 o249 h153 n0 Z175 f162 pq153_1 ho249) hZ (hw _ (List.mem_of_getElem? (i := 61) rfl)) (hw _ (List.mem_of_getElem? (i := 4) rfl)) (by decide) (by decide)) (g := (mkF m 460 #[.val (.int x0), .val (.int x1), .val (.int x2), .val (.int x3), .val (.int x4), .val (.ref b1), .val (.ref b28), .val (.ref b69), .val (.ref b116), .val (.ref b_153), .val (.int (1 : Int32))] [(.int (5 : Int32)), (.int (4 : Int32)), (.ref b_153), (.ref b1)])) rfl (by rw [hml]; rfl) (argsL := [(.ref b1), (.ref b_153), (.int (4 : Int32)), (.int (5 : Int32))]) (rest := []) (lenOf pd_11 rfl) rfl (by show 2 * 0 + _ ≤ _; exact Nat.le_of_eq rfl) (hb hby at_460) (fun _ _ => ⟨rfl, e245, (by decide : 12 + 0 ≤ _), (by decide : 72 + 0 ≤ _)⟩)
                                dsimp only [Pt.U, Pt.locs, Pt.cells, Pt.slots] at X250 l250 y250 z250 st250 hQ250
                                subst y250 z250
                                obtain ⟨rfl, N250q, e250⟩ := hQ250
                                have N250 := Fr.app N245 N250q
                                rw [← l250] at N250
                                clear l250
                                refine own_step (st' := T250.setTop (mkF m 463 #[.val (.int x0), .val (.int x1), .val (.int x2), .val (.int x3), .val (.int x4), .val (.ref b1), .val (.ref b28), .val (.ref b69), .val (.ref b116), .val (.ref b_153), .val (.int (1 : Int32))] [(.int o249)])) st250 ?_
                                by_cases hc251 : o249 = (0 : Int32)
                                · have r252 := own_if1 hc251 ro249
                                  clear ro249
                                  cases r252
                                · have r253 := own_if0 hc251 ro249
                                  clear ro249
                                  refine own_step (st' := T250.setTop (mkF m 466 #[.val (.int x0), .val (.int x1), .val (.int x2), .val (.int x3), .val (.int x4), .val (.ref b1), .val (.ref b28), .val (.ref b69), .val (.ref b116), .val (.ref b_153), .val (.int (1 : Int32))] [])) (fun t k => XS.ifNo X250.here hx rfl (hb hby at_463) rfl ((if0 _ _).trans (feq hc251).1) k) ?_
                                  refine own_step (st' := T250.setTop (mkF m 467 #[.val (.int x0), .val (.int x1), .val (.int x2), .val (.int x3), .val (.int x4), .val (.ref b1), .val (.ref b28), .val (.ref b69), .val (.ref b116), .val (.ref b_153), .val (.int (1 : Int32))] [(.int (1 : Int32))])) (fun t k => XS.iconst X250.here hx rfl (hb hby at_466) k) ?_
                                  refine own_step (st' := T250.setTop (mkF m 471 #[.val (.int x0), .val (.int x1), .val (.int x2), .val (.int x3), .val (.int x4), .val (.ref b1), .val (.ref b28), .val (.ref b69), .val (.ref b116), .val (.ref b_153), .val (.int (1 : Int32))] [(.int (1 : Int32))])) (fun t k => XS.goto X250.here hx rfl (pc0 := 467) (pc' := 471) rfl (hb hby at_467) (by decide) (by decide) k) ?_
                                  refine own_step (st' := T250.setTop (mkF m 473 #[.val (.int x0), .val (.int x1), .val (.int x2), .val (.int x3), .val (.int x4), .val (.ref b1), .val (.ref b28), .val (.ref b69), .val (.ref b116), .val (.ref b_153), .val (.int (1 : Int32))] [])) (fun t k => XS.istore X250.here hx rfl (hb hby at_471) rfl (l' := #[.val (.int x0), .val (.int x1), .val (.int x2), .val (.int x3), .val (.int x4), .val (.ref b1), .val (.ref b28), .val (.ref b69), .val (.ref b116), .val (.ref b_153), .val (.int (1 : Int32))]) rfl k) ?_
                                  refine own_step (st' := T250.setTop (mkF m 475 #[.val (.int x0), .val (.int x1), .val (.int x2), .val (.int x3), .val (.int x4), .val (.ref b1), .val (.ref b28), .val (.ref b69), .val (.ref b116), .val (.ref b_153), .val (.int (1 : Int32))] [(.int (1 : Int32))])) (fun t k => XS.iload X250.here hx rfl (hb hby at_473) rfl k) ?_
                                  refine own_ret X250 Bd.notSynchronized (some (.int (1 : Int32))) (fun h => by rw [Bd.returns] at h; cases h) (fun fs hr => retN X250 hx (t := .boolean) Bd.returns (by simp) (hb hby at_475) hr) ?_ (by decide) (by decide)
                                  rw [e250]
                                  exact ⟨rfl, N250⟩
  · have r254 := own_if0 hc177 rz176
    clear rz176
    cases r254
set_option maxRecDepth 65536 in
set_option maxHeartbeats 40000000 in
theorem comes_1 {Post : Tables → Env → Array Value → State → Outcome → State → Prop} (hpost : ∀ tb e args s v u, (limb_1_1.after args s (.returned v) u = true ∧ limb_1_2.after args s (.returned v) u = true ∧ True) → FrameEnd s (.returned v) u (Jvm.fieldLocs frame_1_writes args s ++ Jvm.arrayLocs frame_1_arrays args s ++ Jvm.staticLocs frame_1_statics s) 32 256 → Post tb e args s (.returned v) u) :
    ArmFor flags0 classFile x code maxLocals ret World_1 tables_1 room_1 Calls_1 rest_1 Pre_1 Post := by
  intro l hfl _ _ p e ha hc hk s m args below hf hA hF happ hP
  obtain ⟨hcalls, hrest, hpre⟩ := hP
  obtain ⟨-, -, -, hnamed, -, -, -, hat⟩ := (Spec.applies_iff hf).mp happ
  obtain ⟨hg, hn⟩ := and_e (Cond.before_iff.mp (show (Jvm.Cond.and given_1 narrow_1).before args s = true from hpre))
  obtain ⟨hcount, hg0⟩ := and_e hg
  obtain ⟨ha0, hg1⟩ := and_e hg0
  obtain ⟨ha1, hg2⟩ := and_e hg1
  obtain ⟨ha2, hg3⟩ := and_e hg2
  obtain ⟨ha3, hg4⟩ := and_e hg3
  obtain ⟨w0, w1, w2, w3, w4, rfl⟩ : ∃ w0 w1 w2 w3 w4 : Value, args = #[w0, w1, w2, w3, w4] := by
    have hs : args.size = 5 := by simpa [Cond.value, given_1] using hcount
    obtain ⟨L⟩ := args
    match L, hs with
    | [w0, w1, w2, w3, w4], _ => exact ⟨w0, w1, w2, w3, w4, rfl⟩
  have hw := fun d (hd : d ∈ tables_1) => atoms_spec (ws := Jvm.Cond.code x code maxLocals ret :: tables_1) hat d (List.mem_cons_of_mem _ hd)
  have hfit : Fit s := fun {y c} hc i hi => by
    obtain ⟨ha, rfl⟩ := Array.getElem?_eq_some_iff.mp hc
    have q := List.all_eq_true.mp ((Array.all_eq_true_iff_forall_mem.mp hF) _ (Array.getElem_mem ha)) i (List.mem_range.mpr hi)
    simpa [Array.getElem?_eq_getElem hi] using q
  obtain ⟨i0, ei0⟩ := is_v ha0
  obtain rfl : w0 = (.int i0) := Option.some.inj ei0
  obtain ⟨i1, ei1⟩ := is_v ha1
  obtain rfl : w1 = (.int i1) := Option.some.inj ei1
  obtain ⟨i2, ei2⟩ := is_v ha2
  obtain rfl : w2 = (.int i2) := Option.some.inj ei2
  obtain ⟨i3, ei3⟩ := is_v ha3
  obtain rfl : w3 = (.int i3) := Option.some.inj ei3
  obtain ⟨i4, ei4⟩ := is_v hg4
  obtain rfl : w4 = (.int i4) := Option.some.inj ei4
  obtain ⟨n, o, h1, h2, h3, _, L, rfl, ⟨rfl, N⟩, hq⟩ := rm0 l s _ hw tables_1 i0 i1 i2 i3 i4 s.heap s.heap.size (Nat.le_refl _) p e ha hc hk s m _ below hf ((Spec.applies_iff_loose hf).mp happ).1 ⟨rfl, State.Warmed39.refl s, rfl⟩ trivial
  refine ⟨n, _, h1, h2, h3, hpost _ _ _ _ _ _ ⟨Cond.after_iff.mpr rfl, Cond.after_iff.mpr (eq_i res_at (Term.int_eval (1)) rfl), trivial⟩ ⟨hq.1, hq.2.1, (hq.2.2.sift fun y hy => Or.inr (N y hy)).mono (by decide) (by decide)⟩⟩
theorem main_1_1 : Claimed_1_1 := comes_1 fun _ _ _ _ _ _ h hF => ⟨h.1, hF⟩
theorem main_1_2 : Claimed_1_2 := comes_1 fun _ _ _ _ _ _ h hF => ⟨h.2.1, hF⟩
end Jvm.Pilot.@@N@@
namespace Jvm.Pilot.@@N@@
open Jvm Jvm.ClassFile Sem Op Lib Jvm.Free Jvm.Stand Jvm.Pilot.@@N@@.Jvm.D
/-! MADE BY PROGRAM (witnessworld.py) out of the Statement's table words and the real class files: 11 classes; the members and pool entries that the words name. The judged class is class 1, her method 1. -/
namespace start1
open Jvm.ClassFile
def u (s : String) : CpInfo := .utf8 (stringToUtf16 s)
/-- a pool by its gaps: so many unusable entries, then the entry; so many at the end -/
def gap : Nat → List CpInfo → List CpInfo
  | 0, r => r
  | n + 1, r => .unusable :: gap n r
def poolList (es : List (Nat × CpInfo)) (last : Nat) : List CpInfo := es.foldr (fun e r => gap e.1 (e.2 :: r)) (gap last [])
def pool (es : List (Nat × CpInfo)) (last : Nat) : Array CpInfo := ⟨poolList es last⟩
def fileOf (pool : Array CpInfo) (this : Nat) (attrs : Array Attribute := #[]) (ms : Array MethodInfo := #[]) (fl : Nat := 33) (sup : Nat := 0) (ifs : Array Nat := #[]) (fds : Array FieldInfo := #[]) : ClassFile where
  minorVersion := 0
  majorVersion := 65
  constantPool := pool
  accessFlags := fl
  thisClass := this
  superClass := sup
  interfaces := ifs
  fields := fds
  methods := ms
  attributes := attrs
def plain (name : String) (sup : Option ClassId) : Class where
  name := name
  kind := .ordinary
  loader := none
  accessFlags := 33
  super := sup
  interfaces := #[]
  cf := none
  fields := #[]
  methods := #[]
  instanceTypes := #[]
  staticTypes := #[]
  resolved := #[]
  callSites := []
  init := .initialized
  statics := none
  mirror := none

def pool0 : Array CpInfo := pool [(5, u "<init>"), (0, u "()V"), (1, .class_ 10), (1, u "java/lang/Object")] 113

def k0c0 : Code := { maxStack := 0, maxLocals := 1, code := object_method_1_code, exceptionTable := #[], attributes := #[] }
def k0m0 : Method := { name := "<init>", desc := "()V", sig := { parameters := [], returnType := none }, accessFlags := 1, code := some k0c0 }
/-- java/lang/Object -/
def k0 : Class := { plain "java/lang/Object" none with
  accessFlags := 33
  interfaces := #[]
  cf := some (fileOf pool0 8 #[] #[{ accessFlags := 1, nameIndex := 5, descriptorIndex := 6, attributes := #[] }] 33 0 #[] #[])
  fields := #[]
  methods := #[k0m0]
  instanceTypes := #[]
  staticTypes := #[]
  resolved := Array.replicate 124 none
  statics := none }

def pool1 : Array CpInfo := pool [(2, .class_ 4), (1, u "java/lang/Object"), (0, u "<init>"), (0, u "()V"), (0, .integer 2147483647), (0, .methodref 9 10), (0, .class_ 11), (0, .nameAndType 12 13), (0, u "com/example/rumorwire/rumorwire/TreeSolverInformedInPinLaw"), (0, u "timeOf"), (0, u "([I[II)I"), (0, .class_ 15), (0, u "com/example/rumorwire/rumorwire/TreeSolver"), (0, .methodref 14 17), (0, .nameAndType 5 18), (0, u "([I)V"), (0, .methodref 14 20), (0, .nameAndType 21 22), (0, u "informedIn"), (0, u "()[I"), (0, .methodref 9 24), (0, .nameAndType 25 26), (0, u "child"), (0, u "([I[I[II)Z"), (0, .methodref 9 28), (0, .nameAndType 29 30), (0, u "apart"), (0, u "([I[III)Z"), (0, .methodref 9 32), (0, .nameAndType 33 34), (0, u "one"), (0, u "([I[IIIZI)I"), (0, .methodref 9 36), (0, .nameAndType 37 38), (0, u "cnt"), (0, u "([I[IIIZ)I"), (0, .methodref 9 40), (0, .nameAndType 41 42), (0, u "term"), (0, u "([I[III)I"), (0, .methodref 44 45), (0, .class_ 46), (0, .nameAndType 47 48), (0, u "java/lang/Math"), (0, u "max"), (0, u "(II)I"), (2, u "law"), (0, u "(IIIII)Z")] 5

def k1m0 : Method := { name := "<init>", desc := "()V", sig := { parameters := [], returnType := none }, accessFlags := 1, code := none }
def k1c1 : Code := { maxStack := 5, maxLocals := 11, code := code, exceptionTable := #[], attributes := #[] }
def k1m1 : Method := { name := "law", desc := "(IIIII)Z", sig := { parameters := [.int, .int, .int, .int, .int], returnType := some .boolean }, accessFlags := 9, code := some k1c1 }
def k1c2 : Code := { maxStack := 2, maxLocals := 6, code := method_3_code, exceptionTable := #[], attributes := #[] }
def k1m2 : Method := { name := "one", desc := "([I[IIIZI)I", sig := { parameters := [(.array .int), (.array .int), .int, .int, .boolean, .int], returnType := some .int }, accessFlags := 10, code := some k1c2 }
def k1c3 : Code := { maxStack := 7, maxLocals := 5, code := method_4_code, exceptionTable := #[], attributes := #[] }
def k1m3 : Method := { name := "cnt", desc := "([I[IIIZ)I", sig := { parameters := [(.array .int), (.array .int), .int, .int, .boolean], returnType := some .int }, accessFlags := 10, code := some k1c3 }
def k1c4 : Code := { maxStack := 6, maxLocals := 4, code := method_5_code, exceptionTable := #[], attributes := #[] }
def k1m4 : Method := { name := "term", desc := "([I[III)I", sig := { parameters := [(.array .int), (.array .int), .int, .int], returnType := some .int }, accessFlags := 10, code := some k1c4 }
def k1c5 : Code := { maxStack := 5, maxLocals := 4, code := method_6_code, exceptionTable := #[], attributes := #[] }
def k1m5 : Method := { name := "timeOf", desc := "([I[II)I", sig := { parameters := [(.array .int), (.array .int), .int], returnType := some .int }, accessFlags := 10, code := some k1c5 }
def k1c6 : Code := { maxStack := 5, maxLocals := 8, code := method_7_code, exceptionTable := #[], attributes := #[] }
def k1m6 : Method := { name := "child", desc := "([I[I[II)Z", sig := { parameters := [(.array .int), (.array .int), (.array .int), .int], returnType := some .boolean }, accessFlags := 10, code := some k1c6 }
def k1c7 : Code := { maxStack := 3, maxLocals := 4, code := method_8_code, exceptionTable := #[], attributes := #[] }
def k1m7 : Method := { name := "apart", desc := "([I[III)Z", sig := { parameters := [(.array .int), (.array .int), .int, .int], returnType := some .boolean }, accessFlags := 10, code := some k1c7 }
/-- com/example/rumorwire/rumorwire/TreeSolverInformedInPinLaw -/
def k1 : Class := { plain "com/example/rumorwire/rumorwire/TreeSolverInformedInPinLaw" (some 0) with
  accessFlags := 49
  interfaces := #[]
  cf := some (fileOf pool1 9 #[] #[{ accessFlags := 1, nameIndex := 5, descriptorIndex := 6, attributes := #[] }, { accessFlags := 9, nameIndex := 51, descriptorIndex := 52, attributes := #[] }, { accessFlags := 10, nameIndex := 33, descriptorIndex := 34, attributes := #[] }, { accessFlags := 10, nameIndex := 37, descriptorIndex := 38, attributes := #[] }, { accessFlags := 10, nameIndex := 41, descriptorIndex := 42, attributes := #[] }, { accessFlags := 10, nameIndex := 12, descriptorIndex := 13, attributes := #[] }, { accessFlags := 10, nameIndex := 25, descriptorIndex := 26, attributes := #[] }, { accessFlags := 10, nameIndex := 29, descriptorIndex := 30, attributes := #[] }] 49 2 #[] #[])
  fields := #[]
  methods := #[k1m0, k1m1, k1m2, k1m3, k1m4, k1m5, k1m6, k1m7]
  instanceTypes := #[]
  staticTypes := #[]
  resolved := Array.replicate 58 none
  statics := none }

def pool2 : Array CpInfo := pool [(1, .class_ 2), (0, u "java/lang/Math"), (1, .class_ 6), (1, u "java/lang/Object"), (0, u "<init>"), (0, u "()V"), (89, .class_ 100), (1, u "java/lang/Math$RandomNumberGeneratorHolder"), (71, u "negativeZeroFloatBits"), (0, u "J"), (2, u "negativeZeroDoubleBits"), (21, u "max"), (46, u "$assertionsDisabled"), (0, u "Z"), (88, u "(II)I"), (2, u "twoToTheDoubleScaleDown"), (0, u "D"), (4, u "twoToTheDoubleScaleUp"), (9, u "E"), (3, u "PI"), (2, u "TAU"), (2, u "DEGREES_TO_RADIANS"), (0, u "RADIANS_TO_DEGREES")] 94

def k2m0 : Method := { name := "<init>", desc := "()V", sig := { parameters := [], returnType := none }, accessFlags := 2, code := none }
def k2c1 : Code := { maxStack := 2, maxLocals := 2, code := jdk_29_method_65_code, exceptionTable := #[], attributes := #[] }
def k2m1 : Method := { name := "max", desc := "(II)I", sig := { parameters := [.int, .int], returnType := some .int }, accessFlags := 9, code := some k2c1 }
/-- java/lang/Math -/
def k2 : Class := { plain "java/lang/Math" (some 0) with
  accessFlags := 49
  interfaces := #[]
  cf := some (fileOf pool2 1 #[.nestMembers #[98]] #[{ accessFlags := 2, nameIndex := 7, descriptorIndex := 8, attributes := #[] }, { accessFlags := 9, nameIndex := 198, descriptorIndex := 335, attributes := #[] }] 49 4 #[] #[{ accessFlags := 25, nameIndex := 354, descriptorIndex := 339, attributes := #[] }, { accessFlags := 25, nameIndex := 358, descriptorIndex := 339, attributes := #[] }, { accessFlags := 25, nameIndex := 361, descriptorIndex := 339, attributes := #[] }, { accessFlags := 26, nameIndex := 364, descriptorIndex := 339, attributes := #[] }, { accessFlags := 26, nameIndex := 365, descriptorIndex := 339, attributes := #[] }, { accessFlags := 26, nameIndex := 172, descriptorIndex := 173, attributes := #[] }, { accessFlags := 26, nameIndex := 176, descriptorIndex := 173, attributes := #[] }, { accessFlags := 8, nameIndex := 344, descriptorIndex := 339, attributes := #[] }, { accessFlags := 8, nameIndex := 338, descriptorIndex := 339, attributes := #[] }, { accessFlags := 4120, nameIndex := 245, descriptorIndex := 246, attributes := #[] }])
  fields := #[{ name := "E", type := .double, accessFlags := 25, slot := 0, constantValue := 0 }, { name := "PI", type := .double, accessFlags := 25, slot := 1, constantValue := 0 }, { name := "TAU", type := .double, accessFlags := 25, slot := 2, constantValue := 0 }, { name := "DEGREES_TO_RADIANS", type := .double, accessFlags := 26, slot := 3, constantValue := 0 }, { name := "RADIANS_TO_DEGREES", type := .double, accessFlags := 26, slot := 4, constantValue := 0 }, { name := "negativeZeroFloatBits", type := .long, accessFlags := 26, slot := 5, constantValue := 0 }, { name := "negativeZeroDoubleBits", type := .long, accessFlags := 26, slot := 6, constantValue := 0 }, { name := "twoToTheDoubleScaleUp", type := .double, accessFlags := 8, slot := 7, constantValue := 0 }, { name := "twoToTheDoubleScaleDown", type := .double, accessFlags := 8, slot := 8, constantValue := 0 }, { name := "$assertionsDisabled", type := .boolean, accessFlags := 4120, slot := 9, constantValue := 0 }]
  methods := #[k2m0, k2m1]
  instanceTypes := #[]
  staticTypes := #[.double, .double, .double, .double, .double, .long, .long, .double, .double, .boolean]
  resolved := Array.replicate 460 none
  statics := none }

def pool3 : Array CpInfo := pool [(1, .methodref 2 3), (0, .class_ 4), (0, .nameAndType 5 6), (0, u "java/lang/Object"), (0, u "<init>"), (0, u "()V"), (0, .fieldref 8 9), (0, .class_ 10), (0, .nameAndType 11 12), (0, u "com/example/rumorwire/rumorwire/TreeSolver"), (0, u "parent"), (0, u "[I"), (0, .fieldref 8 14), (0, .nameAndType 15 12), (0, u "childStart"), (0, .fieldref 8 17), (0, .nameAndType 18 12), (0, u "children"), (0, .fieldref 8 20), (0, .nameAndType 21 12), (0, u "time"), (0, .fieldref 8 23), (0, .nameAndType 24 12), (0, u "finished"), (0, .methodref 8 26), (0, .nameAndType 27 6), (0, u "finishInOrderOfTime"), (6, u "([I)V"), (5, u "()[I"), (79, u "(I)I"), (3, u "(II)I"), (3, .methodref 129 130), (0, .class_ 131), (0, .nameAndType 132 133), (0, u "java/util/Arrays"), (0, u "fill"), (0, u "([II)V"), (0, .methodref 8 135), (0, .nameAndType 136 120), (0, u "timeFromChildren"), (0, .methodref 138 139), (0, .class_ 140), (0, .nameAndType 141 124), (0, u "java/lang/Math"), (0, u "max"), (2, u "informedIn")] 61

def k3c0 : Code := { maxStack := 5, maxLocals := 4, code := prog_35_method_1_code, exceptionTable := #[], attributes := #[] }
def k3m0 : Method := { name := "<init>", desc := "([I)V", sig := { parameters := [(.array .int)], returnType := none }, accessFlags := 0, code := some k3c0 }
def k3c1 : Code := { maxStack := 7, maxLocals := 9, code := prog_35_method_11_code, exceptionTable := #[], attributes := #[] }
def k3m1 : Method := { name := "finishInOrderOfTime", desc := "()V", sig := { parameters := [], returnType := none }, accessFlags := 2, code := some k3c1 }
def k3c2 : Code := { maxStack := 4, maxLocals := 5, code := prog_35_method_12_code, exceptionTable := #[], attributes := #[] }
def k3m2 : Method := { name := "timeFromChildren", desc := "(I)I", sig := { parameters := [.int], returnType := some .int }, accessFlags := 2, code := some k3c2 }
def k3c3 : Code := { maxStack := 4, maxLocals := 7, code := prog_35_method_13_code, exceptionTable := #[], attributes := #[] }
def k3m3 : Method := { name := "informedIn", desc := "()[I", sig := { parameters := [], returnType := some (.array .int) }, accessFlags := 0, code := some k3c3 }
/-- com/example/rumorwire/rumorwire/TreeSolver -/
def k3 : Class := { plain "com/example/rumorwire/rumorwire/TreeSolver" (some 0) with
  accessFlags := 49
  interfaces := #[]
  cf := some (fileOf pool3 8 #[] #[{ accessFlags := 0, nameIndex := 5, descriptorIndex := 34, attributes := #[] }, { accessFlags := 2, nameIndex := 27, descriptorIndex := 6, attributes := #[] }, { accessFlags := 2, nameIndex := 136, descriptorIndex := 120, attributes := #[] }, { accessFlags := 0, nameIndex := 144, descriptorIndex := 40, attributes := #[] }] 49 2 #[] #[{ accessFlags := 18, nameIndex := 11, descriptorIndex := 12, attributes := #[] }, { accessFlags := 18, nameIndex := 15, descriptorIndex := 12, attributes := #[] }, { accessFlags := 18, nameIndex := 18, descriptorIndex := 12, attributes := #[] }, { accessFlags := 18, nameIndex := 21, descriptorIndex := 12, attributes := #[] }, { accessFlags := 18, nameIndex := 24, descriptorIndex := 12, attributes := #[] }])
  fields := #[{ name := "parent", type := (.array .int), accessFlags := 18, slot := 0, constantValue := 0 }, { name := "childStart", type := (.array .int), accessFlags := 18, slot := 1, constantValue := 0 }, { name := "children", type := (.array .int), accessFlags := 18, slot := 2, constantValue := 0 }, { name := "time", type := (.array .int), accessFlags := 18, slot := 3, constantValue := 0 }, { name := "finished", type := (.array .int), accessFlags := 18, slot := 4, constantValue := 0 }]
  methods := #[k3m0, k3m1, k3m2, k3m3]
  instanceTypes := #[(.array .int), (.array .int), (.array .int), (.array .int), (.array .int)]
  staticTypes := #[]
  resolved := Array.replicate 206 none
  statics := none }

def pool4 : Array CpInfo := pool [(2, .class_ 4), (1, u "java/lang/Object"), (0, u "<init>"), (0, u "()V"), (7, .class_ 16), (1, u "java/util/Arrays"), (57, .class_ 76), (1, u "java/util/Arrays$NaturalOrder"), (36, .class_ 115), (1, u "java/util/Arrays$LegacyMergeSort"), (1, u "Z"), (257, .class_ 376), (0, u "java/util/Arrays$ArrayList"), (68, u "$assertionsDisabled"), (269, u "MIN_ARRAY_SORT_GRAN"), (0, u "I"), (2, u "INSERTIONSORT_THRESHOLD"), (120, u "fill"), (4, u "([II)V"), (129, .class_ 976), (0, u "java/util/Arrays$ArrayItr")] 52

def k4m0 : Method := { name := "<init>", desc := "()V", sig := { parameters := [], returnType := none }, accessFlags := 2, code := none }
def k4c1 : Code := { maxStack := 3, maxLocals := 4, code := jdk_65_method_103_code, exceptionTable := #[], attributes := #[] }
def k4m1 : Method := { name := "fill", desc := "([II)V", sig := { parameters := [(.array .int), .int], returnType := none }, accessFlags := 9, code := some k4c1 }
/-- java/util/Arrays -/
def k4 : Class := { plain "java/util/Arrays" (some 0) with
  accessFlags := 49
  interfaces := #[]
  cf := some (fileOf pool4 14 #[.nestMembers #[975, 375, 113, 74]] #[{ accessFlags := 2, nameIndex := 5, descriptorIndex := 6, attributes := #[] }, { accessFlags := 9, nameIndex := 840, descriptorIndex := 845, attributes := #[] }] 49 2 #[] #[{ accessFlags := 26, nameIndex := 715, descriptorIndex := 716, attributes := #[] }, { accessFlags := 26, nameIndex := 719, descriptorIndex := 716, attributes := #[] }, { accessFlags := 4120, nameIndex := 445, descriptorIndex := 117, attributes := #[] }])
  fields := #[{ name := "MIN_ARRAY_SORT_GRAN", type := .int, accessFlags := 26, slot := 0, constantValue := 0 }, { name := "INSERTIONSORT_THRESHOLD", type := .int, accessFlags := 26, slot := 1, constantValue := 0 }, { name := "$assertionsDisabled", type := .boolean, accessFlags := 4120, slot := 2, constantValue := 0 }]
  methods := #[k4m0, k4m1]
  instanceTypes := #[]
  staticTypes := #[.int, .int, .boolean]
  resolved := Array.replicate 1029 none
  statics := none }

def pool5 : Array CpInfo := pool [(1, u "java/lang/Cloneable"), (0, .class_ 1), (0, u "java/lang/Object"), (0, .class_ 3)] 3

/-- java/lang/Cloneable -/
def k5 : Class := { plain "java/lang/Cloneable" (some 0) with
  accessFlags := 1537
  interfaces := #[]
  cf := some (fileOf pool5 2 #[] #[] 1537 4 #[] #[])
  fields := #[]
  methods := #[]
  instanceTypes := #[]
  staticTypes := #[]
  resolved := Array.replicate 8 none
  statics := none }

def pool6 : Array CpInfo := pool [(1, u "java/io/Serializable"), (0, .class_ 1), (0, u "java/lang/Object"), (0, .class_ 3)] 3

/-- java/io/Serializable -/
def k6 : Class := { plain "java/io/Serializable" (some 0) with
  accessFlags := 1537
  interfaces := #[]
  cf := some (fileOf pool6 2 #[] #[] 1537 4 #[] #[])
  fields := #[]
  methods := #[]
  instanceTypes := #[]
  staticTypes := #[]
  resolved := Array.replicate 8 none
  statics := none }

/-- the primitive byte -/
def k7 : Class := { plain "byte" none with kind := .primitive 'B', accessFlags := 0x411 }
/-- [B -/
def k8 : Class := { plain "[B" (some 0) with kind := .array 7 .byte, interfaces := #[5, 6], accessFlags := 1041 }

/-- the primitive int -/
def k9 : Class := { plain "int" none with kind := .primitive 'I', accessFlags := 0x411 }
/-- [I -/
def k10 : Class := { plain "[I" (some 0) with kind := .array 9 .int, interfaces := #[5, 6], accessFlags := 1041 }

def heap : Heap := #[]
def classes : Array Class := #[k0, k1, k2, k3, k4, k5, k6, k7, k8, k9, k10]
def interned : List (Array UInt16 × Addr) := []
def slotsUsed : Nat := 0
def theMethod : MethodId := ⟨1, 1⟩
def args0 : Array Value := #[.int 5, .int 7, .int 9, .int 3, .int 11]
def aboutOver (below : List Frame) : State where
  vm := { classes := classes, interned := interned.toArray }
  heap := heap
  slotsUsed := slotsUsed
  threads := #[{ frames := .invoking theMethod args0 :: below }]
def below0 : List Frame := [.native { method := ⟨0, 0⟩, args := #[] }]
def about1 : State := aboutOver below0
def p0 : Program := .bare "" "" ""
def e0 : Env := launch0.env 0 0 0
theorem w_frames : about1.frames = Frame.invoking theMethod args0 :: below0 := rfl
set_option maxRecDepth 65536 in
theorem w_args : argsFit about1.vm theMethod args0 = true := by decide +kernel
set_option maxRecDepth 65536 in
theorem w_heap : heapFits about1 = true := by decide +kernel
set_option maxRecDepth 65536 in
theorem w_runnable : about1.curStatus? = some .runnable := by decide +kernel
set_option maxRecDepth 65536 in
theorem w_alone : about1.alone = true := by decide +kernel
set_option maxRecDepth 65536 in
theorem w_named : about1.methodNamed? x = some theMethod := by decide +kernel
set_option maxRecDepth 65536 in
theorem w_hears : about1.hears theMethod below0 = true := by decide +kernel
set_option maxRecDepth 65536 in
theorem w_ripe : about1.ripe theMethod args0 below0 = true := by decide +kernel
theorem w_running : about1.status = .running := rfl
set_option maxRecDepth 65536 in
theorem w_room : about1.hasRoom e0.platform room_1 = true :=
  launch0.hasRoom_least _ room_1 (by decide +kernel) (by decide +kernel) (by decide +kernel) (by decide +kernel) (by decide +kernel) (by decide +kernel)
theorem allAtoms_all (ts : List Jvm.Cond) (a : Array Jvm.Value) (st : Jvm.State) : (allAtoms ts).before a st = ts.all (fun c => c.before a st) := by
  induction ts with
  | nil => rfl
  | cons c t ih =>
    show (Jvm.Cond.and c (allAtoms t)).before a st = _
    rw [Jvm.Cond.before_and, ih, List.all_cons]
def words1 : List Jvm.Cond := Jvm.Cond.code x code maxLocals ret :: tables_1
/-- a 'code' word, met by the world's own term for the bytes: nothing is compared byte by byte -/
theorem code_word {y : MethodName} {bytes : ByteArray} {mx : Nat} {rt : Option FieldType} {a : Array Value} {s : State} {m : MethodId} {meth : Method} {c : Code} (h1 : s.methodNamed? y = some m) (h2 : s.vm.method? m = some meth) (h3 : meth.code = some c) (h4 : c.code = bytes)
    (h5 : (c.maxLocals == mx && c.exceptionTable.isEmpty && decide (c.maxStack ≤ mostOperands) && decide (meth.sig.returnType = rt) && !meth.locks && decide (parseMethodDescriptor y.desc = some meth.sig)) = true) : (Jvm.Cond.code y bytes mx rt).before a s = true := by
  simp only [Bool.and_eq_true, beq_iff_eq, Bool.not_eq_true', decide_eq_true_eq] at h5
  obtain ⟨⟨⟨⟨⟨g1, g2⟩, g3⟩, g4⟩, g5⟩, g6⟩ := h5
  simp [Cond.before, Cond.holds, Cond.value, h1, h2, h3, h4, g1, g2, g3, g4, g5, g6]
def isCode : Jvm.Cond → Bool
  | .code _ _ _ _ => true
  | _ => false
theorem all_split {L : List Jvm.Cond} {P : Jvm.Cond → Bool} (h1 : L.all (fun c => isCode c || P c) = true) (h2 : ∀ c ∈ L.filter isCode, P c = true) : L.all P = true := by
  refine List.all_eq_true.mpr fun c hc => ?_
  have h := List.all_eq_true.mp h1 c hc
  rcases Bool.eq_false_or_eq_true (isCode c) with hi | hi
  · exact h2 c (List.mem_filter.mpr ⟨hc, hi⟩)
  · simpa [hi] using h
set_option maxRecDepth 65536 in
theorem w_c0 : (Jvm.Cond.code x code maxLocals ret).before args0 about1 = true := code_word (m := ⟨1, 1⟩) (meth := k1m1) (c := k1c1) (by decide +kernel) rfl rfl rfl (by decide +kernel)
set_option maxRecDepth 65536 in
theorem w_c1 : (Jvm.Cond.code ({ cls := "com/example/rumorwire/rumorwire/TreeSolverInformedInPinLaw", name := "timeOf", desc := "([I[II)I" } : Jvm.MethodName) method_6_code (4 : Nat) (Option.some Jvm.ClassFile.FieldType.int)).before args0 about1 = true := code_word (m := ⟨1, 5⟩) (meth := k1m5) (c := k1c5) (by decide +kernel) rfl rfl rfl (by decide +kernel)
set_option maxRecDepth 65536 in
theorem w_c2 : (Jvm.Cond.code ({ cls := "com/example/rumorwire/rumorwire/TreeSolverInformedInPinLaw", name := "term", desc := "([I[III)I" } : Jvm.MethodName) method_5_code (4 : Nat) (Option.some Jvm.ClassFile.FieldType.int)).before args0 about1 = true := code_word (m := ⟨1, 4⟩) (meth := k1m4) (c := k1c4) (by decide +kernel) rfl rfl rfl (by decide +kernel)
set_option maxRecDepth 65536 in
theorem w_c3 : (Jvm.Cond.code ({ cls := "java/lang/Math", name := "max", desc := "(II)I" } : Jvm.MethodName) jdk_29_method_65_code (2 : Nat) (Option.some Jvm.ClassFile.FieldType.int)).before args0 about1 = true := code_word (m := ⟨2, 1⟩) (meth := k2m1) (c := k2c1) (by decide +kernel) rfl rfl rfl (by decide +kernel)
set_option maxRecDepth 65536 in
theorem w_c4 : (Jvm.Cond.code ({ cls := "com/example/rumorwire/rumorwire/TreeSolverInformedInPinLaw", name := "cnt", desc := "([I[IIIZ)I" } : Jvm.MethodName) method_4_code (5 : Nat) (Option.some Jvm.ClassFile.FieldType.int)).before args0 about1 = true := code_word (m := ⟨1, 3⟩) (meth := k1m3) (c := k1c3) (by decide +kernel) rfl rfl rfl (by decide +kernel)
set_option maxRecDepth 65536 in
theorem w_c5 : (Jvm.Cond.code ({ cls := "com/example/rumorwire/rumorwire/TreeSolverInformedInPinLaw", name := "one", desc := "([I[IIIZI)I" } : Jvm.MethodName) method_3_code (6 : Nat) (Option.some Jvm.ClassFile.FieldType.int)).before args0 about1 = true := code_word (m := ⟨1, 2⟩) (meth := k1m2) (c := k1c2) (by decide +kernel) rfl rfl rfl (by decide +kernel)
set_option maxRecDepth 65536 in
theorem w_c6 : (Jvm.Cond.code ({ cls := "com/example/rumorwire/rumorwire/TreeSolver", name := "<init>", desc := "([I)V" } : Jvm.MethodName) prog_35_method_1_code (4 : Nat) (Option.none : Option Jvm.ClassFile.FieldType)).before args0 about1 = true := code_word (m := ⟨3, 0⟩) (meth := k3m0) (c := k3c0) (by decide +kernel) rfl rfl rfl (by decide +kernel)
set_option maxRecDepth 65536 in
theorem w_c7 : (Jvm.Cond.code ({ cls := "java/lang/Object", name := "<init>", desc := "()V" } : Jvm.MethodName) object_method_1_code (1 : Nat) (Option.none : Option Jvm.ClassFile.FieldType)).before args0 about1 = true := code_word (m := ⟨0, 0⟩) (meth := k0m0) (c := k0c0) (by decide +kernel) rfl rfl rfl (by decide +kernel)
set_option maxRecDepth 65536 in
theorem w_c8 : (Jvm.Cond.code ({ cls := "com/example/rumorwire/rumorwire/TreeSolver", name := "finishInOrderOfTime", desc := "()V" } : Jvm.MethodName) prog_35_method_11_code (9 : Nat) (Option.none : Option Jvm.ClassFile.FieldType)).before args0 about1 = true := code_word (m := ⟨3, 1⟩) (meth := k3m1) (c := k3c1) (by decide +kernel) rfl rfl rfl (by decide +kernel)
set_option maxRecDepth 65536 in
theorem w_c9 : (Jvm.Cond.code ({ cls := "java/util/Arrays", name := "fill", desc := "([II)V" } : Jvm.MethodName) jdk_65_method_103_code (4 : Nat) (Option.none : Option Jvm.ClassFile.FieldType)).before args0 about1 = true := code_word (m := ⟨4, 1⟩) (meth := k4m1) (c := k4c1) (by decide +kernel) rfl rfl rfl (by decide +kernel)
set_option maxRecDepth 65536 in
theorem w_c10 : (Jvm.Cond.code ({ cls := "com/example/rumorwire/rumorwire/TreeSolver", name := "timeFromChildren", desc := "(I)I" } : Jvm.MethodName) prog_35_method_12_code (5 : Nat) (Option.some Jvm.ClassFile.FieldType.int)).before args0 about1 = true := code_word (m := ⟨3, 2⟩) (meth := k3m2) (c := k3c2) (by decide +kernel) rfl rfl rfl (by decide +kernel)
set_option maxRecDepth 65536 in
theorem w_c11 : (Jvm.Cond.code ({ cls := "com/example/rumorwire/rumorwire/TreeSolver", name := "informedIn", desc := "()[I" } : Jvm.MethodName) prog_35_method_13_code (7 : Nat) (Option.some (Jvm.ClassFile.FieldType.array Jvm.ClassFile.FieldType.int))).before args0 about1 = true := code_word (m := ⟨3, 3⟩) (meth := k3m3) (c := k3c3) (by decide +kernel) rfl rfl rfl (by decide +kernel)
set_option maxRecDepth 65536 in
theorem w_c12 : (Jvm.Cond.code ({ cls := "com/example/rumorwire/rumorwire/TreeSolverInformedInPinLaw", name := "child", desc := "([I[I[II)Z" } : Jvm.MethodName) method_7_code (8 : Nat) (Option.some Jvm.ClassFile.FieldType.boolean)).before args0 about1 = true := code_word (m := ⟨1, 6⟩) (meth := k1m6) (c := k1c6) (by decide +kernel) rfl rfl rfl (by decide +kernel)
set_option maxRecDepth 65536 in
theorem w_c13 : (Jvm.Cond.code ({ cls := "com/example/rumorwire/rumorwire/TreeSolverInformedInPinLaw", name := "apart", desc := "([I[III)Z" } : Jvm.MethodName) method_8_code (4 : Nat) (Option.some Jvm.ClassFile.FieldType.boolean)).before args0 about1 = true := code_word (m := ⟨1, 7⟩) (meth := k1m7) (c := k1c7) (by decide +kernel) rfl rfl rfl (by decide +kernel)
def codes1 : List Jvm.Cond := [Jvm.Cond.code x code maxLocals ret, Jvm.Cond.code ({ cls := "com/example/rumorwire/rumorwire/TreeSolverInformedInPinLaw", name := "timeOf", desc := "([I[II)I" } : Jvm.MethodName) method_6_code (4 : Nat) (Option.some Jvm.ClassFile.FieldType.int), Jvm.Cond.code ({ cls := "com/example/rumorwire/rumorwire/TreeSolverInformedInPinLaw", name := "term", desc := "([I[III)I" } : Jvm.MethodName) method_5_code (4 : Nat) (Option.some Jvm.ClassFile.FieldType.int), Jvm.Cond.code ({ cls := "java/lang/Math", name := "max", desc := "(II)I" } : Jvm.MethodName) jdk_29_method_65_code (2 : Nat) (Option.some Jvm.ClassFile.FieldType.int), Jvm.Cond.code ({ cls := "com/example/rumorwire/rumorwire/TreeSolverInformedInPinLaw", name := "cnt", desc := "([I[IIIZ)I" } : Jvm.MethodName) method_4_code (5 : Nat) (Option.some Jvm.ClassFile.FieldType.int), Jvm.Cond.code ({ cls := "com/example/rumorwire/rumorwire/TreeSolverInformedInPinLaw", name := "one", desc := "([I[IIIZI)I" } : Jvm.MethodName) method_3_code (6 : Nat) (Option.some Jvm.ClassFile.FieldType.int), Jvm.Cond.code ({ cls := "com/example/rumorwire/rumorwire/TreeSolver", name := "<init>", desc := "([I)V" } : Jvm.MethodName) prog_35_method_1_code (4 : Nat) (Option.none : Option Jvm.ClassFile.FieldType), Jvm.Cond.code ({ cls := "java/lang/Object", name := "<init>", desc := "()V" } : Jvm.MethodName) object_method_1_code (1 : Nat) (Option.none : Option Jvm.ClassFile.FieldType), Jvm.Cond.code ({ cls := "com/example/rumorwire/rumorwire/TreeSolver", name := "finishInOrderOfTime", desc := "()V" } : Jvm.MethodName) prog_35_method_11_code (9 : Nat) (Option.none : Option Jvm.ClassFile.FieldType), Jvm.Cond.code ({ cls := "java/util/Arrays", name := "fill", desc := "([II)V" } : Jvm.MethodName) jdk_65_method_103_code (4 : Nat) (Option.none : Option Jvm.ClassFile.FieldType), Jvm.Cond.code ({ cls := "com/example/rumorwire/rumorwire/TreeSolver", name := "timeFromChildren", desc := "(I)I" } : Jvm.MethodName) prog_35_method_12_code (5 : Nat) (Option.some Jvm.ClassFile.FieldType.int), Jvm.Cond.code ({ cls := "com/example/rumorwire/rumorwire/TreeSolver", name := "informedIn", desc := "()[I" } : Jvm.MethodName) prog_35_method_13_code (7 : Nat) (Option.some (Jvm.ClassFile.FieldType.array Jvm.ClassFile.FieldType.int)), Jvm.Cond.code ({ cls := "com/example/rumorwire/rumorwire/TreeSolverInformedInPinLaw", name := "child", desc := "([I[I[II)Z" } : Jvm.MethodName) method_7_code (8 : Nat) (Option.some Jvm.ClassFile.FieldType.boolean), Jvm.Cond.code ({ cls := "com/example/rumorwire/rumorwire/TreeSolverInformedInPinLaw", name := "apart", desc := "([I[III)Z" } : Jvm.MethodName) method_8_code (4 : Nat) (Option.some Jvm.ClassFile.FieldType.boolean)]
set_option maxRecDepth 65536 in
theorem codes_eq : words1.filter isCode = codes1 := rfl
theorem w_codes : ∀ c ∈ words1.filter isCode, c.before args0 about1 = true := by
  rw [codes_eq]
  intro c hc
  simp only [codes1, List.mem_cons, List.not_mem_nil, or_false] at hc
  rcases hc with rfl | rfl | rfl | rfl | rfl | rfl | rfl | rfl | rfl | rfl | rfl | rfl | rfl | rfl
  · exact w_c0
  · exact w_c1
  · exact w_c2
  · exact w_c3
  · exact w_c4
  · exact w_c5
  · exact w_c6
  · exact w_c7
  · exact w_c8
  · exact w_c9
  · exact w_c10
  · exact w_c11
  · exact w_c12
  · exact w_c13
set_option maxRecDepth 65536 in
theorem w_t1 : (words1.take 24).all (fun c => isCode c || c.before args0 about1) = true := by decide +kernel
set_option maxRecDepth 65536 in
theorem w_t2 : ((words1.drop 24).take 24).all (fun c => isCode c || c.before args0 about1) = true := by decide +kernel
set_option maxRecDepth 65536 in
theorem w_t3 : ((words1.drop 24).drop 24).all (fun c => isCode c || c.before args0 about1) = true := by decide +kernel
theorem w_tables : (allAtoms (Jvm.Cond.code x code maxLocals ret :: tables_1)).before args0 about1 = true := by
  rw [allAtoms_all]
  show words1.all (fun c => c.before args0 about1) = true
  refine all_split ?_ w_codes
  rw [← List.take_append_drop 24 words1, List.all_append, w_t1, ← List.take_append_drop 24 (words1.drop 24), List.all_append, w_t2, w_t3]
  rfl
set_option maxRecDepth 65536 in
theorem w_case : (Jvm.Cond.and given_1 narrow_1).before args0 about1 = true := by decide +kernel
theorem w_applies : (headSpec (Jvm.Cond.code x code maxLocals ret :: tables_1) room_1).applies x e0.platform about1 = true :=
  (Spec.applies_iff w_frames).mpr ⟨w_running, w_runnable, w_alone, w_named, w_hears, w_ripe, w_room, w_tables⟩
theorem atStart : AtStart classFile x code maxLocals ret World_1 tables_1 room_1 Calls_1 rest_1 Pre_1 launch0 p0 e0 about1 theMethod args0 below0 :=
  ⟨lists_1, trivial, launch0.admits_env _ _ _, launch0.least_env, fairChoices_fair.cas, fairChoices_fair.clock, w_frames, w_args, w_heap, w_applies, trivial, trivial, w_case⟩
end start1
theorem witness_1 : WitnessClaimed_1 := ⟨start1.p0, start1.e0, start1.about1, start1.theMethod, start1.args0, start1.below0, start1.atStart⟩
end Jvm.Pilot.@@N@@
