import JvmDerived
import JvmDerived.Pilot.@@N@@Statement
import JvmDerived.Pilot.@@N@@Code
set_option linter.unusedVariables false
set_option linter.unusedSimpArgs false
namespace Jvm.RoadKit
open Sem ClassFile Op Lib Jvm.Stand Jvm.Free Jvm.LawKit
section Own
variable {p : Program} {l : Launch} {e : Env} {R : Room} {s : State} {m : MethodId} {args : Array Value} {below : List Frame} {meth : Method} {c : Code} {T : State} {locs : List Loc} {cells slots : Nat} {Z : State} {h : Heap} {a : Addr} {k : ClassId} {n j : Int32} {vs : List Value} {dv : Value} {ty : FieldType}
theorem own_retI (X : Stand p l e R s m args below meth c T locs cells slots) (hx : p.tables.exec = Jvm.exec) {pc : Nat} {Ls : Array Slot} {z : Int32} {rest : List Value} (hret : meth.sig.returnType = some .int) (hd : decode c.code pc = .ok (.ireturn, 1)) {fs : List Frame}
    (hl : ∀ (f : JFrame) (acts : List Action), f.method = m → f.locked = none → f.entered = [] → (doReturn e (T.setTop f) acts (some (.int z))).1 = T.setFrames fs) : Steps p.tables e below (T.setTop (mkF m pc Ls (.int z :: rest))) (T.setFrames fs) :=
  retOut X hx hret rfl (Or.inl ⟨rfl, Or.inl rfl, _, rfl⟩) hd hl
/-- the run from st ends as the contract says -/
def own_Ends (p : Program) (e : Env) (below : List Frame) (s : State) (C S : Nat) (Q : Option Value → Heap → List Loc → Prop) (st : State) : Prop :=
  ∃ s₂ o, Steps p.tables e below st s₂ ∧ s₂.status = .running ∧ Ended s₂ below o ∧ ∃ v L, o = .returned v ∧ Q v s₂.heap L ∧ FrameEnd s o s₂ L C S
theorem own_step {C S : Nat} {Q : Option Value → Heap → List Loc → Prop} {st st' : State} (f : ∀ t, Steps p.tables e below st' t → Steps p.tables e below st t) (h : own_Ends p e below s C S Q st') : own_Ends p e below s C S Q st := by
  obtain ⟨s2, o, h1, h2⟩ := h
  exact ⟨s2, o, f _ h1, h2⟩
theorem own_sstep {st st' t : State} (f : ∀ t, Steps p.tables e below st' t → Steps p.tables e below st t) (h : Steps p.tables e below st' t) : Steps p.tables e below st t := f _ h
theorem own_ret (X : Stand p l e R s m args below meth c T locs cells slots) (hlocks : meth.locks = false) {C S : Nat} {Q : Option Value → Heap → List Loc → Prop} {g : JFrame} (v : Option Value) (hv : meth.sig.returnType = none → v = none)
    (st : ∀ fs, (∀ (f : JFrame) (acts : List Action), f.method = m → f.locked = none → f.entered = [] → (doReturn e (T.setTop f) acts v).1 = T.setFrames fs) → Steps p.tables e below (T.setTop g) (T.setFrames fs))
    (hQ : Q v T.heap locs) (hc : cells ≤ C) (hs : slots ≤ S) : own_Ends p e below s C S Q (T.setTop g) := by
  obtain ⟨fs, hr, hrun, hended, hW, hsame⟩ := X.leave (v := v) hv
  exact ⟨_, _, st fs hr, hrun, hended, _, _, rfl, hQ, ⟨_, rfl⟩, hW, hsame.mono hc hs⟩
theorem own_b1 {P : Prop} [Decidable P] (hp : P) : ¬ ((if P then (1 : Int32) else (0 : Int32)) = 0) := by rw [if_pos hp]; decide
theorem own_b1n {P : Prop} [Decidable P] (hp : ¬ P) : ¬ ((if P then (0 : Int32) else (1 : Int32)) = 0) := by rw [if_neg hp]; decide
theorem own_nar01 {P : Prop} [Decidable P] : nar .boolean (if P then (0 : Int32) else (1 : Int32)) = if P then (0 : Int32) else (1 : Int32) := by split <;> rfl
theorem own_nar10 {P : Prop} [Decidable P] : nar .boolean (if P then (1 : Int32) else (0 : Int32)) = if P then (1 : Int32) else (0 : Int32) := by split <;> rfl
theorem own_lrem {tb : Tables} [Ours tb] {target : State} {g : JFrame} (ha : At T m c below) (hx : tb.exec = Jvm.exec) (hg : g.method = m) {x y : Int64} {rest : List Value} (hd : decode c.code g.pc = .ok (.lrem, 1)) (hs : g.stack = .long y :: .long x :: rest) (hy : y ≠ 0) (hr : Steps tb e below (T.setTop { g with pc := g.pc + 1, stack := .long (x % y) :: rest }) target) : Steps tb e below (T.setTop g) target :=
  XS.lrem ha hx hg hd hs hy (by rw [lrem_mod]; exact hr)
theorem own_len (X : Stand p l e R s m args below meth c T locs cells slots) (hx : p.tables.exec = Jvm.exec) (hZ : Z.Warmed39 s.vm) (eT : T.heap = h) (A : Arv Z h a k ty n vs dv) {g : JFrame} (hg : g.method = m) {rest : List Value} (hs : g.stack = .ref a :: rest) (hd : decode c.code g.pc = .ok (.arraylength, 1)) :
    ∀ target, Steps p.tables e below (T.setTop { g with pc := g.pc + 1, stack := .int n :: rest }) target → Steps p.tables e below (T.setTop g) target := by
  obtain ⟨cl, Ar, -, S, N, -, -⟩ := A
  intro t k
  refine X.arraylength hx (by rw [eT]; exact Ar.1) (State.isArrayOf_alike hZ.alike Ar.2.1) hg hs hd t ?_
  rw [len_of S N]; exact k
theorem own_ldI (X : Stand p l e R s m args below meth c T locs cells slots) (hx : p.tables.exec = Jvm.exec) (hZ : Z.Warmed39 s.vm) (eT : T.heap = h) (A : Arv Z h a k .int n vs dv) {j : Int32} {v : Value} (hj : ¬ j < 0 ∧ j < n) (hv : vs.getD j.toNatClampNeg dv = v) {g : JFrame} (hg : g.method = m) {rest : List Value} (hs : g.stack = .int j :: .ref a :: rest) (hd : decode c.code g.pc = .ok (.iaload, 1)) :
    ∀ target, Steps p.tables e below (T.setTop { g with pc := g.pc + 1, stack := v :: rest }) target → Steps p.tables e below (T.setTop g) target := by
  obtain ⟨cl, Ar, -, S, N, H, -⟩ := A
  intro t k
  exact X.iaload hx (by rw [eT]; exact Ar.1) (State.isArrayOf_alike hZ.alike Ar.2.1) Ar.2.2 (inb_of S hj) (H.at (inb_of S hj) hv) hg hs hd t k
theorem own_ldJ (X : Stand p l e R s m args below meth c T locs cells slots) (hx : p.tables.exec = Jvm.exec) (hZ : Z.Warmed39 s.vm) (eT : T.heap = h) (A : Arv Z h a k .long n vs dv) {j : Int32} {v : Value} (hj : ¬ j < 0 ∧ j < n) (hv : vs.getD j.toNatClampNeg dv = v) {g : JFrame} (hg : g.method = m) {rest : List Value} (hs : g.stack = .int j :: .ref a :: rest) (hd : decode c.code g.pc = .ok (.laload, 1)) :
    ∀ target, Steps p.tables e below (T.setTop { g with pc := g.pc + 1, stack := v :: rest }) target → Steps p.tables e below (T.setTop g) target := by
  obtain ⟨cl, Ar, -, S, N, H, -⟩ := A
  intro t k
  exact X.laload hx (by rw [eT]; exact Ar.1) (State.isArrayOf_alike hZ.alike Ar.2.1) Ar.2.2 (inb_of S hj) (H.at (inb_of S hj) hv) hg hs hd t k
theorem own_ldC (X : Stand p l e R s m args below meth c T locs cells slots) (hx : p.tables.exec = Jvm.exec) (hZ : Z.Warmed39 s.vm) (eT : T.heap = h) (A : Arv Z h a k .char n vs dv) {j : Int32} {v : Value} (hj : ¬ j < 0 ∧ j < n) (hv : vs.getD j.toNatClampNeg dv = v) {g : JFrame} (hg : g.method = m) {rest : List Value} (hs : g.stack = .int j :: .ref a :: rest) (hd : decode c.code g.pc = .ok (.caload, 1)) :
    ∀ target, Steps p.tables e below (T.setTop { g with pc := g.pc + 1, stack := v :: rest }) target → Steps p.tables e below (T.setTop g) target := by
  obtain ⟨cl, Ar, -, S, N, H, -⟩ := A
  intro t k
  exact X.caload hx (by rw [eT]; exact Ar.1) (State.isArrayOf_alike hZ.alike Ar.2.1) Ar.2.2 (inb_of S hj) (H.at (inb_of S hj) hv) hg hs hd t k
theorem own_ldB (X : Stand p l e R s m args below meth c T locs cells slots) (hx : p.tables.exec = Jvm.exec) (hZ : Z.Warmed39 s.vm) (eT : T.heap = h) (A : Arv Z h a k .byte n vs dv) {j : Int32} {v : Value} (hj : ¬ j < 0 ∧ j < n) (hv : vs.getD j.toNatClampNeg dv = v) {g : JFrame} (hg : g.method = m) {rest : List Value} (hs : g.stack = .int j :: .ref a :: rest) (hd : decode c.code g.pc = .ok (.baload, 1)) :
    ∀ target, Steps p.tables e below (T.setTop { g with pc := g.pc + 1, stack := v :: rest }) target → Steps p.tables e below (T.setTop g) target := by
  obtain ⟨cl, Ar, -, S, N, H, -⟩ := A
  intro t k
  exact X.baloadBytes hx (by rw [eT]; exact Ar.1) (State.isArrayOf_alike hZ.alike Ar.2.1) Ar.2.2 (inb_of S hj) (H.at (inb_of S hj) hv) hg hs hd t k
theorem own_stI (X : Stand p l e R s m args below meth c T locs cells slots) (hx : p.tables.exec = Jvm.exec) (hZ : Z.Warmed39 s.vm) (eT : T.heap = h) (A : Arv Z h a k .int n vs dv) {j x : Int32} {i : Nat} (hj : ¬ j < 0 ∧ j < n) (hi : j.toNatClampNeg = i) (hl : i < vs.length) {g : JFrame} (hg : g.method = m) {rest : List Value} (hs : g.stack = .int x :: .int j :: .ref a :: rest) (hd : decode c.code g.pc = .ok (.iastore, 1)) :
    ∃ T' h', Stand p l e R s m args below meth c T' (locs ++ [⟨a, j.toNatClampNeg⟩]) cells slots ∧ T'.heap = h' ∧ Wr h h' a j.toNatClampNeg (.int x) ∧ Arv Z h' a k .int n (vs.set i (.int x)) dv ∧ ∀ target, Steps p.tables e below (T'.setTop { g with pc := g.pc + 1, stack := rest }) target → Steps p.tables e below (T.setTop g) target := by
  obtain ⟨cl, Ar, q, S, N, H, G⟩ := A
  obtain ⟨T', h', X', e', W, st⟩ := stI X hx hZ eT Ar (inb_of S hj) hg hs hd
  exact ⟨T', h', X', e', W, Arv.set Ar q S N H G rfl W i hi hl, st⟩
theorem own_stJ (X : Stand p l e R s m args below meth c T locs cells slots) (hx : p.tables.exec = Jvm.exec) (hZ : Z.Warmed39 s.vm) (eT : T.heap = h) (A : Arv Z h a k .long n vs dv) {j : Int32} {x : Int64} {i : Nat} (hj : ¬ j < 0 ∧ j < n) (hi : j.toNatClampNeg = i) (hl : i < vs.length) {g : JFrame} (hg : g.method = m) {rest : List Value} (hs : g.stack = .long x :: .int j :: .ref a :: rest) (hd : decode c.code g.pc = .ok (.lastore, 1)) :
    ∃ T' h', Stand p l e R s m args below meth c T' (locs ++ [⟨a, j.toNatClampNeg⟩]) cells slots ∧ T'.heap = h' ∧ Wr h h' a j.toNatClampNeg (.long x) ∧ Arv Z h' a k .long n (vs.set i (.long x)) dv ∧ ∀ target, Steps p.tables e below (T'.setTop { g with pc := g.pc + 1, stack := rest }) target → Steps p.tables e below (T.setTop g) target := by
  obtain ⟨cl, Ar, q, S, N, H, G⟩ := A
  obtain ⟨T', h', X', e', W, st⟩ := stJ X hx hZ eT Ar (inb_of S hj) hg hs hd
  exact ⟨T', h', X', e', W, Arv.set Ar q S N H G rfl W i hi hl, st⟩
theorem own_stB (X : Stand p l e R s m args below meth c T locs cells slots) (hx : p.tables.exec = Jvm.exec) (hZ : Z.Warmed39 s.vm) (eT : T.heap = h) (A : Arv Z h a k .byte n vs dv) {j x : Int32} {i : Nat} (hj : ¬ j < 0 ∧ j < n) (hi : j.toNatClampNeg = i) (hl : i < vs.length) {g : JFrame} (hg : g.method = m) {rest : List Value} (hs : g.stack = .int x :: .int j :: .ref a :: rest) (hd : decode c.code g.pc = .ok (.bastore, 1)) :
    ∃ T' h', Stand p l e R s m args below meth c T' (locs ++ [⟨a, j.toNatClampNeg⟩]) cells slots ∧ T'.heap = h' ∧ Wr h h' a j.toNatClampNeg (.int x.toInt8.toInt32) ∧ Arv Z h' a k .byte n (vs.set i (.int x.toInt8.toInt32)) dv ∧ ∀ target, Steps p.tables e below (T'.setTop { g with pc := g.pc + 1, stack := rest }) target → Steps p.tables e below (T.setTop g) target := by
  obtain ⟨cl, Ar, q, S, N, H, G⟩ := A
  obtain ⟨T', h', X', e', W, st⟩ := stB X hx hZ eT Ar (inb_of S hj) hg hs hd
  exact ⟨T', h', X', e', W, Arv.set Ar q S N H G (fits_nar_byte x) W i hi hl, st⟩
theorem own_stC (X : Stand p l e R s m args below meth c T locs cells slots) (hx : p.tables.exec = Jvm.exec) (hZ : Z.Warmed39 s.vm) (eT : T.heap = h) (A : Arv Z h a k .char n vs dv) {j x : Int32} {i : Nat} (hj : ¬ j < 0 ∧ j < n) (hi : j.toNatClampNeg = i) (hl : i < vs.length) {g : JFrame} (hg : g.method = m) {rest : List Value} (hs : g.stack = .int x :: .int j :: .ref a :: rest) (hd : decode c.code g.pc = .ok (.castore, 1)) :
    ∃ T' h', Stand p l e R s m args below meth c T' (locs ++ [⟨a, j.toNatClampNeg⟩]) cells slots ∧ T'.heap = h' ∧ Wr h h' a j.toNatClampNeg (.int x.toUInt32.toUInt16.toUInt32.toInt32) ∧ Arv Z h' a k .char n (vs.set i (.int x.toUInt32.toUInt16.toUInt32.toInt32)) dv ∧ ∀ target, Steps p.tables e below (T'.setTop { g with pc := g.pc + 1, stack := rest }) target → Steps p.tables e below (T.setTop g) target := by
  obtain ⟨cl, Ar, q, S, N, H, G⟩ := A
  obtain ⟨T', h', X', e', W, st⟩ := stC X hx hZ eT Ar (inb_of S hj) hg hs hd
  exact ⟨T', h', X', e', W, Arv.set Ar q S N H G (fits_nar_char x) W i hi hl, st⟩
theorem own_eqI {t : Term} {q : Int32} (hq : (Jvm.Cond.eq t (.int q)).value args s none s [] = some true) : t.eval args s none [] s = some (.int q) := by
  obtain ⟨x, y, ha, hb, k1, k2⟩ := cmp_v (Or.inl hq)
  rw [Term.int_eval] at hb
  cases hb
  obtain ⟨z, rfl⟩ := k2
  simp [Cond.value, ha, Term.eval] at hq
  rw [ha, hq]
theorem own_eqR {t u : Term} {b : Addr} (hq : (Jvm.Cond.eq t u).value args s none s [] = some true) (hu : u.eval args s none [] s = some (.ref b)) : t.eval args s none [] s = some (.ref b) := by
  obtain ⟨x, y, ha, hb, k1, k2⟩ := cmp_v (Or.inl hq)
  cases hu.symm.trans hb
  have q := gotT (eq_R ha hb k2.2 rfl) hq
  rw [ha, q]
theorem own_lenA {t : Term} {cl : Cell} {q : Int32} (ht : t.eval args s none [] s = some (.ref a)) (A : Arr s s.heap a cl ty) (hq : (Term.length t).eval args s none [] s = some (.int q)) : cl.slots.size < 2 ^ 31 ∧ cl.slots.size.toInt32 = q := by
  have ha := Arr.fin (U := s) (Vm.Alike.refl _) A
  by_cases hl : cl.slots.size < 2 ^ 31
  · rw [len_f ht ha hl] at hq
    exact ⟨hl, Value.int.inj (Option.some.inj hq)⟩
  · simp [Term.eval, ht, ha, hl] at hq
theorem own_ldR (X : Stand p l e R s m args below meth c T locs cells slots) (hx : p.tables.exec = Jvm.exec) (hZ : Z.Warmed39 s.vm) (eT : T.heap = h) (A : Arv Z h a k ty n vs dv) (hr : ty.isReference = true) {j : Int32} {v : Value} (hj : ¬ j < 0 ∧ j < n) (hv : vs.getD j.toNatClampNeg dv = v) {g : JFrame} (hg : g.method = m) {rest : List Value} (hs : g.stack = .int j :: .ref a :: rest) (hd : decode c.code g.pc = .ok (.aaload, 1)) :
    ∀ target, Steps p.tables e below (T.setTop { g with pc := g.pc + 1, stack := v :: rest }) target → Steps p.tables e below (T.setTop g) target := by
  obtain ⟨cl, Ar, -, S, N, H, -⟩ := A
  intro t k
  exact X.aaload hx (by rw [eT]; exact Ar.1) (State.isArrayOf_alike hZ.alike Ar.2.1) hr Ar.2.2 (inb_of S hj) (H.at (inb_of S hj) hv) hg hs hd t k
theorem own_nf {y y' : MethodName} (hc : y'.cls = y.cls) (w : (Jvm.Cond.instanceMethod y).before args s = true) (hn : NotFace s y) : NotFace s y' := fun r0 h0 => by
  obtain ⟨mk, methM, hnamed, -⟩ := Cond.instanceMethod_spec w
  obtain ⟨kr, h1, h2⟩ := hn mk hnamed
  have q1 := findClass_of_methodNamed hnamed
  have q2 := findClass_of_methodNamed h0
  rw [hc] at q2
  have q3 : mk.cls = r0.cls := Option.some.inj (q1.symm.trans q2)
  exact ⟨kr, q3 ▸ h1, h2⟩
theorem own_selp {y : MethodName} (w : (Jvm.Cond.instanceMethod y).before args s = true) (hn : NotFace s y) (hp : s.PrivateAt y) (hy : y.cls ≠ "java/lang/invoke/MethodHandle" ∧ y.cls ≠ "java/lang/invoke/VarHandle") : (Jvm.Cond.selects y.cls y y).before args s = true := by
  obtain ⟨mk, methM, hnamed, -⟩ := Cond.instanceMethod_spec w
  obtain ⟨kr, h1, h2⟩ := hn mk hnamed
  exact selects_self_of_private (findClass_of_methodNamed hnamed) h1 h2 hp w hy
theorem own_same {y : MethodName} (w : (Jvm.Cond.instanceMethod y).before args s = true) (hn : NotFace s y) (hy : y.cls ≠ "java/lang/invoke/MethodHandle" ∧ y.cls ≠ "java/lang/invoke/VarHandle") : (Jvm.Cond.sameMethod y.cls y.cls y.name y.desc).before args s = true := by
  obtain ⟨mk, methM, hnamed, -⟩ := Cond.instanceMethod_spec w
  obtain ⟨kr, h1, h2⟩ := hn mk hnamed
  have q1 := findClass_of_methodNamed hnamed
  have q2 := State.methodFound?_of_named hnamed hy
  have q3 : s.methodNamed? ⟨y.cls, y.name, y.desc⟩ = some mk := hnamed
  simp [Cond.before, Cond.holds, Cond.value, q1, q2, q3, h1, h2]
theorem own_stR (X : Stand p l e R s m args below meth c T locs cells slots) (hx : p.tables.exec = Jvm.exec) (hZ : Z.Warmed39 s.vm) (eT : T.heap = h) (A : Arv Z h a k ty n vs dv) (hr : ty.isReference = true) {j : Int32} {v : Value} {i : Nat} (F : Sto Z h a v) (hf : fits ty v = true) (hj : ¬ j < 0 ∧ j < n) (hi : j.toNatClampNeg = i) (hl : i < vs.length) {g : JFrame} (hg : g.method = m) {rest : List Value} (hs : g.stack = v :: .int j :: .ref a :: rest) (hd : decode c.code g.pc = .ok (.aastore, 1)) :
    ∃ T' h', Stand p l e R s m args below meth c T' (locs ++ [⟨a, j.toNatClampNeg⟩]) cells slots ∧ T'.heap = h' ∧ Wr h h' a j.toNatClampNeg v ∧ Arv Z h' a k ty n (vs.set i v) dv ∧ ∀ target, Steps p.tables e below (T'.setTop { g with pc := g.pc + 1, stack := rest }) target → Steps p.tables e below (T.setTop g) target := by
  obtain ⟨cl, Ar, q, S, N, H, G⟩ := A
  obtain ⟨T', h', X', e', W, st⟩ := stR X hx hZ eT Ar (inb_of S hj) hr F hg hs hd
  exact ⟨T', h', X', e', W, Arv.set Ar q S N H G hf W i hi hl, st⟩
theorem own_stoA {y : Addr} {C : String} {t0 : FieldType} (A : Arv Z h a k t0 n vs dv) (O : OvrA Z k ty C) (I : Ins Z h y C true) : Sto Z h a (.ref y) := by
  obtain ⟨cl, Ar, q, -⟩ := A
  exact Sto.ofVA Ar q O I
theorem own_stoV {y : Addr} {C : String} {t0 : FieldType} (A : Arv Z h a k t0 n vs dv) (O : Ovr Z k C) (I : Ins Z h y C true) : Sto Z h a (.ref y) := by
  obtain ⟨cl, Ar, q, -⟩ := A
  exact Sto.ofV Ar q O I
theorem own_getD_cp (vs vd : List Value) (dv dd : Value) (sp dp nn i : Nat) : ((vd ++ List.replicate (dp + nn) dd).take dp ++ ((List.range nn).map fun i => vs.getD (sp + i) dv) ++ (vd ++ List.replicate (dp + nn) dd).drop (dp + nn)).getD i dd = if dp ≤ i ∧ i < dp + nn then vs.getD (sp + (i - dp)) dv else vd.getD i dd := by
  have hlen : dp ≤ (vd ++ List.replicate (dp + nn) dd).length := by simp; omega
  have hpad := pad_rep vd dd (dp + nn) i
  by_cases h1 : i < dp
  · rw [if_neg (by omega), ← hpad]
    have e1 : ((vd ++ List.replicate (dp + nn) dd).take dp).length = dp := by rw [List.length_take]; omega
    rw [List.getD_eq_getElem?_getD, List.append_assoc, List.getElem?_append_left (by rw [e1]; exact h1), List.getElem?_take, if_pos h1, List.getD_eq_getElem?_getD]
  · by_cases h2 : i < dp + nn
    · rw [if_pos ⟨by omega, h2⟩]
      have e1 : ((vd ++ List.replicate (dp + nn) dd).take dp).length = dp := by rw [List.length_take]; omega
      rw [List.getD_eq_getElem?_getD, List.append_assoc, List.getElem?_append_right (by rw [e1]; omega), e1, List.getElem?_append_left (by simp; omega)]
      simp [show i - dp < nn by omega]
    · rw [if_neg (by omega), ← hpad]
      have e1 : ((vd ++ List.replicate (dp + nn) dd).take dp).length = dp := by rw [List.length_take]; omega
      rw [List.getD_eq_getElem?_getD, List.getElem?_append_right (by rw [List.length_append, e1]; simp; omega), List.getElem?_drop, List.getD_eq_getElem?_getD]
      congr 2
      rw [List.length_append, e1]; simp; omega
theorem own_cp {b : Addr} {a0 : Array Value} (X : Stand p l e R s m args below meth c T locs cells slots) (hx : p.tables.exec = Jvm.exec) (hZ : Z.Warmed39 s.vm) {own : String} {index : Nat} (hown : s.vm.findClass own = some m.cls)
    (w1 : (Cond.methodLink own index Jvm.Stand.acN).before a0 Z = true) (w2 : (Cond.native Jvm.Stand.acN).before a0 Z = true) (w3 : (Cond.static Jvm.Stand.acN).before a0 Z = true) (w4 : (Cond.initialized "java/lang/System").before a0 Z = true) (eT : T.heap = h)
    {k' : ClassId} {z z' sp dp nn : Int32} {vd : List Value} {dd : Value} (A : Arv Z h a k ty z vs dv) (B : Arv Z h b k' ty z' vd dd) (hty : refKind ty = false)
    (h1 : 0 ≤ sp.toInt) (h2 : 0 ≤ dp.toInt) (h3 : 0 ≤ nn.toInt) (h4 : sp.toInt + nn.toInt ≤ z.toInt) (h5 : dp.toInt + nn.toInt ≤ z'.toInt) {n0 : Nat} (N : Fr n0 locs) (ge : n0 ≤ b)
    {g : JFrame} (hg : g.method = m) (hsize : g.locals.size = c.maxLocals) {rest : List Value} (hs : g.stack = .int nn :: .int dp :: .ref b :: .int sp :: .ref a :: rest) (hd : decode c.code g.pc = .ok (.invokestatic index, 3))
    (hf : 1 ≤ R.frames) {W : Nat} (hW : 2 * g.monitorRoom + (rest.map fun v => v.category).sum ≤ W) (hlo : W + 18 ≤ R.locals) :
    ∃ T' h' L vd', Stand p l e R s m args below meth c T' L cells slots ∧ T'.heap = h' ∧ Fr n0 L ∧ Keep h h' [b] ∧ Arv Z h' b k' ty z' vd' dd ∧ (∀ i : Nat, vd'.getD i dd = if dp.toNatClampNeg ≤ i ∧ i < dp.toNatClampNeg + nn.toNatClampNeg then vs.getD (sp.toNatClampNeg + (i - dp.toNatClampNeg)) dv else vd.getD i dd) ∧
      ∀ target, Steps p.tables e below (T'.setTop { g with pc := g.pc + 3, stack := rest }) target → Steps p.tables e below (T.setTop g) target := by
  have e0 : (0 : Int32).toInt = 0 := by decide
  have lt : ∀ {x : Int32}, 0 ≤ x.toInt → ¬ x < 0 := fun q => by rw [Int32.lt_iff_toInt_lt]; omega
  have nz : ¬ z < 0 := lt (by omega)
  have nz' : ¬ z' < 0 := lt (by omega)
  have c1 := nat_of (lt h1); have c2 := nat_of (lt h2); have c3 := nat_of (lt h3); have c4 := nat_of nz; have c5 := nat_of nz'
  obtain ⟨T', h', L, X', e', N', K', V', st⟩ := cpA X hx hZ hown w1 w2 w3 w4 eT A (B.pad (pad_rep vd dd (dp.toNatClampNeg + nn.toNatClampNeg))) (us := _) (Or.inl ⟨rfl, hty⟩) (lt h1) (lt h2) (lt h3) (by omega) (by omega) rfl (by simp) N ge hg hsize hs hd hf hW (by exact hlo)
  exact ⟨T', h', L, _, X', e', N', K', V', fun i => own_getD_cp vs vd dv dd _ _ _ i, st⟩
end Own
end Jvm.RoadKit

namespace Jvm.Pilot.@@N@@
open Jvm Jvm.ClassFile Sem Op Lib Jvm.Free Jvm.Stand Jvm.LawKit Jvm.RoadKit Bundle Jvm.Pilot.@@N@@.Jvm.D
theorem pd_0 : parseMethodDescriptor "(J)V" = some ⟨[.long], none⟩ := by decide +kernel
theorem pd_1 : parseMethodDescriptor "()V" = some ⟨[], none⟩ := by decide +kernel
theorem pd_2 : parseMethodDescriptor "(IFZ)V" = some ⟨[.int, .float, .boolean], none⟩ := by decide +kernel
theorem pd_3 : parseMethodDescriptor "(IF)V" = some ⟨[.int, .float], none⟩ := by decide +kernel
theorem pd_4 : parseMethodDescriptor "(F)Z" = some ⟨[.float], some .boolean⟩ := by decide +kernel
theorem pd_5 : parseMethodDescriptor "(I)I" = some ⟨[.int], some .int⟩ := by decide +kernel
theorem pd_6 : parseMethodDescriptor "(J)Z" = some ⟨[.long], some .boolean⟩ := by decide +kernel
theorem pd_7 : parseMethodDescriptor "(Ljava/util/Collection;)V" = some ⟨[(.object "java/util/Collection")], none⟩ := by decide +kernel
theorem pd_8 : parseMethodDescriptor "()[Ljava/lang/Object;" = some ⟨[], some (.array (.object "java/lang/Object"))⟩ := by decide +kernel
theorem pd_9 : parseMethodDescriptor "()I" = some ⟨[], some .int⟩ := by decide +kernel
theorem pd_10 : parseMethodDescriptor "([Ljava/lang/Object;)[Ljava/lang/Object;" = some ⟨[(.array (.object "java/lang/Object"))], some (.array (.object "java/lang/Object"))⟩ := by decide +kernel
theorem pd_11 : parseMethodDescriptor "([Ljava/lang/Object;Z)[Ljava/lang/Object;" = some ⟨[(.array (.object "java/lang/Object")), .boolean], some (.array (.object "java/lang/Object"))⟩ := by decide +kernel
theorem pd_12 : parseMethodDescriptor "()Ljava/util/Iterator;" = some ⟨[], some (.object "java/util/Iterator")⟩ := by decide +kernel
theorem pd_13 : parseMethodDescriptor "(Ljava/util/ArrayList;)V" = some ⟨[(.object "java/util/ArrayList")], none⟩ := by decide +kernel
theorem pd_14 : parseMethodDescriptor "()Z" = some ⟨[], some .boolean⟩ := by decide +kernel
theorem d6_0 : decode jdk_22_method_1_code 0 = .ok (.aload_n 0, 1) := by decide +kernel
theorem d6_1 : decode jdk_22_method_1_code 1 = .ok (.invokespecial 1, 3) := by decide +kernel
theorem d6_4 : decode jdk_22_method_1_code 4 = .ok (.return_, 1) := by decide +kernel
theorem pn_5 : plainName "java/util/AbstractCollection" = true := by first | (simp [plainName, overriddenIn]; done) | decide +kernel
theorem ef_6_R (m : MethodId) (x0 : Addr) : entryFrame m #[(.ref x0)] 1 = mkF m 0 #[.val (.ref x0)] [] := by first | (simp [entryFrame, mkF, argsToLocals, Value.category]; done) | rfl
def Q_rm6 (Z : State) (x0 : Addr) (h0 : Heap) (n0 : Nat) (v : Option Value) (h : Heap) (L : List Loc) : Prop := v = none ∧ Fr n0 L ∧ h = h0
set_option maxRecDepth 65536 in
set_option maxHeartbeats 40000000 in
theorem rm6 (l : Launch) (Z : State) (a0 : Array Value) (hw : ∀ d ∈ tables_1, d.before a0 Z = true) (ws : List Jvm.Cond) (x0 : Addr) (h0 : Heap) (n0 : Nat) (Z0 : n0 ≤ h0.size) :
    MetFree l (⟨"java/util/AbstractCollection", "<init>", "()V"⟩ : MethodName) (head1 (Jvm.Cond.code (⟨"java/util/AbstractCollection", "<init>", "()V"⟩ : MethodName) jdk_22_method_1_code 1 none :: ws) ({ frames := 1, cells := 0, slots := 0, locals := 12 } : Room)) (fun a U => a = #[(.ref x0)] ∧ Z.Warmed39 U.vm ∧ U.heap = h0) (fun _ _ _ _ _ => True) (fun _ U o U' => ∃ v L, o = .returned v ∧ Q_rm6 Z x0 h0 n0 v U'.heap L ∧ FrameEnd U o U' L ({ frames := 1, cells := 0, slots := 0, locals := 12 } : Room).cells ({ frames := 1, cells := 0, slots := 0, locals := 12 } : Room).slots) := by
  refine MetFree.of_bodySF (plainFor_of_name pn_5) hisR ?_
  intro p e s m args below meth c s₁ Bd hml0 hP hK
  obtain ⟨rfl, hZ, hh⟩ := hP
  have hx := Bd.exec
  have hby := Bd.bytes
  have hml : c.maxLocals = 1 := hml0
  have hown : s.vm.findClass "java/util/AbstractCollection" = some m.cls := findClass_of_methodNamed Bd.named
  have hnm := (name_of_methodNamed Bd.named Bd.method).1
  have X0 : Stand p l e ({ frames := 1, cells := 0, slots := 0, locals := 12 } : Room) s m #[(.ref x0)] below meth c s₁ [] 0 0 := Stand.of_body Bd
  have e0 : s₁.heap = h0 := by rw [← hh, Bd.state]; rfl
  have N0 := Fr.nil n0
  show own_Ends p e below s ({ frames := 1, cells := 0, slots := 0, locals := 12 } : Room).cells ({ frames := 1, cells := 0, slots := 0, locals := 12 } : Room).slots (Q_rm6 Z x0 h0 n0) (s₁.setTop (entryFrame m #[(.ref x0)] 1))
  rw [ef_6_R]
  refine own_step (st' := s₁.setTop (mkF m 1 #[.val (.ref x0)] [(.ref x0)])) (fun t k => XS.aloadN X0.here hx rfl (hb hby d6_0) rfl rfl k) ?_
  obtain ⟨T1, X1, e1, st1⟩ := initO X0 hx hZ hown (hw _ (List.mem_of_getElem? (i := 34) rfl)) (hw _ (List.mem_of_getElem? (i := 7) rfl)) (hw _ (List.mem_of_getElem? (i := 8) rfl)) e0 (g := (mkF m 1 #[.val (.ref x0)] [(.ref x0)])) rfl (by rw [hml]; rfl) rfl (hb hby d6_1) (by decide) (W := 0) (by show 2 * 0 + _ ≤ _; exact Nat.le_of_eq rfl) (by decide)
  refine own_step (st' := T1.setTop (mkF m 4 #[.val (.ref x0)] [])) st1 ?_
  refine own_ret X1 Bd.notSynchronized (none) (fun _ => rfl) (fun fs hr => X1.returnOut hx Bd.returns (hb hby d6_4) hr) ?_ (by decide) (by decide)
  rw [e1]
  exact ⟨rfl, N0, rfl⟩
theorem d5_0 : decode jdk_91_method_1_code 0 = .ok (.aload_n 0, 1) := by decide +kernel
theorem d5_1 : decode jdk_91_method_1_code 1 = .ok (.invokespecial 1, 3) := by decide +kernel
theorem d5_4 : decode jdk_91_method_1_code 4 = .ok (.return_, 1) := by decide +kernel
theorem pn_8 : plainName "java/util/AbstractSet" = true := by first | (simp [plainName, overriddenIn]; done) | decide +kernel
theorem ef_5_R (m : MethodId) (x0 : Addr) : entryFrame m #[(.ref x0)] 1 = mkF m 0 #[.val (.ref x0)] [] := by first | (simp [entryFrame, mkF, argsToLocals, Value.category]; done) | rfl
def Q_rm5 (Z : State) (x0 : Addr) (h0 : Heap) (n0 : Nat) (v : Option Value) (h : Heap) (L : List Loc) : Prop := v = none ∧ Fr n0 L ∧ h = h0
set_option maxRecDepth 65536 in
set_option maxHeartbeats 40000000 in
theorem rm5 (l : Launch) (Z : State) (a0 : Array Value) (hw : ∀ d ∈ tables_1, d.before a0 Z = true) (ws : List Jvm.Cond) (x0 : Addr) (h0 : Heap) (n0 : Nat) (Z0 : n0 ≤ h0.size) :
    MetFree l (⟨"java/util/AbstractSet", "<init>", "()V"⟩ : MethodName) (head1 (Jvm.Cond.code (⟨"java/util/AbstractSet", "<init>", "()V"⟩ : MethodName) jdk_91_method_1_code 1 none :: ws) ({ frames := 2, cells := 0, slots := 0, locals := 24 } : Room)) (fun a U => a = #[(.ref x0)] ∧ Z.Warmed39 U.vm ∧ U.heap = h0) (fun _ _ _ _ _ => True) (fun _ U o U' => ∃ v L, o = .returned v ∧ Q_rm5 Z x0 h0 n0 v U'.heap L ∧ FrameEnd U o U' L ({ frames := 2, cells := 0, slots := 0, locals := 24 } : Room).cells ({ frames := 2, cells := 0, slots := 0, locals := 24 } : Room).slots) := by
  refine MetFree.of_bodySF (plainFor_of_name pn_8) hisR ?_
  intro p e s m args below meth c s₁ Bd hml0 hP hK
  obtain ⟨rfl, hZ, hh⟩ := hP
  have hx := Bd.exec
  have hby := Bd.bytes
  have hml : c.maxLocals = 1 := hml0
  have hown : s.vm.findClass "java/util/AbstractSet" = some m.cls := findClass_of_methodNamed Bd.named
  have hnm := (name_of_methodNamed Bd.named Bd.method).1
  have X0 : Stand p l e ({ frames := 2, cells := 0, slots := 0, locals := 24 } : Room) s m #[(.ref x0)] below meth c s₁ [] 0 0 := Stand.of_body Bd
  have e0 : s₁.heap = h0 := by rw [← hh, Bd.state]; rfl
  have N0 := Fr.nil n0
  show own_Ends p e below s ({ frames := 2, cells := 0, slots := 0, locals := 24 } : Room).cells ({ frames := 2, cells := 0, slots := 0, locals := 24 } : Room).slots (Q_rm5 Z x0 h0 n0) (s₁.setTop (entryFrame m #[(.ref x0)] 1))
  rw [ef_5_R]
  refine own_step (st' := s₁.setTop (mkF m 1 #[.val (.ref x0)] [(.ref x0)])) (fun t k => XS.aloadN X0.here hx rfl (hb hby d5_0) rfl rfl k) ?_
  obtain ⟨_, _, ⟨T1, L1, k1, n1⟩, -, X1, ⟨Lc1, hQ1, l1, y1, z1⟩, st1⟩ := X0.specialBack hx (y := (⟨"java/util/AbstractCollection", "<init>", "()V"⟩ : MethodName)) rfl hown (mvT hZ (hw _ (List.mem_of_getElem? (i := 28) rfl))) (mvT hZ (hw _ (List.mem_of_getElem? (i := 29) rfl))) (mvT hZ (hw _ (List.mem_of_getElem? (i := 33) rfl))) (by decide) (backOf (W := 0) (rm6 l Z a0 hw [] x0 h0 n0 Z0) hZ (hw _ (List.mem_of_getElem? (i := 33) rfl)) (hw _ (List.mem_of_getElem? (i := 32) rfl)) (by decide) (by decide)) (g := (mkF m 1 #[.val (.ref x0)] [(.ref x0)])) rfl (by rw [hml]; rfl) (Steps.refl _) (a := x0) (argsL := []) (rest := []) (lenOf pd_1 rfl) rfl (by show 2 * 0 + _ ≤ _; exact Nat.le_of_eq rfl) (hb hby d5_1) (fun _ _ => ⟨rfl, e0, (by decide : 0 + 0 ≤ _), (by decide : 0 + 0 ≤ _)⟩)
  dsimp only [Pt.U, Pt.locs, Pt.cells, Pt.slots] at X1 l1 y1 z1 st1 hQ1
  subst l1 y1 z1
  obtain ⟨rfl, N1q, e1⟩ := hQ1
  have N1 := Fr.app N0 N1q
  refine own_step (st' := T1.setTop (mkF m 4 #[.val (.ref x0)] [])) (fun t k => st1.trans k) ?_
  refine own_ret X1 Bd.notSynchronized (none) (fun _ => rfl) (fun fs hr => X1.returnOut hx Bd.returns (hb hby d5_4) hr) ?_ (by decide) (by decide)
  rw [e1]
  exact ⟨rfl, N1, rfl⟩
theorem d9_0 : decode jdk_71_method_1_code 0 = .ok (.aload_n 0, 1) := by decide +kernel
theorem d9_1 : decode jdk_71_method_1_code 1 = .ok (.invokespecial 1, 3) := by decide +kernel
theorem d9_4 : decode jdk_71_method_1_code 4 = .ok (.return_, 1) := by decide +kernel
theorem pn_7 : plainName "java/util/AbstractMap" = true := by first | (simp [plainName, overriddenIn]; done) | decide +kernel
theorem ef_9_R (m : MethodId) (x0 : Addr) : entryFrame m #[(.ref x0)] 1 = mkF m 0 #[.val (.ref x0)] [] := by first | (simp [entryFrame, mkF, argsToLocals, Value.category]; done) | rfl
def Q_rm9 (Z : State) (x0 : Addr) (h0 : Heap) (n0 : Nat) (v : Option Value) (h : Heap) (L : List Loc) : Prop := v = none ∧ Fr n0 L ∧ h = h0
set_option maxRecDepth 65536 in
set_option maxHeartbeats 40000000 in
theorem rm9 (l : Launch) (Z : State) (a0 : Array Value) (hw : ∀ d ∈ tables_1, d.before a0 Z = true) (ws : List Jvm.Cond) (x0 : Addr) (h0 : Heap) (n0 : Nat) (Z0 : n0 ≤ h0.size) :
    MetFree l (⟨"java/util/AbstractMap", "<init>", "()V"⟩ : MethodName) (head1 (Jvm.Cond.code (⟨"java/util/AbstractMap", "<init>", "()V"⟩ : MethodName) jdk_71_method_1_code 1 none :: ws) ({ frames := 1, cells := 0, slots := 0, locals := 12 } : Room)) (fun a U => a = #[(.ref x0)] ∧ Z.Warmed39 U.vm ∧ U.heap = h0) (fun _ _ _ _ _ => True) (fun _ U o U' => ∃ v L, o = .returned v ∧ Q_rm9 Z x0 h0 n0 v U'.heap L ∧ FrameEnd U o U' L ({ frames := 1, cells := 0, slots := 0, locals := 12 } : Room).cells ({ frames := 1, cells := 0, slots := 0, locals := 12 } : Room).slots) := by
  refine MetFree.of_bodySF (plainFor_of_name pn_7) hisR ?_
  intro p e s m args below meth c s₁ Bd hml0 hP hK
  obtain ⟨rfl, hZ, hh⟩ := hP
  have hx := Bd.exec
  have hby := Bd.bytes
  have hml : c.maxLocals = 1 := hml0
  have hown : s.vm.findClass "java/util/AbstractMap" = some m.cls := findClass_of_methodNamed Bd.named
  have hnm := (name_of_methodNamed Bd.named Bd.method).1
  have X0 : Stand p l e ({ frames := 1, cells := 0, slots := 0, locals := 12 } : Room) s m #[(.ref x0)] below meth c s₁ [] 0 0 := Stand.of_body Bd
  have e0 : s₁.heap = h0 := by rw [← hh, Bd.state]; rfl
  have N0 := Fr.nil n0
  show own_Ends p e below s ({ frames := 1, cells := 0, slots := 0, locals := 12 } : Room).cells ({ frames := 1, cells := 0, slots := 0, locals := 12 } : Room).slots (Q_rm9 Z x0 h0 n0) (s₁.setTop (entryFrame m #[(.ref x0)] 1))
  rw [ef_9_R]
  refine own_step (st' := s₁.setTop (mkF m 1 #[.val (.ref x0)] [(.ref x0)])) (fun t k => XS.aloadN X0.here hx rfl (hb hby d9_0) rfl rfl k) ?_
  obtain ⟨T1, X1, e1, st1⟩ := initO X0 hx hZ hown (hw _ (List.mem_of_getElem? (i := 54) rfl)) (hw _ (List.mem_of_getElem? (i := 7) rfl)) (hw _ (List.mem_of_getElem? (i := 8) rfl)) e0 (g := (mkF m 1 #[.val (.ref x0)] [(.ref x0)])) rfl (by rw [hml]; rfl) rfl (hb hby d9_1) (by decide) (W := 0) (by show 2 * 0 + _ ≤ _; exact Nat.le_of_eq rfl) (by decide)
  refine own_step (st' := T1.setTop (mkF m 4 #[.val (.ref x0)] [])) st1 ?_
  refine own_ret X1 Bd.notSynchronized (none) (fun _ => rfl) (fun fs hr => X1.returnOut hx Bd.returns (hb hby d9_4) hr) ?_ (by decide) (by decide)
  rw [e1]
  exact ⟨rfl, N0, rfl⟩
theorem d12_0 : decode jdk_33_method_47_code 0 = .ok (.iload_n 0, 1) := by decide +kernel
theorem d12_1 : decode jdk_33_method_47_code 1 = .ok (.ifCond .gt 14, 3) := by decide +kernel
theorem d12_4 : decode jdk_33_method_47_code 4 = .ok (.iload_n 0, 1) := by decide +kernel
theorem d12_5 : decode jdk_33_method_47_code 5 = .ok (.ifCond .ne 8, 3) := by decide +kernel
theorem d12_8 : decode jdk_33_method_47_code 8 = .ok (.bipush 32, 2) := by decide +kernel
theorem d12_10 : decode jdk_33_method_47_code 10 = .ok (.goto 4, 3) := by decide +kernel
theorem d12_13 : decode jdk_33_method_47_code 13 = .ok (.iconst 0, 1) := by decide +kernel
theorem d12_14 : decode jdk_33_method_47_code 14 = .ok (.ireturn, 1) := by decide +kernel
theorem d12_15 : decode jdk_33_method_47_code 15 = .ok (.bipush 31, 2) := by decide +kernel
theorem d12_17 : decode jdk_33_method_47_code 17 = .ok (.istore_n 1, 1) := by decide +kernel
theorem d12_18 : decode jdk_33_method_47_code 18 = .ok (.iload_n 0, 1) := by decide +kernel
theorem d12_19 : decode jdk_33_method_47_code 19 = .ok (.ldc_w 264, 3) := by decide +kernel
theorem d12_22 : decode jdk_33_method_47_code 22 = .ok (.if_icmp .lt 11, 3) := by decide +kernel
theorem d12_25 : decode jdk_33_method_47_code 25 = .ok (.iinc 1 (-16), 3) := by decide +kernel
theorem d12_28 : decode jdk_33_method_47_code 28 = .ok (.iload_n 0, 1) := by decide +kernel
theorem d12_29 : decode jdk_33_method_47_code 29 = .ok (.bipush 16, 2) := by decide +kernel
theorem d12_31 : decode jdk_33_method_47_code 31 = .ok (.iushr, 1) := by decide +kernel
theorem d12_32 : decode jdk_33_method_47_code 32 = .ok (.istore_n 0, 1) := by decide +kernel
theorem d12_33 : decode jdk_33_method_47_code 33 = .ok (.iload_n 0, 1) := by decide +kernel
theorem d12_34 : decode jdk_33_method_47_code 34 = .ok (.sipush 256, 3) := by decide +kernel
theorem d12_37 : decode jdk_33_method_47_code 37 = .ok (.if_icmp .lt 11, 3) := by decide +kernel
theorem d12_40 : decode jdk_33_method_47_code 40 = .ok (.iinc 1 (-8), 3) := by decide +kernel
theorem d12_43 : decode jdk_33_method_47_code 43 = .ok (.iload_n 0, 1) := by decide +kernel
theorem d12_44 : decode jdk_33_method_47_code 44 = .ok (.bipush 8, 2) := by decide +kernel
theorem d12_46 : decode jdk_33_method_47_code 46 = .ok (.iushr, 1) := by decide +kernel
theorem d12_47 : decode jdk_33_method_47_code 47 = .ok (.istore_n 0, 1) := by decide +kernel
theorem d12_48 : decode jdk_33_method_47_code 48 = .ok (.iload_n 0, 1) := by decide +kernel
theorem d12_49 : decode jdk_33_method_47_code 49 = .ok (.bipush 16, 2) := by decide +kernel
theorem d12_51 : decode jdk_33_method_47_code 51 = .ok (.if_icmp .lt 10, 3) := by decide +kernel
theorem d12_54 : decode jdk_33_method_47_code 54 = .ok (.iinc 1 (-4), 3) := by decide +kernel
theorem d12_57 : decode jdk_33_method_47_code 57 = .ok (.iload_n 0, 1) := by decide +kernel
theorem d12_58 : decode jdk_33_method_47_code 58 = .ok (.iconst 4, 1) := by decide +kernel
theorem d12_59 : decode jdk_33_method_47_code 59 = .ok (.iushr, 1) := by decide +kernel
theorem d12_60 : decode jdk_33_method_47_code 60 = .ok (.istore_n 0, 1) := by decide +kernel
theorem d12_61 : decode jdk_33_method_47_code 61 = .ok (.iload_n 0, 1) := by decide +kernel
theorem d12_62 : decode jdk_33_method_47_code 62 = .ok (.iconst 4, 1) := by decide +kernel
theorem d12_63 : decode jdk_33_method_47_code 63 = .ok (.if_icmp .lt 10, 3) := by decide +kernel
theorem d12_66 : decode jdk_33_method_47_code 66 = .ok (.iinc 1 (-2), 3) := by decide +kernel
theorem d12_69 : decode jdk_33_method_47_code 69 = .ok (.iload_n 0, 1) := by decide +kernel
theorem d12_70 : decode jdk_33_method_47_code 70 = .ok (.iconst 2, 1) := by decide +kernel
theorem d12_71 : decode jdk_33_method_47_code 71 = .ok (.iushr, 1) := by decide +kernel
theorem d12_72 : decode jdk_33_method_47_code 72 = .ok (.istore_n 0, 1) := by decide +kernel
theorem d12_73 : decode jdk_33_method_47_code 73 = .ok (.iload_n 1, 1) := by decide +kernel
theorem d12_74 : decode jdk_33_method_47_code 74 = .ok (.iload_n 0, 1) := by decide +kernel
theorem d12_75 : decode jdk_33_method_47_code 75 = .ok (.iconst 1, 1) := by decide +kernel
theorem d12_76 : decode jdk_33_method_47_code 76 = .ok (.iushr, 1) := by decide +kernel
theorem d12_77 : decode jdk_33_method_47_code 77 = .ok (.isub, 1) := by decide +kernel
theorem d12_78 : decode jdk_33_method_47_code 78 = .ok (.ireturn, 1) := by decide +kernel
theorem pn_3 : plainName "java/lang/Integer" = true := by first | (simp [plainName, overriddenIn]; done) | decide +kernel
theorem ef_12_I (m : MethodId) (x0 : Int32) : entryFrame m #[(.int x0)] 2 = mkF m 0 #[.val (.int x0), .unset] [] := by first | (simp [entryFrame, mkF, argsToLocals, Value.category]; done) | rfl
def Q_rm12 (Z : State) (x0 : Int32) (h0 : Heap) (n0 : Nat) (v : Option Value) (h : Heap) (L : List Loc) : Prop := ∃ z : Int32, v = some (.int z) ∧ Fr n0 L ∧ h = h0
set_option maxRecDepth 65536 in
set_option maxHeartbeats 40000000 in
theorem rm12 (l : Launch) (Z : State) (a0 : Array Value) (hw : ∀ d ∈ tables_1, d.before a0 Z = true) (ws : List Jvm.Cond) (x0 : Int32) (h0 : Heap) (n0 : Nat) (Z0 : n0 ≤ h0.size) :
    MetFree l (⟨"java/lang/Integer", "numberOfLeadingZeros", "(I)I"⟩ : MethodName) (head1 (Jvm.Cond.code (⟨"java/lang/Integer", "numberOfLeadingZeros", "(I)I"⟩ : MethodName) jdk_33_method_47_code 2 (some .int) :: ws) ({ frames := 0, cells := 0, slots := 0, locals := 0 } : Room)) (fun a U => a = #[(.int x0)] ∧ Z.Warmed39 U.vm ∧ U.heap = h0) (fun _ _ _ _ _ => True) (fun _ U o U' => ∃ v L, o = .returned v ∧ Q_rm12 Z x0 h0 n0 v U'.heap L ∧ FrameEnd U o U' L ({ frames := 0, cells := 0, slots := 0, locals := 0 } : Room).cells ({ frames := 0, cells := 0, slots := 0, locals := 0 } : Room).slots) := by
  refine MetFree.of_bodySF (plainFor_of_name pn_3) hisR ?_
  intro p e s m args below meth c s₁ Bd hml0 hP hK
  obtain ⟨rfl, hZ, hh⟩ := hP
  have hx := Bd.exec
  have hby := Bd.bytes
  have hml : c.maxLocals = 2 := hml0
  have hown : s.vm.findClass "java/lang/Integer" = some m.cls := findClass_of_methodNamed Bd.named
  have hnm := (name_of_methodNamed Bd.named Bd.method).1
  have X0 : Stand p l e ({ frames := 0, cells := 0, slots := 0, locals := 0 } : Room) s m #[(.int x0)] below meth c s₁ [] 0 0 := Stand.of_body Bd
  have e0 : s₁.heap = h0 := by rw [← hh, Bd.state]; rfl
  have N0 := Fr.nil n0
  show own_Ends p e below s ({ frames := 0, cells := 0, slots := 0, locals := 0 } : Room).cells ({ frames := 0, cells := 0, slots := 0, locals := 0 } : Room).slots (Q_rm12 Z x0 h0 n0) (s₁.setTop (entryFrame m #[(.int x0)] 2))
  rw [ef_12_I]
  refine own_step (st' := s₁.setTop (mkF m 1 #[.val (.int x0), .unset] [(.int x0)])) (fun t k => XS.iloadN X0.here hx rfl (hb hby d12_0) rfl k) ?_
  by_cases hc1 : (0 : Int32) < x0
  · refine own_step (st' := s₁.setTop (mkF m 15 #[.val (.int x0), .unset] [])) (fun t k => XS.ifYes X0.here hx rfl (pc0 := 1) (pc' := 15) rfl (hb hby d12_1) rfl ((if0 _ _).trans (tlt hc1).2.2.1) (by decide) (by decide) k) ?_
    refine own_step (st' := s₁.setTop (mkF m 17 #[.val (.int x0), .unset] [(.int (31 : Int32))])) (fun t k => XS.bipush X0.here hx rfl (hb hby d12_15) k) ?_
    refine own_step (st' := s₁.setTop (mkF m 18 #[.val (.int x0), .val (.int (31 : Int32))] [])) (fun t k => XS.istoreN X0.here hx rfl (hb hby d12_17) rfl (l' := #[.val (.int x0), .val (.int (31 : Int32))]) rfl k) ?_
    refine own_step (st' := s₁.setTop (mkF m 19 #[.val (.int x0), .val (.int (31 : Int32))] [(.int x0)])) (fun t k => XS.iloadN X0.here hx rfl (hb hby d12_18) rfl k) ?_
    refine own_step (st' := s₁.setTop (mkF m 22 #[.val (.int x0), .val (.int (31 : Int32))] [(.int (65536 : Int32)), (.int x0)])) (fun t k => X0.ldcwInt hx hown (mvT hZ (hw _ (List.mem_of_getElem? (i := 69) rfl))) (g := (mkF m 19 #[.val (.int x0), .val (.int (31 : Int32))] [(.int x0)])) rfl (hb hby d12_19) t k) ?_
    refine own_step (st' := s₁.setTop (mkF m 33 #[.val (.int (if x0 < (65536 : Int32) then x0 else ((x0.toUInt32 >>> ((16 : Int32) &&& 31).toUInt32).toInt32))), .val (.int (if x0 < (65536 : Int32) then (31 : Int32) else (15 : Int32)))] [])) (fun t k => ?_) ?_
    · by_cases hc2 : x0 < (65536 : Int32)
      · refine XS.icmpYes X0.here hx rfl (pc0 := 22) (pc' := 33) rfl (hb hby d12_22) rfl (tlt hc2).1 (by decide) (by decide) (?_ : Steps p.tables e below (s₁.setTop (mkF m 33 #[.val (.int x0), .val (.int (31 : Int32))] [])) _)
        simpa only [if_pos hc2] using k
      · refine XS.icmpNo X0.here hx rfl (hb hby d12_22) rfl (flt hc2).1 (?_ : Steps p.tables e below (s₁.setTop (mkF m 25 #[.val (.int x0), .val (.int (31 : Int32))] [])) _)
        refine XS.iinc X0.here hx rfl (hb hby d12_25) rfl (l' := #[.val (.int x0), .val (.int (15 : Int32))]) rfl (?_ : Steps p.tables e below (s₁.setTop (mkF m 28 #[.val (.int x0), .val (.int (15 : Int32))] [])) _)
        refine XS.iloadN X0.here hx rfl (hb hby d12_28) rfl (?_ : Steps p.tables e below (s₁.setTop (mkF m 29 #[.val (.int x0), .val (.int (15 : Int32))] [(.int x0)])) _)
        refine XS.bipush X0.here hx rfl (hb hby d12_29) (?_ : Steps p.tables e below (s₁.setTop (mkF m 31 #[.val (.int x0), .val (.int (15 : Int32))] [(.int (16 : Int32)), (.int x0)])) _)
        refine XS.iushr X0.here hx rfl (hb hby d12_31) rfl (?_ : Steps p.tables e below (s₁.setTop (mkF m 32 #[.val (.int x0), .val (.int (15 : Int32))] [(.int ((x0.toUInt32 >>> ((16 : Int32) &&& 31).toUInt32).toInt32))])) _)
        refine XS.istoreN X0.here hx rfl (hb hby d12_32) rfl (l' := #[.val (.int ((x0.toUInt32 >>> ((16 : Int32) &&& 31).toUInt32).toInt32)), .val (.int (15 : Int32))]) rfl (?_ : Steps p.tables e below (s₁.setTop (mkF m 33 #[.val (.int ((x0.toUInt32 >>> ((16 : Int32) &&& 31).toUInt32).toInt32)), .val (.int (15 : Int32))] [])) _)
        simpa only [if_neg hc2] using k
    refine own_step (st' := s₁.setTop (mkF m 34 #[.val (.int (if x0 < (65536 : Int32) then x0 else ((x0.toUInt32 >>> ((16 : Int32) &&& 31).toUInt32).toInt32))), .val (.int (if x0 < (65536 : Int32) then (31 : Int32) else (15 : Int32)))] [(.int (if x0 < (65536 : Int32) then x0 else ((x0.toUInt32 >>> ((16 : Int32) &&& 31).toUInt32).toInt32)))])) (fun t k => XS.iloadN X0.here hx rfl (hb hby d12_33) rfl k) ?_
    refine own_step (st' := s₁.setTop (mkF m 37 #[.val (.int (if x0 < (65536 : Int32) then x0 else ((x0.toUInt32 >>> ((16 : Int32) &&& 31).toUInt32).toInt32))), .val (.int (if x0 < (65536 : Int32) then (31 : Int32) else (15 : Int32)))] [(.int (256 : Int32)), (.int (if x0 < (65536 : Int32) then x0 else ((x0.toUInt32 >>> ((16 : Int32) &&& 31).toUInt32).toInt32)))])) (fun t k => XS.sipush X0.here hx rfl (hb hby d12_34) k) ?_
    refine own_step (st' := s₁.setTop (mkF m 48 #[.val (.int (if (if x0 < (65536 : Int32) then x0 else ((x0.toUInt32 >>> ((16 : Int32) &&& 31).toUInt32).toInt32)) < (256 : Int32) then (if x0 < (65536 : Int32) then x0 else ((x0.toUInt32 >>> ((16 : Int32) &&& 31).toUInt32).toInt32)) else (((if x0 < (65536 : Int32) then x0 else ((x0.toUInt32 >>> ((16 : Int32) &&& 31).toUInt32).toInt32)).toUInt32 >>> ((8 : Int32) &&& 31).toUInt32).toInt32))), .val (.int (if (if x0 < (65536 : Int32) then x0 else ((x0.toUInt32 >>> ((16 : Int32) &&& 31).toUInt32).toInt32)) < (256 : Int32) then (if x0 < (65536 : Int32) then (31 : Int32) else (15 : Int32)) else ((if x0 < (65536 : Int32) then (31 : Int32) else (15 : Int32)) + (-8 : Int32))))] [])) (fun t k => ?_) ?_
    · by_cases hc3 : (if x0 < (65536 : Int32) then x0 else ((x0.toUInt32 >>> ((16 : Int32) &&& 31).toUInt32).toInt32)) < (256 : Int32)
      · refine XS.icmpYes X0.here hx rfl (pc0 := 37) (pc' := 48) rfl (hb hby d12_37) rfl (tlt hc3).1 (by decide) (by decide) (?_ : Steps p.tables e below (s₁.setTop (mkF m 48 #[.val (.int (if x0 < (65536 : Int32) then x0 else ((x0.toUInt32 >>> ((16 : Int32) &&& 31).toUInt32).toInt32))), .val (.int (if x0 < (65536 : Int32) then (31 : Int32) else (15 : Int32)))] [])) _)
        simpa only [if_pos hc3] using k
      · refine XS.icmpNo X0.here hx rfl (hb hby d12_37) rfl (flt hc3).1 (?_ : Steps p.tables e below (s₁.setTop (mkF m 40 #[.val (.int (if x0 < (65536 : Int32) then x0 else ((x0.toUInt32 >>> ((16 : Int32) &&& 31).toUInt32).toInt32))), .val (.int (if x0 < (65536 : Int32) then (31 : Int32) else (15 : Int32)))] [])) _)
        refine XS.iinc X0.here hx rfl (hb hby d12_40) rfl (l' := #[.val (.int (if x0 < (65536 : Int32) then x0 else ((x0.toUInt32 >>> ((16 : Int32) &&& 31).toUInt32).toInt32))), .val (.int ((if x0 < (65536 : Int32) then (31 : Int32) else (15 : Int32)) + (-8 : Int32)))]) rfl (?_ : Steps p.tables e below (s₁.setTop (mkF m 43 #[.val (.int (if x0 < (65536 : Int32) then x0 else ((x0.toUInt32 >>> ((16 : Int32) &&& 31).toUInt32).toInt32))), .val (.int ((if x0 < (65536 : Int32) then (31 : Int32) else (15 : Int32)) + (-8 : Int32)))] [])) _)
        refine XS.iloadN X0.here hx rfl (hb hby d12_43) rfl (?_ : Steps p.tables e below (s₁.setTop (mkF m 44 #[.val (.int (if x0 < (65536 : Int32) then x0 else ((x0.toUInt32 >>> ((16 : Int32) &&& 31).toUInt32).toInt32))), .val (.int ((if x0 < (65536 : Int32) then (31 : Int32) else (15 : Int32)) + (-8 : Int32)))] [(.int (if x0 < (65536 : Int32) then x0 else ((x0.toUInt32 >>> ((16 : Int32) &&& 31).toUInt32).toInt32)))])) _)
        refine XS.bipush X0.here hx rfl (hb hby d12_44) (?_ : Steps p.tables e below (s₁.setTop (mkF m 46 #[.val (.int (if x0 < (65536 : Int32) then x0 else ((x0.toUInt32 >>> ((16 : Int32) &&& 31).toUInt32).toInt32))), .val (.int ((if x0 < (65536 : Int32) then (31 : Int32) else (15 : Int32)) + (-8 : Int32)))] [(.int (8 : Int32)), (.int (if x0 < (65536 : Int32) then x0 else ((x0.toUInt32 >>> ((16 : Int32) &&& 31).toUInt32).toInt32)))])) _)
        refine XS.iushr X0.here hx rfl (hb hby d12_46) rfl (?_ : Steps p.tables e below (s₁.setTop (mkF m 47 #[.val (.int (if x0 < (65536 : Int32) then x0 else ((x0.toUInt32 >>> ((16 : Int32) &&& 31).toUInt32).toInt32))), .val (.int ((if x0 < (65536 : Int32) then (31 : Int32) else (15 : Int32)) + (-8 : Int32)))] [(.int (((if x0 < (65536 : Int32) then x0 else ((x0.toUInt32 >>> ((16 : Int32) &&& 31).toUInt32).toInt32)).toUInt32 >>> ((8 : Int32) &&& 31).toUInt32).toInt32))])) _)
        refine XS.istoreN X0.here hx rfl (hb hby d12_47) rfl (l' := #[.val (.int (((if x0 < (65536 : Int32) then x0 else ((x0.toUInt32 >>> ((16 : Int32) &&& 31).toUInt32).toInt32)).toUInt32 >>> ((8 : Int32) &&& 31).toUInt32).toInt32)), .val (.int ((if x0 < (65536 : Int32) then (31 : Int32) else (15 : Int32)) + (-8 : Int32)))]) rfl (?_ : Steps p.tables e below (s₁.setTop (mkF m 48 #[.val (.int (((if x0 < (65536 : Int32) then x0 else ((x0.toUInt32 >>> ((16 : Int32) &&& 31).toUInt32).toInt32)).toUInt32 >>> ((8 : Int32) &&& 31).toUInt32).toInt32)), .val (.int ((if x0 < (65536 : Int32) then (31 : Int32) else (15 : Int32)) + (-8 : Int32)))] [])) _)
        simpa only [if_neg hc3] using k
    refine own_step (st' := s₁.setTop (mkF m 49 #[.val (.int (if (if x0 < (65536 : Int32) then x0 else ((x0.toUInt32 >>> ((16 : Int32) &&& 31).toUInt32).toInt32)) < (256 : Int32) then (if x0 < (65536 : Int32) then x0 else ((x0.toUInt32 >>> ((16 : Int32) &&& 31).toUInt32).toInt32)) else (((if x0 < (65536 : Int32) then x0 else ((x0.toUInt32 >>> ((16 : Int32) &&& 31).toUInt32).toInt32)).toUInt32 >>> ((8 : Int32) &&& 31).toUInt32).toInt32))), .val (.int (if (if x0 < (65536 : Int32) then x0 else ((x0.toUInt32 >>> ((16 : Int32) &&& 31).toUInt32).toInt32)) < (256 : Int32) then (if x0 < (65536 : Int32) then (31 : Int32) else (15 : Int32)) else ((if x0 < (65536 : Int32) then (31 : Int32) else (15 : Int32)) + (-8 : Int32))))] [(.int (if (if x0 < (65536 : Int32) then x0 else ((x0.toUInt32 >>> ((16 : Int32) &&& 31).toUInt32).toInt32)) < (256 : Int32) then (if x0 < (65536 : Int32) then x0 else ((x0.toUInt32 >>> ((16 : Int32) &&& 31).toUInt32).toInt32)) else (((if x0 < (65536 : Int32) then x0 else ((x0.toUInt32 >>> ((16 : Int32) &&& 31).toUInt32).toInt32)).toUInt32 >>> ((8 : Int32) &&& 31).toUInt32).toInt32)))])) (fun t k => XS.iloadN X0.here hx rfl (hb hby d12_48) rfl k) ?_
    refine own_step (st' := s₁.setTop (mkF m 51 #[.val (.int (if (if x0 < (65536 : Int32) then x0 else ((x0.toUInt32 >>> ((16 : Int32) &&& 31).toUInt32).toInt32)) < (256 : Int32) then (if x0 < (65536 : Int32) then x0 else ((x0.toUInt32 >>> ((16 : Int32) &&& 31).toUInt32).toInt32)) else (((if x0 < (65536 : Int32) then x0 else ((x0.toUInt32 >>> ((16 : Int32) &&& 31).toUInt32).toInt32)).toUInt32 >>> ((8 : Int32) &&& 31).toUInt32).toInt32))), .val (.int (if (if x0 < (65536 : Int32) then x0 else ((x0.toUInt32 >>> ((16 : Int32) &&& 31).toUInt32).toInt32)) < (256 : Int32) then (if x0 < (65536 : Int32) then (31 : Int32) else (15 : Int32)) else ((if x0 < (65536 : Int32) then (31 : Int32) else (15 : Int32)) + (-8 : Int32))))] [(.int (16 : Int32)), (.int (if (if x0 < (65536 : Int32) then x0 else ((x0.toUInt32 >>> ((16 : Int32) &&& 31).toUInt32).toInt32)) < (256 : Int32) then (if x0 < (65536 : Int32) then x0 else ((x0.toUInt32 >>> ((16 : Int32) &&& 31).toUInt32).toInt32)) else (((if x0 < (65536 : Int32) then x0 else ((x0.toUInt32 >>> ((16 : Int32) &&& 31).toUInt32).toInt32)).toUInt32 >>> ((8 : Int32) &&& 31).toUInt32).toInt32)))])) (fun t k => XS.bipush X0.here hx rfl (hb hby d12_49) k) ?_
    refine own_step (st' := s₁.setTop (mkF m 61 #[.val (.int (if (if (if x0 < (65536 : Int32) then x0 else ((x0.toUInt32 >>> ((16 : Int32) &&& 31).toUInt32).toInt32)) < (256 : Int32) then (if x0 < (65536 : Int32) then x0 else ((x0.toUInt32 >>> ((16 : Int32) &&& 31).toUInt32).toInt32)) else (((if x0 < (65536 : Int32) then x0 else ((x0.toUInt32 >>> ((16 : Int32) &&& 31).toUInt32).toInt32)).toUInt32 >>> ((8 : Int32) &&& 31).toUInt32).toInt32)) < (16 : Int32) then (if (if x0 < (65536 : Int32) then x0 else ((x0.toUInt32 >>> ((16 : Int32) &&& 31).toUInt32).toInt32)) < (256 : Int32) then (if x0 < (65536 : Int32) then x0 else ((x0.toUInt32 >>> ((16 : Int32) &&& 31).toUInt32).toInt32)) else (((if x0 < (65536 : Int32) then x0 else ((x0.toUInt32 >>> ((16 : Int32) &&& 31).toUInt32).toInt32)).toUInt32 >>> ((8 : Int32) &&& 31).toUInt32).toInt32)) else (((if (if x0 < (65536 : Int32) then x0 else ((x0.toUInt32 >>> ((16 : Int32) &&& 31).toUInt32).toInt32)) < (256 : Int32) then (if x0 < (65536 : Int32) then x0 else ((x0.toUInt32 >>> ((16 : Int32) &&& 31).toUInt32).toInt32)) else (((if x0 < (65536 : Int32) then x0 else ((x0.toUInt32 >>> ((16 : Int32) &&& 31).toUInt32).toInt32)).toUInt32 >>> ((8 : Int32) &&& 31).toUInt32).toInt32)).toUInt32 >>> ((4 : Int32) &&& 31).toUInt32).toInt32))), .val (.int (if (if (if x0 < (65536 : Int32) then x0 else ((x0.toUInt32 >>> ((16 : Int32) &&& 31).toUInt32).toInt32)) < (256 : Int32) then (if x0 < (65536 : Int32) then x0 else ((x0.toUInt32 >>> ((16 : Int32) &&& 31).toUInt32).toInt32)) else (((if x0 < (65536 : Int32) then x0 else ((x0.toUInt32 >>> ((16 : Int32) &&& 31).toUInt32).toInt32)).toUInt32 >>> ((8 : Int32) &&& 31).toUInt32).toInt32)) < (16 : Int32) then (if (if x0 < (65536 : Int32) then x0 else ((x0.toUInt32 >>> ((16 : Int32) &&& 31).toUInt32).toInt32)) < (256 : Int32) then (if x0 < (65536 : Int32) then (31 : Int32) else (15 : Int32)) else ((if x0 < (65536 : Int32) then (31 : Int32) else (15 : Int32)) + (-8 : Int32))) else ((if (if x0 < (65536 : Int32) then x0 else ((x0.toUInt32 >>> ((16 : Int32) &&& 31).toUInt32).toInt32)) < (256 : Int32) then (if x0 < (65536 : Int32) then (31 : Int32) else (15 : Int32)) else ((if x0 < (65536 : Int32) then (31 : Int32) else (15 : Int32)) + (-8 : Int32))) + (-4 : Int32))))] [])) (fun t k => ?_) ?_
    · by_cases hc4 : (if (if x0 < (65536 : Int32) then x0 else ((x0.toUInt32 >>> ((16 : Int32) &&& 31).toUInt32).toInt32)) < (256 : Int32) then (if x0 < (65536 : Int32) then x0 else ((x0.toUInt32 >>> ((16 : Int32) &&& 31).toUInt32).toInt32)) else (((if x0 < (65536 : Int32) then x0 else ((x0.toUInt32 >>> ((16 : Int32) &&& 31).toUInt32).toInt32)).toUInt32 >>> ((8 : Int32) &&& 31).toUInt32).toInt32)) < (16 : Int32)
      · refine XS.icmpYes X0.here hx rfl (pc0 := 51) (pc' := 61) rfl (hb hby d12_51) rfl (tlt hc4).1 (by decide) (by decide) (?_ : Steps p.tables e below (s₁.setTop (mkF m 61 #[.val (.int (if (if x0 < (65536 : Int32) then x0 else ((x0.toUInt32 >>> ((16 : Int32) &&& 31).toUInt32).toInt32)) < (256 : Int32) then (if x0 < (65536 : Int32) then x0 else ((x0.toUInt32 >>> ((16 : Int32) &&& 31).toUInt32).toInt32)) else (((if x0 < (65536 : Int32) then x0 else ((x0.toUInt32 >>> ((16 : Int32) &&& 31).toUInt32).toInt32)).toUInt32 >>> ((8 : Int32) &&& 31).toUInt32).toInt32))), .val (.int (if (if x0 < (65536 : Int32) then x0 else ((x0.toUInt32 >>> ((16 : Int32) &&& 31).toUInt32).toInt32)) < (256 : Int32) then (if x0 < (65536 : Int32) then (31 : Int32) else (15 : Int32)) else ((if x0 < (65536 : Int32) then (31 : Int32) else (15 : Int32)) + (-8 : Int32))))] [])) _)
        simpa only [if_pos hc4] using k
      · refine XS.icmpNo X0.here hx rfl (hb hby d12_51) rfl (flt hc4).1 (?_ : Steps p.tables e below (s₁.setTop (mkF m 54 #[.val (.int (if (if x0 < (65536 : Int32) then x0 else ((x0.toUInt32 >>> ((16 : Int32) &&& 31).toUInt32).toInt32)) < (256 : Int32) then (if x0 < (65536 : Int32) then x0 else ((x0.toUInt32 >>> ((16 : Int32) &&& 31).toUInt32).toInt32)) else (((if x0 < (65536 : Int32) then x0 else ((x0.toUInt32 >>> ((16 : Int32) &&& 31).toUInt32).toInt32)).toUInt32 >>> ((8 : Int32) &&& 31).toUInt32).toInt32))), .val (.int (if (if x0 < (65536 : Int32) then x0 else ((x0.toUInt32 >>> ((16 : Int32) &&& 31).toUInt32).toInt32)) < (256 : Int32) then (if x0 < (65536 : Int32) then (31 : Int32) else (15 : Int32)) else ((if x0 < (65536 : Int32) then (31 : Int32) else (15 : Int32)) + (-8 : Int32))))] [])) _)
        refine XS.iinc X0.here hx rfl (hb hby d12_54) rfl (l' := #[.val (.int (if (if x0 < (65536 : Int32) then x0 else ((x0.toUInt32 >>> ((16 : Int32) &&& 31).toUInt32).toInt32)) < (256 : Int32) then (if x0 < (65536 : Int32) then x0 else ((x0.toUInt32 >>> ((16 : Int32) &&& 31).toUInt32).toInt32)) else (((if x0 < (65536 : Int32) then x0 else ((x0.toUInt32 >>> ((16 : Int32) &&& 31).toUInt32).toInt32)).toUInt32 >>> ((8 : Int32) &&& 31).toUInt32).toInt32))), .val (.int ((if (if x0 < (65536 : Int32) then x0 else ((x0.toUInt32 >>> ((16 : Int32) &&& 31).toUInt32).toInt32)) < (256 : Int32) then (if x0 < (65536 : Int32) then (31 : Int32) else (15 : Int32)) else ((if x0 < (65536 : Int32) then (31 : Int32) else (15 : Int32)) + (-8 : Int32))) + (-4 : Int32)))]) rfl (?_ : Steps p.tables e below (s₁.setTop (mkF m 57 #[.val (.int (if (if x0 < (65536 : Int32) then x0 else ((x0.toUInt32 >>> ((16 : Int32) &&& 31).toUInt32).toInt32)) < (256 : Int32) then (if x0 < (65536 : Int32) then x0 else ((x0.toUInt32 >>> ((16 : Int32) &&& 31).toUInt32).toInt32)) else (((if x0 < (65536 : Int32) then x0 else ((x0.toUInt32 >>> ((16 : Int32) &&& 31).toUInt32).toInt32)).toUInt32 >>> ((8 : Int32) &&& 31).toUInt32).toInt32))), .val (.int ((if (if x0 < (65536 : Int32) then x0 else ((x0.toUInt32 >>> ((16 : Int32) &&& 31).toUInt32).toInt32)) < (256 : Int32) then (if x0 < (65536 : Int32) then (31 : Int32) else (15 : Int32)) else ((if x0 < (65536 : Int32) then (31 : Int32) else (15 : Int32)) + (-8 : Int32))) + (-4 : Int32)))] [])) _)
        refine XS.iloadN X0.here hx rfl (hb hby d12_57) rfl (?_ : Steps p.tables e below (s₁.setTop (mkF m 58 #[.val (.int (if (if x0 < (65536 : Int32) then x0 else ((x0.toUInt32 >>> ((16 : Int32) &&& 31).toUInt32).toInt32)) < (256 : Int32) then (if x0 < (65536 : Int32) then x0 else ((x0.toUInt32 >>> ((16 : Int32) &&& 31).toUInt32).toInt32)) else (((if x0 < (65536 : Int32) then x0 else ((x0.toUInt32 >>> ((16 : Int32) &&& 31).toUInt32).toInt32)).toUInt32 >>> ((8 : Int32) &&& 31).toUInt32).toInt32))), .val (.int ((if (if x0 < (65536 : Int32) then x0 else ((x0.toUInt32 >>> ((16 : Int32) &&& 31).toUInt32).toInt32)) < (256 : Int32) then (if x0 < (65536 : Int32) then (31 : Int32) else (15 : Int32)) else ((if x0 < (65536 : Int32) then (31 : Int32) else (15 : Int32)) + (-8 : Int32))) + (-4 : Int32)))] [(.int (if (if x0 < (65536 : Int32) then x0 else ((x0.toUInt32 >>> ((16 : Int32) &&& 31).toUInt32).toInt32)) < (256 : Int32) then (if x0 < (65536 : Int32) then x0 else ((x0.toUInt32 >>> ((16 : Int32) &&& 31).toUInt32).toInt32)) else (((if x0 < (65536 : Int32) then x0 else ((x0.toUInt32 >>> ((16 : Int32) &&& 31).toUInt32).toInt32)).toUInt32 >>> ((8 : Int32) &&& 31).toUInt32).toInt32)))])) _)
        refine XS.iconst X0.here hx rfl (hb hby d12_58) (?_ : Steps p.tables e below (s₁.setTop (mkF m 59 #[.val (.int (if (if x0 < (65536 : Int32) then x0 else ((x0.toUInt32 >>> ((16 : Int32) &&& 31).toUInt32).toInt32)) < (256 : Int32) then (if x0 < (65536 : Int32) then x0 else ((x0.toUInt32 >>> ((16 : Int32) &&& 31).toUInt32).toInt32)) else (((if x0 < (65536 : Int32) then x0 else ((x0.toUInt32 >>> ((16 : Int32) &&& 31).toUInt32).toInt32)).toUInt32 >>> ((8 : Int32) &&& 31).toUInt32).toInt32))), .val (.int ((if (if x0 < (65536 : Int32) then x0 else ((x0.toUInt32 >>> ((16 : Int32) &&& 31).toUInt32).toInt32)) < (256 : Int32) then (if x0 < (65536 : Int32) then (31 : Int32) else (15 : Int32)) else ((if x0 < (65536 : Int32) then (31 : Int32) else (15 : Int32)) + (-8 : Int32))) + (-4 : Int32)))] [(.int (4 : Int32)), (.int (if (if x0 < (65536 : Int32) then x0 else ((x0.toUInt32 >>> ((16 : Int32) &&& 31).toUInt32).toInt32)) < (256 : Int32) then (if x0 < (65536 : Int32) then x0 else ((x0.toUInt32 >>> ((16 : Int32) &&& 31).toUInt32).toInt32)) else (((if x0 < (65536 : Int32) then x0 else ((x0.toUInt32 >>> ((16 : Int32) &&& 31).toUInt32).toInt32)).toUInt32 >>> ((8 : Int32) &&& 31).toUInt32).toInt32)))])) _)
        refine XS.iushr X0.here hx rfl (hb hby d12_59) rfl (?_ : Steps p.tables e below (s₁.setTop (mkF m 60 #[.val (.int (if (if x0 < (65536 : Int32) then x0 else ((x0.toUInt32 >>> ((16 : Int32) &&& 31).toUInt32).toInt32)) < (256 : Int32) then (if x0 < (65536 : Int32) then x0 else ((x0.toUInt32 >>> ((16 : Int32) &&& 31).toUInt32).toInt32)) else (((if x0 < (65536 : Int32) then x0 else ((x0.toUInt32 >>> ((16 : Int32) &&& 31).toUInt32).toInt32)).toUInt32 >>> ((8 : Int32) &&& 31).toUInt32).toInt32))), .val (.int ((if (if x0 < (65536 : Int32) then x0 else ((x0.toUInt32 >>> ((16 : Int32) &&& 31).toUInt32).toInt32)) < (256 : Int32) then (if x0 < (65536 : Int32) then (31 : Int32) else (15 : Int32)) else ((if x0 < (65536 : Int32) then (31 : Int32) else (15 : Int32)) + (-8 : Int32))) + (-4 : Int32)))] [(.int (((if (if x0 < (65536 : Int32) then x0 else ((x0.toUInt32 >>> ((16 : Int32) &&& 31).toUInt32).toInt32)) < (256 : Int32) then (if x0 < (65536 : Int32) then x0 else ((x0.toUInt32 >>> ((16 : Int32) &&& 31).toUInt32).toInt32)) else (((if x0 < (65536 : Int32) then x0 else ((x0.toUInt32 >>> ((16 : Int32) &&& 31).toUInt32).toInt32)).toUInt32 >>> ((8 : Int32) &&& 31).toUInt32).toInt32)).toUInt32 >>> ((4 : Int32) &&& 31).toUInt32).toInt32))])) _)
        refine XS.istoreN X0.here hx rfl (hb hby d12_60) rfl (l' := #[.val (.int (((if (if x0 < (65536 : Int32) then x0 else ((x0.toUInt32 >>> ((16 : Int32) &&& 31).toUInt32).toInt32)) < (256 : Int32) then (if x0 < (65536 : Int32) then x0 else ((x0.toUInt32 >>> ((16 : Int32) &&& 31).toUInt32).toInt32)) else (((if x0 < (65536 : Int32) then x0 else ((x0.toUInt32 >>> ((16 : Int32) &&& 31).toUInt32).toInt32)).toUInt32 >>> ((8 : Int32) &&& 31).toUInt32).toInt32)).toUInt32 >>> ((4 : Int32) &&& 31).toUInt32).toInt32)), .val (.int ((if (if x0 < (65536 : Int32) then x0 else ((x0.toUInt32 >>> ((16 : Int32) &&& 31).toUInt32).toInt32)) < (256 : Int32) then (if x0 < (65536 : Int32) then (31 : Int32) else (15 : Int32)) else ((if x0 < (65536 : Int32) then (31 : Int32) else (15 : Int32)) + (-8 : Int32))) + (-4 : Int32)))]) rfl (?_ : Steps p.tables e below (s₁.setTop (mkF m 61 #[.val (.int (((if (if x0 < (65536 : Int32) then x0 else ((x0.toUInt32 >>> ((16 : Int32) &&& 31).toUInt32).toInt32)) < (256 : Int32) then (if x0 < (65536 : Int32) then x0 else ((x0.toUInt32 >>> ((16 : Int32) &&& 31).toUInt32).toInt32)) else (((if x0 < (65536 : Int32) then x0 else ((x0.toUInt32 >>> ((16 : Int32) &&& 31).toUInt32).toInt32)).toUInt32 >>> ((8 : Int32) &&& 31).toUInt32).toInt32)).toUInt32 >>> ((4 : Int32) &&& 31).toUInt32).toInt32)), .val (.int ((if (if x0 < (65536 : Int32) then x0 else ((x0.toUInt32 >>> ((16 : Int32) &&& 31).toUInt32).toInt32)) < (256 : Int32) then (if x0 < (65536 : Int32) then (31 : Int32) else (15 : Int32)) else ((if x0 < (65536 : Int32) then (31 : Int32) else (15 : Int32)) + (-8 : Int32))) + (-4 : Int32)))] [])) _)
        simpa only [if_neg hc4] using k
    refine own_step (st' := s₁.setTop (mkF m 62 #[.val (.int (if (if (if x0 < (65536 : Int32) then x0 else ((x0.toUInt32 >>> ((16 : Int32) &&& 31).toUInt32).toInt32)) < (256 : Int32) then (if x0 < (65536 : Int32) then x0 else ((x0.toUInt32 >>> ((16 : Int32) &&& 31).toUInt32).toInt32)) else (((if x0 < (65536 : Int32) then x0 else ((x0.toUInt32 >>> ((16 : Int32) &&& 31).toUInt32).toInt32)).toUInt32 >>> ((8 : Int32) &&& 31).toUInt32).toInt32)) < (16 : Int32) then (if (if x0 < (65536 : Int32) then x0 else ((x0.toUInt32 >>> ((16 : Int32) &&& 31).toUInt32).toInt32)) < (256 : Int32) then (if x0 < (65536 : Int32) then x0 else ((x0.toUInt32 >>> ((16 : Int32) &&& 31).toUInt32).toInt32)) else (((if x0 < (65536 : Int32) then x0 else ((x0.toUInt32 >>> ((16 : Int32) &&& 31).toUInt32).toInt32)).toUInt32 >>> ((8 : Int32) &&& 31).toUInt32).toInt32)) else (((if (if x0 < (65536 : Int32) then x0 else ((x0.toUInt32 >>> ((16 : Int32) &&& 31).toUInt32).toInt32)) < (256 : Int32) then (if x0 < (65536 : Int32) then x0 else ((x0.toUInt32 >>> ((16 : Int32) &&& 31).toUInt32).toInt32)) else (((if x0 < (65536 : Int32) then x0 else ((x0.toUInt32 >>> ((16 : Int32) &&& 31).toUInt32).toInt32)).toUInt32 >>> ((8 : Int32) &&& 31).toUInt32).toInt32)).toUInt32 >>> ((4 : Int32) &&& 31).toUInt32).toInt32))), .val (.int (if (if (if x0 < (65536 : Int32) then x0 else ((x0.toUInt32 >>> ((16 : Int32) &&& 31).toUInt32).toInt32)) < (256 : Int32) then (if x0 < (65536 : Int32) then x0 else ((x0.toUInt32 >>> ((16 : Int32) &&& 31).toUInt32).toInt32)) else (((if x0 < (65536 : Int32) then x0 else ((x0.toUInt32 >>> ((16 : Int32) &&& 31).toUInt32).toInt32)).toUInt32 >>> ((8 : Int32) &&& 31).toUInt32).toInt32)) < (16 : Int32) then (if (if x0 < (65536 : Int32) then x0 else ((x0.toUInt32 >>> ((16 : Int32) &&& 31).toUInt32).toInt32)) < (256 : Int32) then (if x0 < (65536 : Int32) then (31 : Int32) else (15 : Int32)) else ((if x0 < (65536 : Int32) then (31 : Int32) else (15 : Int32)) + (-8 : Int32))) else ((if (if x0 < (65536 : Int32) then x0 else ((x0.toUInt32 >>> ((16 : Int32) &&& 31).toUInt32).toInt32)) < (256 : Int32) then (if x0 < (65536 : Int32) then (31 : Int32) else (15 : Int32)) else ((if x0 < (65536 : Int32) then (31 : Int32) else (15 : Int32)) + (-8 : Int32))) + (-4 : Int32))))] [(.int (if (if (if x0 < (65536 : Int32) then x0 else ((x0.toUInt32 >>> ((16 : Int32) &&& 31).toUInt32).toInt32)) < (256 : Int32) then (if x0 < (65536 : Int32) then x0 else ((x0.toUInt32 >>> ((16 : Int32) &&& 31).toUInt32).toInt32)) else (((if x0 < (65536 : Int32) then x0 else ((x0.toUInt32 >>> ((16 : Int32) &&& 31).toUInt32).toInt32)).toUInt32 >>> ((8 : Int32) &&& 31).toUInt32).toInt32)) < (16 : Int32) then (if (if x0 < (65536 : Int32) then x0 else ((x0.toUInt32 >>> ((16 : Int32) &&& 31).toUInt32).toInt32)) < (256 : Int32) then (if x0 < (65536 : Int32) then x0 else ((x0.toUInt32 >>> ((16 : Int32) &&& 31).toUInt32).toInt32)) else (((if x0 < (65536 : Int32) then x0 else ((x0.toUInt32 >>> ((16 : Int32) &&& 31).toUInt32).toInt32)).toUInt32 >>> ((8 : Int32) &&& 31).toUInt32).toInt32)) else (((if (if x0 < (65536 : Int32) then x0 else ((x0.toUInt32 >>> ((16 : Int32) &&& 31).toUInt32).toInt32)) < (256 : Int32) then (if x0 < (65536 : Int32) then x0 else ((x0.toUInt32 >>> ((16 : Int32) &&& 31).toUInt32).toInt32)) else (((if x0 < (65536 : Int32) then x0 else ((x0.toUInt32 >>> ((16 : Int32) &&& 31).toUInt32).toInt32)).toUInt32 >>> ((8 : Int32) &&& 31).toUInt32).toInt32)).toUInt32 >>> ((4 : Int32) &&& 31).toUInt32).toInt32)))])) (fun t k => XS.iloadN X0.here hx rfl (hb hby d12_61) rfl k) ?_
    refine own_step (st' := s₁.setTop (mkF m 63 #[.val (.int (if (if (if x0 < (65536 : Int32) then x0 else ((x0.toUInt32 >>> ((16 : Int32) &&& 31).toUInt32).toInt32)) < (256 : Int32) then (if x0 < (65536 : Int32) then x0 else ((x0.toUInt32 >>> ((16 : Int32) &&& 31).toUInt32).toInt32)) else (((if x0 < (65536 : Int32) then x0 else ((x0.toUInt32 >>> ((16 : Int32) &&& 31).toUInt32).toInt32)).toUInt32 >>> ((8 : Int32) &&& 31).toUInt32).toInt32)) < (16 : Int32) then (if (if x0 < (65536 : Int32) then x0 else ((x0.toUInt32 >>> ((16 : Int32) &&& 31).toUInt32).toInt32)) < (256 : Int32) then (if x0 < (65536 : Int32) then x0 else ((x0.toUInt32 >>> ((16 : Int32) &&& 31).toUInt32).toInt32)) else (((if x0 < (65536 : Int32) then x0 else ((x0.toUInt32 >>> ((16 : Int32) &&& 31).toUInt32).toInt32)).toUInt32 >>> ((8 : Int32) &&& 31).toUInt32).toInt32)) else (((if (if x0 < (65536 : Int32) then x0 else ((x0.toUInt32 >>> ((16 : Int32) &&& 31).toUInt32).toInt32)) < (256 : Int32) then (if x0 < (65536 : Int32) then x0 else ((x0.toUInt32 >>> ((16 : Int32) &&& 31).toUInt32).toInt32)) else (((if x0 < (65536 : Int32) then x0 else ((x0.toUInt32 >>> ((16 : Int32) &&& 31).toUInt32).toInt32)).toUInt32 >>> ((8 : Int32) &&& 31).toUInt32).toInt32)).toUInt32 >>> ((4 : Int32) &&& 31).toUInt32).toInt32))), .val (.int (if (if (if x0 < (65536 : Int32) then x0 else ((x0.toUInt32 >>> ((16 : Int32) &&& 31).toUInt32).toInt32)) < (256 : Int32) then (if x0 < (65536 : Int32) then x0 else ((x0.toUInt32 >>> ((16 : Int32) &&& 31).toUInt32).toInt32)) else (((if x0 < (65536 : Int32) then x0 else ((x0.toUInt32 >>> ((16 : Int32) &&& 31).toUInt32).toInt32)).toUInt32 >>> ((8 : Int32) &&& 31).toUInt32).toInt32)) < (16 : Int32) then (if (if x0 < (65536 : Int32) then x0 else ((x0.toUInt32 >>> ((16 : Int32) &&& 31).toUInt32).toInt32)) < (256 : Int32) then (if x0 < (65536 : Int32) then (31 : Int32) else (15 : Int32)) else ((if x0 < (65536 : Int32) then (31 : Int32) else (15 : Int32)) + (-8 : Int32))) else ((if (if x0 < (65536 : Int32) then x0 else ((x0.toUInt32 >>> ((16 : Int32) &&& 31).toUInt32).toInt32)) < (256 : Int32) then (if x0 < (65536 : Int32) then (31 : Int32) else (15 : Int32)) else ((if x0 < (65536 : Int32) then (31 : Int32) else (15 : Int32)) + (-8 : Int32))) + (-4 : Int32))))] [(.int (4 : Int32)), (.int (if (if (if x0 < (65536 : Int32) then x0 else ((x0.toUInt32 >>> ((16 : Int32) &&& 31).toUInt32).toInt32)) < (256 : Int32) then (if x0 < (65536 : Int32) then x0 else ((x0.toUInt32 >>> ((16 : Int32) &&& 31).toUInt32).toInt32)) else (((if x0 < (65536 : Int32) then x0 else ((x0.toUInt32 >>> ((16 : Int32) &&& 31).toUInt32).toInt32)).toUInt32 >>> ((8 : Int32) &&& 31).toUInt32).toInt32)) < (16 : Int32) then (if (if x0 < (65536 : Int32) then x0 else ((x0.toUInt32 >>> ((16 : Int32) &&& 31).toUInt32).toInt32)) < (256 : Int32) then (if x0 < (65536 : Int32) then x0 else ((x0.toUInt32 >>> ((16 : Int32) &&& 31).toUInt32).toInt32)) else (((if x0 < (65536 : Int32) then x0 else ((x0.toUInt32 >>> ((16 : Int32) &&& 31).toUInt32).toInt32)).toUInt32 >>> ((8 : Int32) &&& 31).toUInt32).toInt32)) else (((if (if x0 < (65536 : Int32) then x0 else ((x0.toUInt32 >>> ((16 : Int32) &&& 31).toUInt32).toInt32)) < (256 : Int32) then (if x0 < (65536 : Int32) then x0 else ((x0.toUInt32 >>> ((16 : Int32) &&& 31).toUInt32).toInt32)) else (((if x0 < (65536 : Int32) then x0 else ((x0.toUInt32 >>> ((16 : Int32) &&& 31).toUInt32).toInt32)).toUInt32 >>> ((8 : Int32) &&& 31).toUInt32).toInt32)).toUInt32 >>> ((4 : Int32) &&& 31).toUInt32).toInt32)))])) (fun t k => XS.iconst X0.here hx rfl (hb hby d12_62) k) ?_
    refine own_step (st' := s₁.setTop (mkF m 73 #[.val (.int (if (if (if (if x0 < (65536 : Int32) then x0 else ((x0.toUInt32 >>> ((16 : Int32) &&& 31).toUInt32).toInt32)) < (256 : Int32) then (if x0 < (65536 : Int32) then x0 else ((x0.toUInt32 >>> ((16 : Int32) &&& 31).toUInt32).toInt32)) else (((if x0 < (65536 : Int32) then x0 else ((x0.toUInt32 >>> ((16 : Int32) &&& 31).toUInt32).toInt32)).toUInt32 >>> ((8 : Int32) &&& 31).toUInt32).toInt32)) < (16 : Int32) then (if (if x0 < (65536 : Int32) then x0 else ((x0.toUInt32 >>> ((16 : Int32) &&& 31).toUInt32).toInt32)) < (256 : Int32) then (if x0 < (65536 : Int32) then x0 else ((x0.toUInt32 >>> ((16 : Int32) &&& 31).toUInt32).toInt32)) else (((if x0 < (65536 : Int32) then x0 else ((x0.toUInt32 >>> ((16 : Int32) &&& 31).toUInt32).toInt32)).toUInt32 >>> ((8 : Int32) &&& 31).toUInt32).toInt32)) else (((if (if x0 < (65536 : Int32) then x0 else ((x0.toUInt32 >>> ((16 : Int32) &&& 31).toUInt32).toInt32)) < (256 : Int32) then (if x0 < (65536 : Int32) then x0 else ((x0.toUInt32 >>> ((16 : Int32) &&& 31).toUInt32).toInt32)) else (((if x0 < (65536 : Int32) then x0 else ((x0.toUInt32 >>> ((16 : Int32) &&& 31).toUInt32).toInt32)).toUInt32 >>> ((8 : Int32) &&& 31).toUInt32).toInt32)).toUInt32 >>> ((4 : Int32) &&& 31).toUInt32).toInt32)) < (4 : Int32) then (if (if (if x0 < (65536 : Int32) then x0 else ((x0.toUInt32 >>> ((16 : Int32) &&& 31).toUInt32).toInt32)) < (256 : Int32) then (if x0 < (65536 : Int32) then x0 else ((x0.toUInt32 >>> ((16 : Int32) &&& 31).toUInt32).toInt32)) else (((if x0 < (65536 : Int32) then x0 else ((x0.toUInt32 >>> ((16 : Int32) &&& 31).toUInt32).toInt32)).toUInt32 >>> ((8 : Int32) &&& 31).toUInt32).toInt32)) < (16 : Int32) then (if (if x0 < (65536 : Int32) then x0 else ((x0.toUInt32 >>> ((16 : Int32) &&& 31).toUInt32).toInt32)) < (256 : Int32) then (if x0 < (65536 : Int32) then x0 else ((x0.toUInt32 >>> ((16 : Int32) &&& 31).toUInt32).toInt32)) else (((if x0 < (65536 : Int32) then x0 else ((x0.toUInt32 >>> ((16 : Int32) &&& 31).toUInt32).toInt32)).toUInt32 >>> ((8 : Int32) &&& 31).toUInt32).toInt32)) else (((if (if x0 < (65536 : Int32) then x0 else ((x0.toUInt32 >>> ((16 : Int32) &&& 31).toUInt32).toInt32)) < (256 : Int32) then (if x0 < (65536 : Int32) then x0 else ((x0.toUInt32 >>> ((16 : Int32) &&& 31).toUInt32).toInt32)) else (((if x0 < (65536 : Int32) then x0 else ((x0.toUInt32 >>> ((16 : Int32) &&& 31).toUInt32).toInt32)).toUInt32 >>> ((8 : Int32) &&& 31).toUInt32).toInt32)).toUInt32 >>> ((4 : Int32) &&& 31).toUInt32).toInt32)) else (((if (if (if x0 < (65536 : Int32) then x0 else ((x0.toUInt32 >>> ((16 : Int32) &&& 31).toUInt32).toInt32)) < (256 : Int32) then (if x0 < (65536 : Int32) then x0 else ((x0.toUInt32 >>> ((16 : Int32) &&& 31).toUInt32).toInt32)) else (((if x0 < (65536 : Int32) then x0 else ((x0.toUInt32 >>> ((16 : Int32) &&& 31).toUInt32).toInt32)).toUInt32 >>> ((8 : Int32) &&& 31).toUInt32).toInt32)) < (16 : Int32) then (if (if x0 < (65536 : Int32) then x0 else ((x0.toUInt32 >>> ((16 : Int32) &&& 31).toUInt32).toInt32)) < (256 : Int32) then (if x0 < (65536 : Int32) then x0 else ((x0.toUInt32 >>> ((16 : Int32) &&& 31).toUInt32).toInt32)) else (((if x0 < (65536 : Int32) then x0 else ((x0.toUInt32 >>> ((16 : Int32) &&& 31).toUInt32).toInt32)).toUInt32 >>> ((8 : Int32) &&& 31).toUInt32).toInt32)) else (((if (if x0 < (65536 : Int32) then x0 else ((x0.toUInt32 >>> ((16 : Int32) &&& 31).toUInt32).toInt32)) < (256 : Int32) then (if x0 < (65536 : Int32) then x0 else ((x0.toUInt32 >>> ((16 : Int32) &&& 31).toUInt32).toInt32)) else (((if x0 < (65536 : Int32) then x0 else ((x0.toUInt32 >>> ((16 : Int32) &&& 31).toUInt32).toInt32)).toUInt32 >>> ((8 : Int32) &&& 31).toUInt32).toInt32)).toUInt32 >>> ((4 : Int32) &&& 31).toUInt32).toInt32)).toUInt32 >>> ((2 : Int32) &&& 31).toUInt32).toInt32))), .val (.int (if (if (if (if x0 < (65536 : Int32) then x0 else ((x0.toUInt32 >>> ((16 : Int32) &&& 31).toUInt32).toInt32)) < (256 : Int32) then (if x0 < (65536 : Int32) then x0 else ((x0.toUInt32 >>> ((16 : Int32) &&& 31).toUInt32).toInt32)) else (((if x0 < (65536 : Int32) then x0 else ((x0.toUInt32 >>> ((16 : Int32) &&& 31).toUInt32).toInt32)).toUInt32 >>> ((8 : Int32) &&& 31).toUInt32).toInt32)) < (16 : Int32) then (if (if x0 < (65536 : Int32) then x0 else ((x0.toUInt32 >>> ((16 : Int32) &&& 31).toUInt32).toInt32)) < (256 : Int32) then (if x0 < (65536 : Int32) then x0 else ((x0.toUInt32 >>> ((16 : Int32) &&& 31).toUInt32).toInt32)) else (((if x0 < (65536 : Int32) then x0 else ((x0.toUInt32 >>> ((16 : Int32) &&& 31).toUInt32).toInt32)).toUInt32 >>> ((8 : Int32) &&& 31).toUInt32).toInt32)) else (((if (if x0 < (65536 : Int32) then x0 else ((x0.toUInt32 >>> ((16 : Int32) &&& 31).toUInt32).toInt32)) < (256 : Int32) then (if x0 < (65536 : Int32) then x0 else ((x0.toUInt32 >>> ((16 : Int32) &&& 31).toUInt32).toInt32)) else (((if x0 < (65536 : Int32) then x0 else ((x0.toUInt32 >>> ((16 : Int32) &&& 31).toUInt32).toInt32)).toUInt32 >>> ((8 : Int32) &&& 31).toUInt32).toInt32)).toUInt32 >>> ((4 : Int32) &&& 31).toUInt32).toInt32)) < (4 : Int32) then (if (if (if x0 < (65536 : Int32) then x0 else ((x0.toUInt32 >>> ((16 : Int32) &&& 31).toUInt32).toInt32)) < (256 : Int32) then (if x0 < (65536 : Int32) then x0 else ((x0.toUInt32 >>> ((16 : Int32) &&& 31).toUInt32).toInt32)) else (((if x0 < (65536 : Int32) then x0 else ((x0.toUInt32 >>> ((16 : Int32) &&& 31).toUInt32).toInt32)).toUInt32 >>> ((8 : Int32) &&& 31).toUInt32).toInt32)) < (16 : Int32) then (if (if x0 < (65536 : Int32) then x0 else ((x0.toUInt32 >>> ((16 : Int32) &&& 31).toUInt32).toInt32)) < (256 : Int32) then (if x0 < (65536 : Int32) then (31 : Int32) else (15 : Int32)) else ((if x0 < (65536 : Int32) then (31 : Int32) else (15 : Int32)) + (-8 : Int32))) else ((if (if x0 < (65536 : Int32) then x0 else ((x0.toUInt32 >>> ((16 : Int32) &&& 31).toUInt32).toInt32)) < (256 : Int32) then (if x0 < (65536 : Int32) then (31 : Int32) else (15 : Int32)) else ((if x0 < (65536 : Int32) then (31 : Int32) else (15 : Int32)) + (-8 : Int32))) + (-4 : Int32))) else ((if (if (if x0 < (65536 : Int32) then x0 else ((x0.toUInt32 >>> ((16 : Int32) &&& 31).toUInt32).toInt32)) < (256 : Int32) then (if x0 < (65536 : Int32) then x0 else ((x0.toUInt32 >>> ((16 : Int32) &&& 31).toUInt32).toInt32)) else (((if x0 < (65536 : Int32) then x0 else ((x0.toUInt32 >>> ((16 : Int32) &&& 31).toUInt32).toInt32)).toUInt32 >>> ((8 : Int32) &&& 31).toUInt32).toInt32)) < (16 : Int32) then (if (if x0 < (65536 : Int32) then x0 else ((x0.toUInt32 >>> ((16 : Int32) &&& 31).toUInt32).toInt32)) < (256 : Int32) then (if x0 < (65536 : Int32) then (31 : Int32) else (15 : Int32)) else ((if x0 < (65536 : Int32) then (31 : Int32) else (15 : Int32)) + (-8 : Int32))) else ((if (if x0 < (65536 : Int32) then x0 else ((x0.toUInt32 >>> ((16 : Int32) &&& 31).toUInt32).toInt32)) < (256 : Int32) then (if x0 < (65536 : Int32) then (31 : Int32) else (15 : Int32)) else ((if x0 < (65536 : Int32) then (31 : Int32) else (15 : Int32)) + (-8 : Int32))) + (-4 : Int32))) + (-2 : Int32))))] [])) (fun t k => ?_) ?_
    · by_cases hc5 : (if (if (if x0 < (65536 : Int32) then x0 else ((x0.toUInt32 >>> ((16 : Int32) &&& 31).toUInt32).toInt32)) < (256 : Int32) then (if x0 < (65536 : Int32) then x0 else ((x0.toUInt32 >>> ((16 : Int32) &&& 31).toUInt32).toInt32)) else (((if x0 < (65536 : Int32) then x0 else ((x0.toUInt32 >>> ((16 : Int32) &&& 31).toUInt32).toInt32)).toUInt32 >>> ((8 : Int32) &&& 31).toUInt32).toInt32)) < (16 : Int32) then (if (if x0 < (65536 : Int32) then x0 else ((x0.toUInt32 >>> ((16 : Int32) &&& 31).toUInt32).toInt32)) < (256 : Int32) then (if x0 < (65536 : Int32) then x0 else ((x0.toUInt32 >>> ((16 : Int32) &&& 31).toUInt32).toInt32)) else (((if x0 < (65536 : Int32) then x0 else ((x0.toUInt32 >>> ((16 : Int32) &&& 31).toUInt32).toInt32)).toUInt32 >>> ((8 : Int32) &&& 31).toUInt32).toInt32)) else (((if (if x0 < (65536 : Int32) then x0 else ((x0.toUInt32 >>> ((16 : Int32) &&& 31).toUInt32).toInt32)) < (256 : Int32) then (if x0 < (65536 : Int32) then x0 else ((x0.toUInt32 >>> ((16 : Int32) &&& 31).toUInt32).toInt32)) else (((if x0 < (65536 : Int32) then x0 else ((x0.toUInt32 >>> ((16 : Int32) &&& 31).toUInt32).toInt32)).toUInt32 >>> ((8 : Int32) &&& 31).toUInt32).toInt32)).toUInt32 >>> ((4 : Int32) &&& 31).toUInt32).toInt32)) < (4 : Int32)
      · refine XS.icmpYes X0.here hx rfl (pc0 := 63) (pc' := 73) rfl (hb hby d12_63) rfl (tlt hc5).1 (by decide) (by decide) (?_ : Steps p.tables e below (s₁.setTop (mkF m 73 #[.val (.int (if (if (if x0 < (65536 : Int32) then x0 else ((x0.toUInt32 >>> ((16 : Int32) &&& 31).toUInt32).toInt32)) < (256 : Int32) then (if x0 < (65536 : Int32) then x0 else ((x0.toUInt32 >>> ((16 : Int32) &&& 31).toUInt32).toInt32)) else (((if x0 < (65536 : Int32) then x0 else ((x0.toUInt32 >>> ((16 : Int32) &&& 31).toUInt32).toInt32)).toUInt32 >>> ((8 : Int32) &&& 31).toUInt32).toInt32)) < (16 : Int32) then (if (if x0 < (65536 : Int32) then x0 else ((x0.toUInt32 >>> ((16 : Int32) &&& 31).toUInt32).toInt32)) < (256 : Int32) then (if x0 < (65536 : Int32) then x0 else ((x0.toUInt32 >>> ((16 : Int32) &&& 31).toUInt32).toInt32)) else (((if x0 < (65536 : Int32) then x0 else ((x0.toUInt32 >>> ((16 : Int32) &&& 31).toUInt32).toInt32)).toUInt32 >>> ((8 : Int32) &&& 31).toUInt32).toInt32)) else (((if (if x0 < (65536 : Int32) then x0 else ((x0.toUInt32 >>> ((16 : Int32) &&& 31).toUInt32).toInt32)) < (256 : Int32) then (if x0 < (65536 : Int32) then x0 else ((x0.toUInt32 >>> ((16 : Int32) &&& 31).toUInt32).toInt32)) else (((if x0 < (65536 : Int32) then x0 else ((x0.toUInt32 >>> ((16 : Int32) &&& 31).toUInt32).toInt32)).toUInt32 >>> ((8 : Int32) &&& 31).toUInt32).toInt32)).toUInt32 >>> ((4 : Int32) &&& 31).toUInt32).toInt32))), .val (.int (if (if (if x0 < (65536 : Int32) then x0 else ((x0.toUInt32 >>> ((16 : Int32) &&& 31).toUInt32).toInt32)) < (256 : Int32) then (if x0 < (65536 : Int32) then x0 else ((x0.toUInt32 >>> ((16 : Int32) &&& 31).toUInt32).toInt32)) else (((if x0 < (65536 : Int32) then x0 else ((x0.toUInt32 >>> ((16 : Int32) &&& 31).toUInt32).toInt32)).toUInt32 >>> ((8 : Int32) &&& 31).toUInt32).toInt32)) < (16 : Int32) then (if (if x0 < (65536 : Int32) then x0 else ((x0.toUInt32 >>> ((16 : Int32) &&& 31).toUInt32).toInt32)) < (256 : Int32) then (if x0 < (65536 : Int32) then (31 : Int32) else (15 : Int32)) else ((if x0 < (65536 : Int32) then (31 : Int32) else (15 : Int32)) + (-8 : Int32))) else ((if (if x0 < (65536 : Int32) then x0 else ((x0.toUInt32 >>> ((16 : Int32) &&& 31).toUInt32).toInt32)) < (256 : Int32) then (if x0 < (65536 : Int32) then (31 : Int32) else (15 : Int32)) else ((if x0 < (65536 : Int32) then (31 : Int32) else (15 : Int32)) + (-8 : Int32))) + (-4 : Int32))))] [])) _)
        simpa only [if_pos hc5] using k
      · refine XS.icmpNo X0.here hx rfl (hb hby d12_63) rfl (flt hc5).1 (?_ : Steps p.tables e below (s₁.setTop (mkF m 66 #[.val (.int (if (if (if x0 < (65536 : Int32) then x0 else ((x0.toUInt32 >>> ((16 : Int32) &&& 31).toUInt32).toInt32)) < (256 : Int32) then (if x0 < (65536 : Int32) then x0 else ((x0.toUInt32 >>> ((16 : Int32) &&& 31).toUInt32).toInt32)) else (((if x0 < (65536 : Int32) then x0 else ((x0.toUInt32 >>> ((16 : Int32) &&& 31).toUInt32).toInt32)).toUInt32 >>> ((8 : Int32) &&& 31).toUInt32).toInt32)) < (16 : Int32) then (if (if x0 < (65536 : Int32) then x0 else ((x0.toUInt32 >>> ((16 : Int32) &&& 31).toUInt32).toInt32)) < (256 : Int32) then (if x0 < (65536 : Int32) then x0 else ((x0.toUInt32 >>> ((16 : Int32) &&& 31).toUInt32).toInt32)) else (((if x0 < (65536 : Int32) then x0 else ((x0.toUInt32 >>> ((16 : Int32) &&& 31).toUInt32).toInt32)).toUInt32 >>> ((8 : Int32) &&& 31).toUInt32).toInt32)) else (((if (if x0 < (65536 : Int32) then x0 else ((x0.toUInt32 >>> ((16 : Int32) &&& 31).toUInt32).toInt32)) < (256 : Int32) then (if x0 < (65536 : Int32) then x0 else ((x0.toUInt32 >>> ((16 : Int32) &&& 31).toUInt32).toInt32)) else (((if x0 < (65536 : Int32) then x0 else ((x0.toUInt32 >>> ((16 : Int32) &&& 31).toUInt32).toInt32)).toUInt32 >>> ((8 : Int32) &&& 31).toUInt32).toInt32)).toUInt32 >>> ((4 : Int32) &&& 31).toUInt32).toInt32))), .val (.int (if (if (if x0 < (65536 : Int32) then x0 else ((x0.toUInt32 >>> ((16 : Int32) &&& 31).toUInt32).toInt32)) < (256 : Int32) then (if x0 < (65536 : Int32) then x0 else ((x0.toUInt32 >>> ((16 : Int32) &&& 31).toUInt32).toInt32)) else (((if x0 < (65536 : Int32) then x0 else ((x0.toUInt32 >>> ((16 : Int32) &&& 31).toUInt32).toInt32)).toUInt32 >>> ((8 : Int32) &&& 31).toUInt32).toInt32)) < (16 : Int32) then (if (if x0 < (65536 : Int32) then x0 else ((x0.toUInt32 >>> ((16 : Int32) &&& 31).toUInt32).toInt32)) < (256 : Int32) then (if x0 < (65536 : Int32) then (31 : Int32) else (15 : Int32)) else ((if x0 < (65536 : Int32) then (31 : Int32) else (15 : Int32)) + (-8 : Int32))) else ((if (if x0 < (65536 : Int32) then x0 else ((x0.toUInt32 >>> ((16 : Int32) &&& 31).toUInt32).toInt32)) < (256 : Int32) then (if x0 < (65536 : Int32) then (31 : Int32) else (15 : Int32)) else ((if x0 < (65536 : Int32) then (31 : Int32) else (15 : Int32)) + (-8 : Int32))) + (-4 : Int32))))] [])) _)
        refine XS.iinc X0.here hx rfl (hb hby d12_66) rfl (l' := #[.val (.int (if (if (if x0 < (65536 : Int32) then x0 else ((x0.toUInt32 >>> ((16 : Int32) &&& 31).toUInt32).toInt32)) < (256 : Int32) then (if x0 < (65536 : Int32) then x0 else ((x0.toUInt32 >>> ((16 : Int32) &&& 31).toUInt32).toInt32)) else (((if x0 < (65536 : Int32) then x0 else ((x0.toUInt32 >>> ((16 : Int32) &&& 31).toUInt32).toInt32)).toUInt32 >>> ((8 : Int32) &&& 31).toUInt32).toInt32)) < (16 : Int32) then (if (if x0 < (65536 : Int32) then x0 else ((x0.toUInt32 >>> ((16 : Int32) &&& 31).toUInt32).toInt32)) < (256 : Int32) then (if x0 < (65536 : Int32) then x0 else ((x0.toUInt32 >>> ((16 : Int32) &&& 31).toUInt32).toInt32)) else (((if x0 < (65536 : Int32) then x0 else ((x0.toUInt32 >>> ((16 : Int32) &&& 31).toUInt32).toInt32)).toUInt32 >>> ((8 : Int32) &&& 31).toUInt32).toInt32)) else (((if (if x0 < (65536 : Int32) then x0 else ((x0.toUInt32 >>> ((16 : Int32) &&& 31).toUInt32).toInt32)) < (256 : Int32) then (if x0 < (65536 : Int32) then x0 else ((x0.toUInt32 >>> ((16 : Int32) &&& 31).toUInt32).toInt32)) else (((if x0 < (65536 : Int32) then x0 else ((x0.toUInt32 >>> ((16 : Int32) &&& 31).toUInt32).toInt32)).toUInt32 >>> ((8 : Int32) &&& 31).toUInt32).toInt32)).toUInt32 >>> ((4 : Int32) &&& 31).toUInt32).toInt32))), .val (.int ((if (if (if x0 < (65536 : Int32) then x0 else ((x0.toUInt32 >>> ((16 : Int32) &&& 31).toUInt32).toInt32)) < (256 : Int32) then (if x0 < (65536 : Int32) then x0 else ((x0.toUInt32 >>> ((16 : Int32) &&& 31).toUInt32).toInt32)) else (((if x0 < (65536 : Int32) then x0 else ((x0.toUInt32 >>> ((16 : Int32) &&& 31).toUInt32).toInt32)).toUInt32 >>> ((8 : Int32) &&& 31).toUInt32).toInt32)) < (16 : Int32) then (if (if x0 < (65536 : Int32) then x0 else ((x0.toUInt32 >>> ((16 : Int32) &&& 31).toUInt32).toInt32)) < (256 : Int32) then (if x0 < (65536 : Int32) then (31 : Int32) else (15 : Int32)) else ((if x0 < (65536 : Int32) then (31 : Int32) else (15 : Int32)) + (-8 : Int32))) else ((if (if x0 < (65536 : Int32) then x0 else ((x0.toUInt32 >>> ((16 : Int32) &&& 31).toUInt32).toInt32)) < (256 : Int32) then (if x0 < (65536 : Int32) then (31 : Int32) else (15 : Int32)) else ((if x0 < (65536 : Int32) then (31 : Int32) else (15 : Int32)) + (-8 : Int32))) + (-4 : Int32))) + (-2 : Int32)))]) rfl (?_ : Steps p.tables e below (s₁.setTop (mkF m 69 #[.val (.int (if (if (if x0 < (65536 : Int32) then x0 else ((x0.toUInt32 >>> ((16 : Int32) &&& 31).toUInt32).toInt32)) < (256 : Int32) then (if x0 < (65536 : Int32) then x0 else ((x0.toUInt32 >>> ((16 : Int32) &&& 31).toUInt32).toInt32)) else (((if x0 < (65536 : Int32) then x0 else ((x0.toUInt32 >>> ((16 : Int32) &&& 31).toUInt32).toInt32)).toUInt32 >>> ((8 : Int32) &&& 31).toUInt32).toInt32)) < (16 : Int32) then (if (if x0 < (65536 : Int32) then x0 else ((x0.toUInt32 >>> ((16 : Int32) &&& 31).toUInt32).toInt32)) < (256 : Int32) then (if x0 < (65536 : Int32) then x0 else ((x0.toUInt32 >>> ((16 : Int32) &&& 31).toUInt32).toInt32)) else (((if x0 < (65536 : Int32) then x0 else ((x0.toUInt32 >>> ((16 : Int32) &&& 31).toUInt32).toInt32)).toUInt32 >>> ((8 : Int32) &&& 31).toUInt32).toInt32)) else (((if (if x0 < (65536 : Int32) then x0 else ((x0.toUInt32 >>> ((16 : Int32) &&& 31).toUInt32).toInt32)) < (256 : Int32) then (if x0 < (65536 : Int32) then x0 else ((x0.toUInt32 >>> ((16 : Int32) &&& 31).toUInt32).toInt32)) else (((if x0 < (65536 : Int32) then x0 else ((x0.toUInt32 >>> ((16 : Int32) &&& 31).toUInt32).toInt32)).toUInt32 >>> ((8 : Int32) &&& 31).toUInt32).toInt32)).toUInt32 >>> ((4 : Int32) &&& 31).toUInt32).toInt32))), .val (.int ((if (if (if x0 < (65536 : Int32) then x0 else ((x0.toUInt32 >>> ((16 : Int32) &&& 31).toUInt32).toInt32)) < (256 : Int32) then (if x0 < (65536 : Int32) then x0 else ((x0.toUInt32 >>> ((16 : Int32) &&& 31).toUInt32).toInt32)) else (((if x0 < (65536 : Int32) then x0 else ((x0.toUInt32 >>> ((16 : Int32) &&& 31).toUInt32).toInt32)).toUInt32 >>> ((8 : Int32) &&& 31).toUInt32).toInt32)) < (16 : Int32) then (if (if x0 < (65536 : Int32) then x0 else ((x0.toUInt32 >>> ((16 : Int32) &&& 31).toUInt32).toInt32)) < (256 : Int32) then (if x0 < (65536 : Int32) then (31 : Int32) else (15 : Int32)) else ((if x0 < (65536 : Int32) then (31 : Int32) else (15 : Int32)) + (-8 : Int32))) else ((if (if x0 < (65536 : Int32) then x0 else ((x0.toUInt32 >>> ((16 : Int32) &&& 31).toUInt32).toInt32)) < (256 : Int32) then (if x0 < (65536 : Int32) then (31 : Int32) else (15 : Int32)) else ((if x0 < (65536 : Int32) then (31 : Int32) else (15 : Int32)) + (-8 : Int32))) + (-4 : Int32))) + (-2 : Int32)))] [])) _)
        refine XS.iloadN X0.here hx rfl (hb hby d12_69) rfl (?_ : Steps p.tables e below (s₁.setTop (mkF m 70 #[.val (.int (if (if (if x0 < (65536 : Int32) then x0 else ((x0.toUInt32 >>> ((16 : Int32) &&& 31).toUInt32).toInt32)) < (256 : Int32) then (if x0 < (65536 : Int32) then x0 else ((x0.toUInt32 >>> ((16 : Int32) &&& 31).toUInt32).toInt32)) else (((if x0 < (65536 : Int32) then x0 else ((x0.toUInt32 >>> ((16 : Int32) &&& 31).toUInt32).toInt32)).toUInt32 >>> ((8 : Int32) &&& 31).toUInt32).toInt32)) < (16 : Int32) then (if (if x0 < (65536 : Int32) then x0 else ((x0.toUInt32 >>> ((16 : Int32) &&& 31).toUInt32).toInt32)) < (256 : Int32) then (if x0 < (65536 : Int32) then x0 else ((x0.toUInt32 >>> ((16 : Int32) &&& 31).toUInt32).toInt32)) else (((if x0 < (65536 : Int32) then x0 else ((x0.toUInt32 >>> ((16 : Int32) &&& 31).toUInt32).toInt32)).toUInt32 >>> ((8 : Int32) &&& 31).toUInt32).toInt32)) else (((if (if x0 < (65536 : Int32) then x0 else ((x0.toUInt32 >>> ((16 : Int32) &&& 31).toUInt32).toInt32)) < (256 : Int32) then (if x0 < (65536 : Int32) then x0 else ((x0.toUInt32 >>> ((16 : Int32) &&& 31).toUInt32).toInt32)) else (((if x0 < (65536 : Int32) then x0 else ((x0.toUInt32 >>> ((16 : Int32) &&& 31).toUInt32).toInt32)).toUInt32 >>> ((8 : Int32) &&& 31).toUInt32).toInt32)).toUInt32 >>> ((4 : Int32) &&& 31).toUInt32).toInt32))), .val (.int ((if (if (if x0 < (65536 : Int32) then x0 else ((x0.toUInt32 >>> ((16 : Int32) &&& 31).toUInt32).toInt32)) < (256 : Int32) then (if x0 < (65536 : Int32) then x0 else ((x0.toUInt32 >>> ((16 : Int32) &&& 31).toUInt32).toInt32)) else (((if x0 < (65536 : Int32) then x0 else ((x0.toUInt32 >>> ((16 : Int32) &&& 31).toUInt32).toInt32)).toUInt32 >>> ((8 : Int32) &&& 31).toUInt32).toInt32)) < (16 : Int32) then (if (if x0 < (65536 : Int32) then x0 else ((x0.toUInt32 >>> ((16 : Int32) &&& 31).toUInt32).toInt32)) < (256 : Int32) then (if x0 < (65536 : Int32) then (31 : Int32) else (15 : Int32)) else ((if x0 < (65536 : Int32) then (31 : Int32) else (15 : Int32)) + (-8 : Int32))) else ((if (if x0 < (65536 : Int32) then x0 else ((x0.toUInt32 >>> ((16 : Int32) &&& 31).toUInt32).toInt32)) < (256 : Int32) then (if x0 < (65536 : Int32) then (31 : Int32) else (15 : Int32)) else ((if x0 < (65536 : Int32) then (31 : Int32) else (15 : Int32)) + (-8 : Int32))) + (-4 : Int32))) + (-2 : Int32)))] [(.int (if (if (if x0 < (65536 : Int32) then x0 else ((x0.toUInt32 >>> ((16 : Int32) &&& 31).toUInt32).toInt32)) < (256 : Int32) then (if x0 < (65536 : Int32) then x0 else ((x0.toUInt32 >>> ((16 : Int32) &&& 31).toUInt32).toInt32)) else (((if x0 < (65536 : Int32) then x0 else ((x0.toUInt32 >>> ((16 : Int32) &&& 31).toUInt32).toInt32)).toUInt32 >>> ((8 : Int32) &&& 31).toUInt32).toInt32)) < (16 : Int32) then (if (if x0 < (65536 : Int32) then x0 else ((x0.toUInt32 >>> ((16 : Int32) &&& 31).toUInt32).toInt32)) < (256 : Int32) then (if x0 < (65536 : Int32) then x0 else ((x0.toUInt32 >>> ((16 : Int32) &&& 31).toUInt32).toInt32)) else (((if x0 < (65536 : Int32) then x0 else ((x0.toUInt32 >>> ((16 : Int32) &&& 31).toUInt32).toInt32)).toUInt32 >>> ((8 : Int32) &&& 31).toUInt32).toInt32)) else (((if (if x0 < (65536 : Int32) then x0 else ((x0.toUInt32 >>> ((16 : Int32) &&& 31).toUInt32).toInt32)) < (256 : Int32) then (if x0 < (65536 : Int32) then x0 else ((x0.toUInt32 >>> ((16 : Int32) &&& 31).toUInt32).toInt32)) else (((if x0 < (65536 : Int32) then x0 else ((x0.toUInt32 >>> ((16 : Int32) &&& 31).toUInt32).toInt32)).toUInt32 >>> ((8 : Int32) &&& 31).toUInt32).toInt32)).toUInt32 >>> ((4 : Int32) &&& 31).toUInt32).toInt32)))])) _)
        refine XS.iconst X0.here hx rfl (hb hby d12_70) (?_ : Steps p.tables e below (s₁.setTop (mkF m 71 #[.val (.int (if (if (if x0 < (65536 : Int32) then x0 else ((x0.toUInt32 >>> ((16 : Int32) &&& 31).toUInt32).toInt32)) < (256 : Int32) then (if x0 < (65536 : Int32) then x0 else ((x0.toUInt32 >>> ((16 : Int32) &&& 31).toUInt32).toInt32)) else (((if x0 < (65536 : Int32) then x0 else ((x0.toUInt32 >>> ((16 : Int32) &&& 31).toUInt32).toInt32)).toUInt32 >>> ((8 : Int32) &&& 31).toUInt32).toInt32)) < (16 : Int32) then (if (if x0 < (65536 : Int32) then x0 else ((x0.toUInt32 >>> ((16 : Int32) &&& 31).toUInt32).toInt32)) < (256 : Int32) then (if x0 < (65536 : Int32) then x0 else ((x0.toUInt32 >>> ((16 : Int32) &&& 31).toUInt32).toInt32)) else (((if x0 < (65536 : Int32) then x0 else ((x0.toUInt32 >>> ((16 : Int32) &&& 31).toUInt32).toInt32)).toUInt32 >>> ((8 : Int32) &&& 31).toUInt32).toInt32)) else (((if (if x0 < (65536 : Int32) then x0 else ((x0.toUInt32 >>> ((16 : Int32) &&& 31).toUInt32).toInt32)) < (256 : Int32) then (if x0 < (65536 : Int32) then x0 else ((x0.toUInt32 >>> ((16 : Int32) &&& 31).toUInt32).toInt32)) else (((if x0 < (65536 : Int32) then x0 else ((x0.toUInt32 >>> ((16 : Int32) &&& 31).toUInt32).toInt32)).toUInt32 >>> ((8 : Int32) &&& 31).toUInt32).toInt32)).toUInt32 >>> ((4 : Int32) &&& 31).toUInt32).toInt32))), .val (.int ((if (if (if x0 < (65536 : Int32) then x0 else ((x0.toUInt32 >>> ((16 : Int32) &&& 31).toUInt32).toInt32)) < (256 : Int32) then (if x0 < (65536 : Int32) then x0 else ((x0.toUInt32 >>> ((16 : Int32) &&& 31).toUInt32).toInt32)) else (((if x0 < (65536 : Int32) then x0 else ((x0.toUInt32 >>> ((16 : Int32) &&& 31).toUInt32).toInt32)).toUInt32 >>> ((8 : Int32) &&& 31).toUInt32).toInt32)) < (16 : Int32) then (if (if x0 < (65536 : Int32) then x0 else ((x0.toUInt32 >>> ((16 : Int32) &&& 31).toUInt32).toInt32)) < (256 : Int32) then (if x0 < (65536 : Int32) then (31 : Int32) else (15 : Int32)) else ((if x0 < (65536 : Int32) then (31 : Int32) else (15 : Int32)) + (-8 : Int32))) else ((if (if x0 < (65536 : Int32) then x0 else ((x0.toUInt32 >>> ((16 : Int32) &&& 31).toUInt32).toInt32)) < (256 : Int32) then (if x0 < (65536 : Int32) then (31 : Int32) else (15 : Int32)) else ((if x0 < (65536 : Int32) then (31 : Int32) else (15 : Int32)) + (-8 : Int32))) + (-4 : Int32))) + (-2 : Int32)))] [(.int (2 : Int32)), (.int (if (if (if x0 < (65536 : Int32) then x0 else ((x0.toUInt32 >>> ((16 : Int32) &&& 31).toUInt32).toInt32)) < (256 : Int32) then (if x0 < (65536 : Int32) then x0 else ((x0.toUInt32 >>> ((16 : Int32) &&& 31).toUInt32).toInt32)) else (((if x0 < (65536 : Int32) then x0 else ((x0.toUInt32 >>> ((16 : Int32) &&& 31).toUInt32).toInt32)).toUInt32 >>> ((8 : Int32) &&& 31).toUInt32).toInt32)) < (16 : Int32) then (if (if x0 < (65536 : Int32) then x0 else ((x0.toUInt32 >>> ((16 : Int32) &&& 31).toUInt32).toInt32)) < (256 : Int32) then (if x0 < (65536 : Int32) then x0 else ((x0.toUInt32 >>> ((16 : Int32) &&& 31).toUInt32).toInt32)) else (((if x0 < (65536 : Int32) then x0 else ((x0.toUInt32 >>> ((16 : Int32) &&& 31).toUInt32).toInt32)).toUInt32 >>> ((8 : Int32) &&& 31).toUInt32).toInt32)) else (((if (if x0 < (65536 : Int32) then x0 else ((x0.toUInt32 >>> ((16 : Int32) &&& 31).toUInt32).toInt32)) < (256 : Int32) then (if x0 < (65536 : Int32) then x0 else ((x0.toUInt32 >>> ((16 : Int32) &&& 31).toUInt32).toInt32)) else (((if x0 < (65536 : Int32) then x0 else ((x0.toUInt32 >>> ((16 : Int32) &&& 31).toUInt32).toInt32)).toUInt32 >>> ((8 : Int32) &&& 31).toUInt32).toInt32)).toUInt32 >>> ((4 : Int32) &&& 31).toUInt32).toInt32)))])) _)
        refine XS.iushr X0.here hx rfl (hb hby d12_71) rfl (?_ : Steps p.tables e below (s₁.setTop (mkF m 72 #[.val (.int (if (if (if x0 < (65536 : Int32) then x0 else ((x0.toUInt32 >>> ((16 : Int32) &&& 31).toUInt32).toInt32)) < (256 : Int32) then (if x0 < (65536 : Int32) then x0 else ((x0.toUInt32 >>> ((16 : Int32) &&& 31).toUInt32).toInt32)) else (((if x0 < (65536 : Int32) then x0 else ((x0.toUInt32 >>> ((16 : Int32) &&& 31).toUInt32).toInt32)).toUInt32 >>> ((8 : Int32) &&& 31).toUInt32).toInt32)) < (16 : Int32) then (if (if x0 < (65536 : Int32) then x0 else ((x0.toUInt32 >>> ((16 : Int32) &&& 31).toUInt32).toInt32)) < (256 : Int32) then (if x0 < (65536 : Int32) then x0 else ((x0.toUInt32 >>> ((16 : Int32) &&& 31).toUInt32).toInt32)) else (((if x0 < (65536 : Int32) then x0 else ((x0.toUInt32 >>> ((16 : Int32) &&& 31).toUInt32).toInt32)).toUInt32 >>> ((8 : Int32) &&& 31).toUInt32).toInt32)) else (((if (if x0 < (65536 : Int32) then x0 else ((x0.toUInt32 >>> ((16 : Int32) &&& 31).toUInt32).toInt32)) < (256 : Int32) then (if x0 < (65536 : Int32) then x0 else ((x0.toUInt32 >>> ((16 : Int32) &&& 31).toUInt32).toInt32)) else (((if x0 < (65536 : Int32) then x0 else ((x0.toUInt32 >>> ((16 : Int32) &&& 31).toUInt32).toInt32)).toUInt32 >>> ((8 : Int32) &&& 31).toUInt32).toInt32)).toUInt32 >>> ((4 : Int32) &&& 31).toUInt32).toInt32))), .val (.int ((if (if (if x0 < (65536 : Int32) then x0 else ((x0.toUInt32 >>> ((16 : Int32) &&& 31).toUInt32).toInt32)) < (256 : Int32) then (if x0 < (65536 : Int32) then x0 else ((x0.toUInt32 >>> ((16 : Int32) &&& 31).toUInt32).toInt32)) else (((if x0 < (65536 : Int32) then x0 else ((x0.toUInt32 >>> ((16 : Int32) &&& 31).toUInt32).toInt32)).toUInt32 >>> ((8 : Int32) &&& 31).toUInt32).toInt32)) < (16 : Int32) then (if (if x0 < (65536 : Int32) then x0 else ((x0.toUInt32 >>> ((16 : Int32) &&& 31).toUInt32).toInt32)) < (256 : Int32) then (if x0 < (65536 : Int32) then (31 : Int32) else (15 : Int32)) else ((if x0 < (65536 : Int32) then (31 : Int32) else (15 : Int32)) + (-8 : Int32))) else ((if (if x0 < (65536 : Int32) then x0 else ((x0.toUInt32 >>> ((16 : Int32) &&& 31).toUInt32).toInt32)) < (256 : Int32) then (if x0 < (65536 : Int32) then (31 : Int32) else (15 : Int32)) else ((if x0 < (65536 : Int32) then (31 : Int32) else (15 : Int32)) + (-8 : Int32))) + (-4 : Int32))) + (-2 : Int32)))] [(.int (((if (if (if x0 < (65536 : Int32) then x0 else ((x0.toUInt32 >>> ((16 : Int32) &&& 31).toUInt32).toInt32)) < (256 : Int32) then (if x0 < (65536 : Int32) then x0 else ((x0.toUInt32 >>> ((16 : Int32) &&& 31).toUInt32).toInt32)) else (((if x0 < (65536 : Int32) then x0 else ((x0.toUInt32 >>> ((16 : Int32) &&& 31).toUInt32).toInt32)).toUInt32 >>> ((8 : Int32) &&& 31).toUInt32).toInt32)) < (16 : Int32) then (if (if x0 < (65536 : Int32) then x0 else ((x0.toUInt32 >>> ((16 : Int32) &&& 31).toUInt32).toInt32)) < (256 : Int32) then (if x0 < (65536 : Int32) then x0 else ((x0.toUInt32 >>> ((16 : Int32) &&& 31).toUInt32).toInt32)) else (((if x0 < (65536 : Int32) then x0 else ((x0.toUInt32 >>> ((16 : Int32) &&& 31).toUInt32).toInt32)).toUInt32 >>> ((8 : Int32) &&& 31).toUInt32).toInt32)) else (((if (if x0 < (65536 : Int32) then x0 else ((x0.toUInt32 >>> ((16 : Int32) &&& 31).toUInt32).toInt32)) < (256 : Int32) then (if x0 < (65536 : Int32) then x0 else ((x0.toUInt32 >>> ((16 : Int32) &&& 31).toUInt32).toInt32)) else (((if x0 < (65536 : Int32) then x0 else ((x0.toUInt32 >>> ((16 : Int32) &&& 31).toUInt32).toInt32)).toUInt32 >>> ((8 : Int32) &&& 31).toUInt32).toInt32)).toUInt32 >>> ((4 : Int32) &&& 31).toUInt32).toInt32)).toUInt32 >>> ((2 : Int32) &&& 31).toUInt32).toInt32))])) _)
        refine XS.istoreN X0.here hx rfl (hb hby d12_72) rfl (l' := #[.val (.int (((if (if (if x0 < (65536 : Int32) then x0 else ((x0.toUInt32 >>> ((16 : Int32) &&& 31).toUInt32).toInt32)) < (256 : Int32) then (if x0 < (65536 : Int32) then x0 else ((x0.toUInt32 >>> ((16 : Int32) &&& 31).toUInt32).toInt32)) else (((if x0 < (65536 : Int32) then x0 else ((x0.toUInt32 >>> ((16 : Int32) &&& 31).toUInt32).toInt32)).toUInt32 >>> ((8 : Int32) &&& 31).toUInt32).toInt32)) < (16 : Int32) then (if (if x0 < (65536 : Int32) then x0 else ((x0.toUInt32 >>> ((16 : Int32) &&& 31).toUInt32).toInt32)) < (256 : Int32) then (if x0 < (65536 : Int32) then x0 else ((x0.toUInt32 >>> ((16 : Int32) &&& 31).toUInt32).toInt32)) else (((if x0 < (65536 : Int32) then x0 else ((x0.toUInt32 >>> ((16 : Int32) &&& 31).toUInt32).toInt32)).toUInt32 >>> ((8 : Int32) &&& 31).toUInt32).toInt32)) else (((if (if x0 < (65536 : Int32) then x0 else ((x0.toUInt32 >>> ((16 : Int32) &&& 31).toUInt32).toInt32)) < (256 : Int32) then (if x0 < (65536 : Int32) then x0 else ((x0.toUInt32 >>> ((16 : Int32) &&& 31).toUInt32).toInt32)) else (((if x0 < (65536 : Int32) then x0 else ((x0.toUInt32 >>> ((16 : Int32) &&& 31).toUInt32).toInt32)).toUInt32 >>> ((8 : Int32) &&& 31).toUInt32).toInt32)).toUInt32 >>> ((4 : Int32) &&& 31).toUInt32).toInt32)).toUInt32 >>> ((2 : Int32) &&& 31).toUInt32).toInt32)), .val (.int ((if (if (if x0 < (65536 : Int32) then x0 else ((x0.toUInt32 >>> ((16 : Int32) &&& 31).toUInt32).toInt32)) < (256 : Int32) then (if x0 < (65536 : Int32) then x0 else ((x0.toUInt32 >>> ((16 : Int32) &&& 31).toUInt32).toInt32)) else (((if x0 < (65536 : Int32) then x0 else ((x0.toUInt32 >>> ((16 : Int32) &&& 31).toUInt32).toInt32)).toUInt32 >>> ((8 : Int32) &&& 31).toUInt32).toInt32)) < (16 : Int32) then (if (if x0 < (65536 : Int32) then x0 else ((x0.toUInt32 >>> ((16 : Int32) &&& 31).toUInt32).toInt32)) < (256 : Int32) then (if x0 < (65536 : Int32) then (31 : Int32) else (15 : Int32)) else ((if x0 < (65536 : Int32) then (31 : Int32) else (15 : Int32)) + (-8 : Int32))) else ((if (if x0 < (65536 : Int32) then x0 else ((x0.toUInt32 >>> ((16 : Int32) &&& 31).toUInt32).toInt32)) < (256 : Int32) then (if x0 < (65536 : Int32) then (31 : Int32) else (15 : Int32)) else ((if x0 < (65536 : Int32) then (31 : Int32) else (15 : Int32)) + (-8 : Int32))) + (-4 : Int32))) + (-2 : Int32)))]) rfl (?_ : Steps p.tables e below (s₁.setTop (mkF m 73 #[.val (.int (((if (if (if x0 < (65536 : Int32) then x0 else ((x0.toUInt32 >>> ((16 : Int32) &&& 31).toUInt32).toInt32)) < (256 : Int32) then (if x0 < (65536 : Int32) then x0 else ((x0.toUInt32 >>> ((16 : Int32) &&& 31).toUInt32).toInt32)) else (((if x0 < (65536 : Int32) then x0 else ((x0.toUInt32 >>> ((16 : Int32) &&& 31).toUInt32).toInt32)).toUInt32 >>> ((8 : Int32) &&& 31).toUInt32).toInt32)) < (16 : Int32) then (if (if x0 < (65536 : Int32) then x0 else ((x0.toUInt32 >>> ((16 : Int32) &&& 31).toUInt32).toInt32)) < (256 : Int32) then (if x0 < (65536 : Int32) then x0 else ((x0.toUInt32 >>> ((16 : Int32) &&& 31).toUInt32).toInt32)) else (((if x0 < (65536 : Int32) then x0 else ((x0.toUInt32 >>> ((16 : Int32) &&& 31).toUInt32).toInt32)).toUInt32 >>> ((8 : Int32) &&& 31).toUInt32).toInt32)) else (((if (if x0 < (65536 : Int32) then x0 else ((x0.toUInt32 >>> ((16 : Int32) &&& 31).toUInt32).toInt32)) < (256 : Int32) then (if x0 < (65536 : Int32) then x0 else ((x0.toUInt32 >>> ((16 : Int32) &&& 31).toUInt32).toInt32)) else (((if x0 < (65536 : Int32) then x0 else ((x0.toUInt32 >>> ((16 : Int32) &&& 31).toUInt32).toInt32)).toUInt32 >>> ((8 : Int32) &&& 31).toUInt32).toInt32)).toUInt32 >>> ((4 : Int32) &&& 31).toUInt32).toInt32)).toUInt32 >>> ((2 : Int32) &&& 31).toUInt32).toInt32)), .val (.int ((if (if (if x0 < (65536 : Int32) then x0 else ((x0.toUInt32 >>> ((16 : Int32) &&& 31).toUInt32).toInt32)) < (256 : Int32) then (if x0 < (65536 : Int32) then x0 else ((x0.toUInt32 >>> ((16 : Int32) &&& 31).toUInt32).toInt32)) else (((if x0 < (65536 : Int32) then x0 else ((x0.toUInt32 >>> ((16 : Int32) &&& 31).toUInt32).toInt32)).toUInt32 >>> ((8 : Int32) &&& 31).toUInt32).toInt32)) < (16 : Int32) then (if (if x0 < (65536 : Int32) then x0 else ((x0.toUInt32 >>> ((16 : Int32) &&& 31).toUInt32).toInt32)) < (256 : Int32) then (if x0 < (65536 : Int32) then (31 : Int32) else (15 : Int32)) else ((if x0 < (65536 : Int32) then (31 : Int32) else (15 : Int32)) + (-8 : Int32))) else ((if (if x0 < (65536 : Int32) then x0 else ((x0.toUInt32 >>> ((16 : Int32) &&& 31).toUInt32).toInt32)) < (256 : Int32) then (if x0 < (65536 : Int32) then (31 : Int32) else (15 : Int32)) else ((if x0 < (65536 : Int32) then (31 : Int32) else (15 : Int32)) + (-8 : Int32))) + (-4 : Int32))) + (-2 : Int32)))] [])) _)
        simpa only [if_neg hc5] using k
    refine own_step (st' := s₁.setTop (mkF m 74 #[.val (.int (if (if (if (if x0 < (65536 : Int32) then x0 else ((x0.toUInt32 >>> ((16 : Int32) &&& 31).toUInt32).toInt32)) < (256 : Int32) then (if x0 < (65536 : Int32) then x0 else ((x0.toUInt32 >>> ((16 : Int32) &&& 31).toUInt32).toInt32)) else (((if x0 < (65536 : Int32) then x0 else ((x0.toUInt32 >>> ((16 : Int32) &&& 31).toUInt32).toInt32)).toUInt32 >>> ((8 : Int32) &&& 31).toUInt32).toInt32)) < (16 : Int32) then (if (if x0 < (65536 : Int32) then x0 else ((x0.toUInt32 >>> ((16 : Int32) &&& 31).toUInt32).toInt32)) < (256 : Int32) then (if x0 < (65536 : Int32) then x0 else ((x0.toUInt32 >>> ((16 : Int32) &&& 31).toUInt32).toInt32)) else (((if x0 < (65536 : Int32) then x0 else ((x0.toUInt32 >>> ((16 : Int32) &&& 31).toUInt32).toInt32)).toUInt32 >>> ((8 : Int32) &&& 31).toUInt32).toInt32)) else (((if (if x0 < (65536 : Int32) then x0 else ((x0.toUInt32 >>> ((16 : Int32) &&& 31).toUInt32).toInt32)) < (256 : Int32) then (if x0 < (65536 : Int32) then x0 else ((x0.toUInt32 >>> ((16 : Int32) &&& 31).toUInt32).toInt32)) else (((if x0 < (65536 : Int32) then x0 else ((x0.toUInt32 >>> ((16 : Int32) &&& 31).toUInt32).toInt32)).toUInt32 >>> ((8 : Int32) &&& 31).toUInt32).toInt32)).toUInt32 >>> ((4 : Int32) &&& 31).toUInt32).toInt32)) < (4 : Int32) then (if (if (if x0 < (65536 : Int32) then x0 else ((x0.toUInt32 >>> ((16 : Int32) &&& 31).toUInt32).toInt32)) < (256 : Int32) then (if x0 < (65536 : Int32) then x0 else ((x0.toUInt32 >>> ((16 : Int32) &&& 31).toUInt32).toInt32)) else (((if x0 < (65536 : Int32) then x0 else ((x0.toUInt32 >>> ((16 : Int32) &&& 31).toUInt32).toInt32)).toUInt32 >>> ((8 : Int32) &&& 31).toUInt32).toInt32)) < (16 : Int32) then (if (if x0 < (65536 : Int32) then x0 else ((x0.toUInt32 >>> ((16 : Int32) &&& 31).toUInt32).toInt32)) < (256 : Int32) then (if x0 < (65536 : Int32) then x0 else ((x0.toUInt32 >>> ((16 : Int32) &&& 31).toUInt32).toInt32)) else (((if x0 < (65536 : Int32) then x0 else ((x0.toUInt32 >>> ((16 : Int32) &&& 31).toUInt32).toInt32)).toUInt32 >>> ((8 : Int32) &&& 31).toUInt32).toInt32)) else (((if (if x0 < (65536 : Int32) then x0 else ((x0.toUInt32 >>> ((16 : Int32) &&& 31).toUInt32).toInt32)) < (256 : Int32) then (if x0 < (65536 : Int32) then x0 else ((x0.toUInt32 >>> ((16 : Int32) &&& 31).toUInt32).toInt32)) else (((if x0 < (65536 : Int32) then x0 else ((x0.toUInt32 >>> ((16 : Int32) &&& 31).toUInt32).toInt32)).toUInt32 >>> ((8 : Int32) &&& 31).toUInt32).toInt32)).toUInt32 >>> ((4 : Int32) &&& 31).toUInt32).toInt32)) else (((if (if (if x0 < (65536 : Int32) then x0 else ((x0.toUInt32 >>> ((16 : Int32) &&& 31).toUInt32).toInt32)) < (256 : Int32) then (if x0 < (65536 : Int32) then x0 else ((x0.toUInt32 >>> ((16 : Int32) &&& 31).toUInt32).toInt32)) else (((if x0 < (65536 : Int32) then x0 else ((x0.toUInt32 >>> ((16 : Int32) &&& 31).toUInt32).toInt32)).toUInt32 >>> ((8 : Int32) &&& 31).toUInt32).toInt32)) < (16 : Int32) then (if (if x0 < (65536 : Int32) then x0 else ((x0.toUInt32 >>> ((16 : Int32) &&& 31).toUInt32).toInt32)) < (256 : Int32) then (if x0 < (65536 : Int32) then x0 else ((x0.toUInt32 >>> ((16 : Int32) &&& 31).toUInt32).toInt32)) else (((if x0 < (65536 : Int32) then x0 else ((x0.toUInt32 >>> ((16 : Int32) &&& 31).toUInt32).toInt32)).toUInt32 >>> ((8 : Int32) &&& 31).toUInt32).toInt32)) else (((if (if x0 < (65536 : Int32) then x0 else ((x0.toUInt32 >>> ((16 : Int32) &&& 31).toUInt32).toInt32)) < (256 : Int32) then (if x0 < (65536 : Int32) then x0 else ((x0.toUInt32 >>> ((16 : Int32) &&& 31).toUInt32).toInt32)) else (((if x0 < (65536 : Int32) then x0 else ((x0.toUInt32 >>> ((16 : Int32) &&& 31).toUInt32).toInt32)).toUInt32 >>> ((8 : Int32) &&& 31).toUInt32).toInt32)).toUInt32 >>> ((4 : Int32) &&& 31).toUInt32).toInt32)).toUInt32 >>> ((2 : Int32) &&& 31).toUInt32).toInt32))), .val (.int (if (if (if (if x0 < (65536 : Int32) then x0 else ((x0.toUInt32 >>> ((16 : Int32) &&& 31).toUInt32).toInt32)) < (256 : Int32) then (if x0 < (65536 : Int32) then x0 else ((x0.toUInt32 >>> ((16 : Int32) &&& 31).toUInt32).toInt32)) else (((if x0 < (65536 : Int32) then x0 else ((x0.toUInt32 >>> ((16 : Int32) &&& 31).toUInt32).toInt32)).toUInt32 >>> ((8 : Int32) &&& 31).toUInt32).toInt32)) < (16 : Int32) then (if (if x0 < (65536 : Int32) then x0 else ((x0.toUInt32 >>> ((16 : Int32) &&& 31).toUInt32).toInt32)) < (256 : Int32) then (if x0 < (65536 : Int32) then x0 else ((x0.toUInt32 >>> ((16 : Int32) &&& 31).toUInt32).toInt32)) else (((if x0 < (65536 : Int32) then x0 else ((x0.toUInt32 >>> ((16 : Int32) &&& 31).toUInt32).toInt32)).toUInt32 >>> ((8 : Int32) &&& 31).toUInt32).toInt32)) else (((if (if x0 < (65536 : Int32) then x0 else ((x0.toUInt32 >>> ((16 : Int32) &&& 31).toUInt32).toInt32)) < (256 : Int32) then (if x0 < (65536 : Int32) then x0 else ((x0.toUInt32 >>> ((16 : Int32) &&& 31).toUInt32).toInt32)) else (((if x0 < (65536 : Int32) then x0 else ((x0.toUInt32 >>> ((16 : Int32) &&& 31).toUInt32).toInt32)).toUInt32 >>> ((8 : Int32) &&& 31).toUInt32).toInt32)).toUInt32 >>> ((4 : Int32) &&& 31).toUInt32).toInt32)) < (4 : Int32) then (if (if (if x0 < (65536 : Int32) then x0 else ((x0.toUInt32 >>> ((16 : Int32) &&& 31).toUInt32).toInt32)) < (256 : Int32) then (if x0 < (65536 : Int32) then x0 else ((x0.toUInt32 >>> ((16 : Int32) &&& 31).toUInt32).toInt32)) else (((if x0 < (65536 : Int32) then x0 else ((x0.toUInt32 >>> ((16 : Int32) &&& 31).toUInt32).toInt32)).toUInt32 >>> ((8 : Int32) &&& 31).toUInt32).toInt32)) < (16 : Int32) then (if (if x0 < (65536 : Int32) then x0 else ((x0.toUInt32 >>> ((16 : Int32) &&& 31).toUInt32).toInt32)) < (256 : Int32) then (if x0 < (65536 : Int32) then (31 : Int32) else (15 : Int32)) else ((if x0 < (65536 : Int32) then (31 : Int32) else (15 : Int32)) + (-8 : Int32))) else ((if (if x0 < (65536 : Int32) then x0 else ((x0.toUInt32 >>> ((16 : Int32) &&& 31).toUInt32).toInt32)) < (256 : Int32) then (if x0 < (65536 : Int32) then (31 : Int32) else (15 : Int32)) else ((if x0 < (65536 : Int32) then (31 : Int32) else (15 : Int32)) + (-8 : Int32))) + (-4 : Int32))) else ((if (if (if x0 < (65536 : Int32) then x0 else ((x0.toUInt32 >>> ((16 : Int32) &&& 31).toUInt32).toInt32)) < (256 : Int32) then (if x0 < (65536 : Int32) then x0 else ((x0.toUInt32 >>> ((16 : Int32) &&& 31).toUInt32).toInt32)) else (((if x0 < (65536 : Int32) then x0 else ((x0.toUInt32 >>> ((16 : Int32) &&& 31).toUInt32).toInt32)).toUInt32 >>> ((8 : Int32) &&& 31).toUInt32).toInt32)) < (16 : Int32) then (if (if x0 < (65536 : Int32) then x0 else ((x0.toUInt32 >>> ((16 : Int32) &&& 31).toUInt32).toInt32)) < (256 : Int32) then (if x0 < (65536 : Int32) then (31 : Int32) else (15 : Int32)) else ((if x0 < (65536 : Int32) then (31 : Int32) else (15 : Int32)) + (-8 : Int32))) else ((if (if x0 < (65536 : Int32) then x0 else ((x0.toUInt32 >>> ((16 : Int32) &&& 31).toUInt32).toInt32)) < (256 : Int32) then (if x0 < (65536 : Int32) then (31 : Int32) else (15 : Int32)) else ((if x0 < (65536 : Int32) then (31 : Int32) else (15 : Int32)) + (-8 : Int32))) + (-4 : Int32))) + (-2 : Int32))))] [(.int (if (if (if (if x0 < (65536 : Int32) then x0 else ((x0.toUInt32 >>> ((16 : Int32) &&& 31).toUInt32).toInt32)) < (256 : Int32) then (if x0 < (65536 : Int32) then x0 else ((x0.toUInt32 >>> ((16 : Int32) &&& 31).toUInt32).toInt32)) else (((if x0 < (65536 : Int32) then x0 else ((x0.toUInt32 >>> ((16 : Int32) &&& 31).toUInt32).toInt32)).toUInt32 >>> ((8 : Int32) &&& 31).toUInt32).toInt32)) < (16 : Int32) then (if (if x0 < (65536 : Int32) then x0 else ((x0.toUInt32 >>> ((16 : Int32) &&& 31).toUInt32).toInt32)) < (256 : Int32) then (if x0 < (65536 : Int32) then x0 else ((x0.toUInt32 >>> ((16 : Int32) &&& 31).toUInt32).toInt32)) else (((if x0 < (65536 : Int32) then x0 else ((x0.toUInt32 >>> ((16 : Int32) &&& 31).toUInt32).toInt32)).toUInt32 >>> ((8 : Int32) &&& 31).toUInt32).toInt32)) else (((if (if x0 < (65536 : Int32) then x0 else ((x0.toUInt32 >>> ((16 : Int32) &&& 31).toUInt32).toInt32)) < (256 : Int32) then (if x0 < (65536 : Int32) then x0 else ((x0.toUInt32 >>> ((16 : Int32) &&& 31).toUInt32).toInt32)) else (((if x0 < (65536 : Int32) then x0 else ((x0.toUInt32 >>> ((16 : Int32) &&& 31).toUInt32).toInt32)).toUInt32 >>> ((8 : Int32) &&& 31).toUInt32).toInt32)).toUInt32 >>> ((4 : Int32) &&& 31).toUInt32).toInt32)) < (4 : Int32) then (if (if (if x0 < (65536 : Int32) then x0 else ((x0.toUInt32 >>> ((16 : Int32) &&& 31).toUInt32).toInt32)) < (256 : Int32) then (if x0 < (65536 : Int32) then x0 else ((x0.toUInt32 >>> ((16 : Int32) &&& 31).toUInt32).toInt32)) else (((if x0 < (65536 : Int32) then x0 else ((x0.toUInt32 >>> ((16 : Int32) &&& 31).toUInt32).toInt32)).toUInt32 >>> ((8 : Int32) &&& 31).toUInt32).toInt32)) < (16 : Int32) then (if (if x0 < (65536 : Int32) then x0 else ((x0.toUInt32 >>> ((16 : Int32) &&& 31).toUInt32).toInt32)) < (256 : Int32) then (if x0 < (65536 : Int32) then (31 : Int32) else (15 : Int32)) else ((if x0 < (65536 : Int32) then (31 : Int32) else (15 : Int32)) + (-8 : Int32))) else ((if (if x0 < (65536 : Int32) then x0 else ((x0.toUInt32 >>> ((16 : Int32) &&& 31).toUInt32).toInt32)) < (256 : Int32) then (if x0 < (65536 : Int32) then (31 : Int32) else (15 : Int32)) else ((if x0 < (65536 : Int32) then (31 : Int32) else (15 : Int32)) + (-8 : Int32))) + (-4 : Int32))) else ((if (if (if x0 < (65536 : Int32) then x0 else ((x0.toUInt32 >>> ((16 : Int32) &&& 31).toUInt32).toInt32)) < (256 : Int32) then (if x0 < (65536 : Int32) then x0 else ((x0.toUInt32 >>> ((16 : Int32) &&& 31).toUInt32).toInt32)) else (((if x0 < (65536 : Int32) then x0 else ((x0.toUInt32 >>> ((16 : Int32) &&& 31).toUInt32).toInt32)).toUInt32 >>> ((8 : Int32) &&& 31).toUInt32).toInt32)) < (16 : Int32) then (if (if x0 < (65536 : Int32) then x0 else ((x0.toUInt32 >>> ((16 : Int32) &&& 31).toUInt32).toInt32)) < (256 : Int32) then (if x0 < (65536 : Int32) then (31 : Int32) else (15 : Int32)) else ((if x0 < (65536 : Int32) then (31 : Int32) else (15 : Int32)) + (-8 : Int32))) else ((if (if x0 < (65536 : Int32) then x0 else ((x0.toUInt32 >>> ((16 : Int32) &&& 31).toUInt32).toInt32)) < (256 : Int32) then (if x0 < (65536 : Int32) then (31 : Int32) else (15 : Int32)) else ((if x0 < (65536 : Int32) then (31 : Int32) else (15 : Int32)) + (-8 : Int32))) + (-4 : Int32))) + (-2 : Int32))))])) (fun t k => XS.iloadN X0.here hx rfl (hb hby d12_73) rfl k) ?_
    refine own_step (st' := s₁.setTop (mkF m 75 #[.val (.int (if (if (if (if x0 < (65536 : Int32) then x0 else ((x0.toUInt32 >>> ((16 : Int32) &&& 31).toUInt32).toInt32)) < (256 : Int32) then (if x0 < (65536 : Int32) then x0 else ((x0.toUInt32 >>> ((16 : Int32) &&& 31).toUInt32).toInt32)) else (((if x0 < (65536 : Int32) then x0 else ((x0.toUInt32 >>> ((16 : Int32) &&& 31).toUInt32).toInt32)).toUInt32 >>> ((8 : Int32) &&& 31).toUInt32).toInt32)) < (16 : Int32) then (if (if x0 < (65536 : Int32) then x0 else ((x0.toUInt32 >>> ((16 : Int32) &&& 31).toUInt32).toInt32)) < (256 : Int32) then (if x0 < (65536 : Int32) then x0 else ((x0.toUInt32 >>> ((16 : Int32) &&& 31).toUInt32).toInt32)) else (((if x0 < (65536 : Int32) then x0 else ((x0.toUInt32 >>> ((16 : Int32) &&& 31).toUInt32).toInt32)).toUInt32 >>> ((8 : Int32) &&& 31).toUInt32).toInt32)) else (((if (if x0 < (65536 : Int32) then x0 else ((x0.toUInt32 >>> ((16 : Int32) &&& 31).toUInt32).toInt32)) < (256 : Int32) then (if x0 < (65536 : Int32) then x0 else ((x0.toUInt32 >>> ((16 : Int32) &&& 31).toUInt32).toInt32)) else (((if x0 < (65536 : Int32) then x0 else ((x0.toUInt32 >>> ((16 : Int32) &&& 31).toUInt32).toInt32)).toUInt32 >>> ((8 : Int32) &&& 31).toUInt32).toInt32)).toUInt32 >>> ((4 : Int32) &&& 31).toUInt32).toInt32)) < (4 : Int32) then (if (if (if x0 < (65536 : Int32) then x0 else ((x0.toUInt32 >>> ((16 : Int32) &&& 31).toUInt32).toInt32)) < (256 : Int32) then (if x0 < (65536 : Int32) then x0 else ((x0.toUInt32 >>> ((16 : Int32) &&& 31).toUInt32).toInt32)) else (((if x0 < (65536 : Int32) then x0 else ((x0.toUInt32 >>> ((16 : Int32) &&& 31).toUInt32).toInt32)).toUInt32 >>> ((8 : Int32) &&& 31).toUInt32).toInt32)) < (16 : Int32) then (if (if x0 < (65536 : Int32) then x0 else ((x0.toUInt32 >>> ((16 : Int32) &&& 31).toUInt32).toInt32)) < (256 : Int32) then (if x0 < (65536 : Int32) then x0 else ((x0.toUInt32 >>> ((16 : Int32) &&& 31).toUInt32).toInt32)) else (((if x0 < (65536 : Int32) then x0 else ((x0.toUInt32 >>> ((16 : Int32) &&& 31).toUInt32).toInt32)).toUInt32 >>> ((8 : Int32) &&& 31).toUInt32).toInt32)) else (((if (if x0 < (65536 : Int32) then x0 else ((x0.toUInt32 >>> ((16 : Int32) &&& 31).toUInt32).toInt32)) < (256 : Int32) then (if x0 < (65536 : Int32) then x0 else ((x0.toUInt32 >>> ((16 : Int32) &&& 31).toUInt32).toInt32)) else (((if x0 < (65536 : Int32) then x0 else ((x0.toUInt32 >>> ((16 : Int32) &&& 31).toUInt32).toInt32)).toUInt32 >>> ((8 : Int32) &&& 31).toUInt32).toInt32)).toUInt32 >>> ((4 : Int32) &&& 31).toUInt32).toInt32)) else (((if (if (if x0 < (65536 : Int32) then x0 else ((x0.toUInt32 >>> ((16 : Int32) &&& 31).toUInt32).toInt32)) < (256 : Int32) then (if x0 < (65536 : Int32) then x0 else ((x0.toUInt32 >>> ((16 : Int32) &&& 31).toUInt32).toInt32)) else (((if x0 < (65536 : Int32) then x0 else ((x0.toUInt32 >>> ((16 : Int32) &&& 31).toUInt32).toInt32)).toUInt32 >>> ((8 : Int32) &&& 31).toUInt32).toInt32)) < (16 : Int32) then (if (if x0 < (65536 : Int32) then x0 else ((x0.toUInt32 >>> ((16 : Int32) &&& 31).toUInt32).toInt32)) < (256 : Int32) then (if x0 < (65536 : Int32) then x0 else ((x0.toUInt32 >>> ((16 : Int32) &&& 31).toUInt32).toInt32)) else (((if x0 < (65536 : Int32) then x0 else ((x0.toUInt32 >>> ((16 : Int32) &&& 31).toUInt32).toInt32)).toUInt32 >>> ((8 : Int32) &&& 31).toUInt32).toInt32)) else (((if (if x0 < (65536 : Int32) then x0 else ((x0.toUInt32 >>> ((16 : Int32) &&& 31).toUInt32).toInt32)) < (256 : Int32) then (if x0 < (65536 : Int32) then x0 else ((x0.toUInt32 >>> ((16 : Int32) &&& 31).toUInt32).toInt32)) else (((if x0 < (65536 : Int32) then x0 else ((x0.toUInt32 >>> ((16 : Int32) &&& 31).toUInt32).toInt32)).toUInt32 >>> ((8 : Int32) &&& 31).toUInt32).toInt32)).toUInt32 >>> ((4 : Int32) &&& 31).toUInt32).toInt32)).toUInt32 >>> ((2 : Int32) &&& 31).toUInt32).toInt32))), .val (.int (if (if (if (if x0 < (65536 : Int32) then x0 else ((x0.toUInt32 >>> ((16 : Int32) &&& 31).toUInt32).toInt32)) < (256 : Int32) then (if x0 < (65536 : Int32) then x0 else ((x0.toUInt32 >>> ((16 : Int32) &&& 31).toUInt32).toInt32)) else (((if x0 < (65536 : Int32) then x0 else ((x0.toUInt32 >>> ((16 : Int32) &&& 31).toUInt32).toInt32)).toUInt32 >>> ((8 : Int32) &&& 31).toUInt32).toInt32)) < (16 : Int32) then (if (if x0 < (65536 : Int32) then x0 else ((x0.toUInt32 >>> ((16 : Int32) &&& 31).toUInt32).toInt32)) < (256 : Int32) then (if x0 < (65536 : Int32) then x0 else ((x0.toUInt32 >>> ((16 : Int32) &&& 31).toUInt32).toInt32)) else (((if x0 < (65536 : Int32) then x0 else ((x0.toUInt32 >>> ((16 : Int32) &&& 31).toUInt32).toInt32)).toUInt32 >>> ((8 : Int32) &&& 31).toUInt32).toInt32)) else (((if (if x0 < (65536 : Int32) then x0 else ((x0.toUInt32 >>> ((16 : Int32) &&& 31).toUInt32).toInt32)) < (256 : Int32) then (if x0 < (65536 : Int32) then x0 else ((x0.toUInt32 >>> ((16 : Int32) &&& 31).toUInt32).toInt32)) else (((if x0 < (65536 : Int32) then x0 else ((x0.toUInt32 >>> ((16 : Int32) &&& 31).toUInt32).toInt32)).toUInt32 >>> ((8 : Int32) &&& 31).toUInt32).toInt32)).toUInt32 >>> ((4 : Int32) &&& 31).toUInt32).toInt32)) < (4 : Int32) then (if (if (if x0 < (65536 : Int32) then x0 else ((x0.toUInt32 >>> ((16 : Int32) &&& 31).toUInt32).toInt32)) < (256 : Int32) then (if x0 < (65536 : Int32) then x0 else ((x0.toUInt32 >>> ((16 : Int32) &&& 31).toUInt32).toInt32)) else (((if x0 < (65536 : Int32) then x0 else ((x0.toUInt32 >>> ((16 : Int32) &&& 31).toUInt32).toInt32)).toUInt32 >>> ((8 : Int32) &&& 31).toUInt32).toInt32)) < (16 : Int32) then (if (if x0 < (65536 : Int32) then x0 else ((x0.toUInt32 >>> ((16 : Int32) &&& 31).toUInt32).toInt32)) < (256 : Int32) then (if x0 < (65536 : Int32) then (31 : Int32) else (15 : Int32)) else ((if x0 < (65536 : Int32) then (31 : Int32) else (15 : Int32)) + (-8 : Int32))) else ((if (if x0 < (65536 : Int32) then x0 else ((x0.toUInt32 >>> ((16 : Int32) &&& 31).toUInt32).toInt32)) < (256 : Int32) then (if x0 < (65536 : Int32) then (31 : Int32) else (15 : Int32)) else ((if x0 < (65536 : Int32) then (31 : Int32) else (15 : Int32)) + (-8 : Int32))) + (-4 : Int32))) else ((if (if (if x0 < (65536 : Int32) then x0 else ((x0.toUInt32 >>> ((16 : Int32) &&& 31).toUInt32).toInt32)) < (256 : Int32) then (if x0 < (65536 : Int32) then x0 else ((x0.toUInt32 >>> ((16 : Int32) &&& 31).toUInt32).toInt32)) else (((if x0 < (65536 : Int32) then x0 else ((x0.toUInt32 >>> ((16 : Int32) &&& 31).toUInt32).toInt32)).toUInt32 >>> ((8 : Int32) &&& 31).toUInt32).toInt32)) < (16 : Int32) then (if (if x0 < (65536 : Int32) then x0 else ((x0.toUInt32 >>> ((16 : Int32) &&& 31).toUInt32).toInt32)) < (256 : Int32) then (if x0 < (65536 : Int32) then (31 : Int32) else (15 : Int32)) else ((if x0 < (65536 : Int32) then (31 : Int32) else (15 : Int32)) + (-8 : Int32))) else ((if (if x0 < (65536 : Int32) then x0 else ((x0.toUInt32 >>> ((16 : Int32) &&& 31).toUInt32).toInt32)) < (256 : Int32) then (if x0 < (65536 : Int32) then (31 : Int32) else (15 : Int32)) else ((if x0 < (65536 : Int32) then (31 : Int32) else (15 : Int32)) + (-8 : Int32))) + (-4 : Int32))) + (-2 : Int32))))] [(.int (if (if (if (if x0 < (65536 : Int32) then x0 else ((x0.toUInt32 >>> ((16 : Int32) &&& 31).toUInt32).toInt32)) < (256 : Int32) then (if x0 < (65536 : Int32) then x0 else ((x0.toUInt32 >>> ((16 : Int32) &&& 31).toUInt32).toInt32)) else (((if x0 < (65536 : Int32) then x0 else ((x0.toUInt32 >>> ((16 : Int32) &&& 31).toUInt32).toInt32)).toUInt32 >>> ((8 : Int32) &&& 31).toUInt32).toInt32)) < (16 : Int32) then (if (if x0 < (65536 : Int32) then x0 else ((x0.toUInt32 >>> ((16 : Int32) &&& 31).toUInt32).toInt32)) < (256 : Int32) then (if x0 < (65536 : Int32) then x0 else ((x0.toUInt32 >>> ((16 : Int32) &&& 31).toUInt32).toInt32)) else (((if x0 < (65536 : Int32) then x0 else ((x0.toUInt32 >>> ((16 : Int32) &&& 31).toUInt32).toInt32)).toUInt32 >>> ((8 : Int32) &&& 31).toUInt32).toInt32)) else (((if (if x0 < (65536 : Int32) then x0 else ((x0.toUInt32 >>> ((16 : Int32) &&& 31).toUInt32).toInt32)) < (256 : Int32) then (if x0 < (65536 : Int32) then x0 else ((x0.toUInt32 >>> ((16 : Int32) &&& 31).toUInt32).toInt32)) else (((if x0 < (65536 : Int32) then x0 else ((x0.toUInt32 >>> ((16 : Int32) &&& 31).toUInt32).toInt32)).toUInt32 >>> ((8 : Int32) &&& 31).toUInt32).toInt32)).toUInt32 >>> ((4 : Int32) &&& 31).toUInt32).toInt32)) < (4 : Int32) then (if (if (if x0 < (65536 : Int32) then x0 else ((x0.toUInt32 >>> ((16 : Int32) &&& 31).toUInt32).toInt32)) < (256 : Int32) then (if x0 < (65536 : Int32) then x0 else ((x0.toUInt32 >>> ((16 : Int32) &&& 31).toUInt32).toInt32)) else (((if x0 < (65536 : Int32) then x0 else ((x0.toUInt32 >>> ((16 : Int32) &&& 31).toUInt32).toInt32)).toUInt32 >>> ((8 : Int32) &&& 31).toUInt32).toInt32)) < (16 : Int32) then (if (if x0 < (65536 : Int32) then x0 else ((x0.toUInt32 >>> ((16 : Int32) &&& 31).toUInt32).toInt32)) < (256 : Int32) then (if x0 < (65536 : Int32) then x0 else ((x0.toUInt32 >>> ((16 : Int32) &&& 31).toUInt32).toInt32)) else (((if x0 < (65536 : Int32) then x0 else ((x0.toUInt32 >>> ((16 : Int32) &&& 31).toUInt32).toInt32)).toUInt32 >>> ((8 : Int32) &&& 31).toUInt32).toInt32)) else (((if (if x0 < (65536 : Int32) then x0 else ((x0.toUInt32 >>> ((16 : Int32) &&& 31).toUInt32).toInt32)) < (256 : Int32) then (if x0 < (65536 : Int32) then x0 else ((x0.toUInt32 >>> ((16 : Int32) &&& 31).toUInt32).toInt32)) else (((if x0 < (65536 : Int32) then x0 else ((x0.toUInt32 >>> ((16 : Int32) &&& 31).toUInt32).toInt32)).toUInt32 >>> ((8 : Int32) &&& 31).toUInt32).toInt32)).toUInt32 >>> ((4 : Int32) &&& 31).toUInt32).toInt32)) else (((if (if (if x0 < (65536 : Int32) then x0 else ((x0.toUInt32 >>> ((16 : Int32) &&& 31).toUInt32).toInt32)) < (256 : Int32) then (if x0 < (65536 : Int32) then x0 else ((x0.toUInt32 >>> ((16 : Int32) &&& 31).toUInt32).toInt32)) else (((if x0 < (65536 : Int32) then x0 else ((x0.toUInt32 >>> ((16 : Int32) &&& 31).toUInt32).toInt32)).toUInt32 >>> ((8 : Int32) &&& 31).toUInt32).toInt32)) < (16 : Int32) then (if (if x0 < (65536 : Int32) then x0 else ((x0.toUInt32 >>> ((16 : Int32) &&& 31).toUInt32).toInt32)) < (256 : Int32) then (if x0 < (65536 : Int32) then x0 else ((x0.toUInt32 >>> ((16 : Int32) &&& 31).toUInt32).toInt32)) else (((if x0 < (65536 : Int32) then x0 else ((x0.toUInt32 >>> ((16 : Int32) &&& 31).toUInt32).toInt32)).toUInt32 >>> ((8 : Int32) &&& 31).toUInt32).toInt32)) else (((if (if x0 < (65536 : Int32) then x0 else ((x0.toUInt32 >>> ((16 : Int32) &&& 31).toUInt32).toInt32)) < (256 : Int32) then (if x0 < (65536 : Int32) then x0 else ((x0.toUInt32 >>> ((16 : Int32) &&& 31).toUInt32).toInt32)) else (((if x0 < (65536 : Int32) then x0 else ((x0.toUInt32 >>> ((16 : Int32) &&& 31).toUInt32).toInt32)).toUInt32 >>> ((8 : Int32) &&& 31).toUInt32).toInt32)).toUInt32 >>> ((4 : Int32) &&& 31).toUInt32).toInt32)).toUInt32 >>> ((2 : Int32) &&& 31).toUInt32).toInt32))), (.int (if (if (if (if x0 < (65536 : Int32) then x0 else ((x0.toUInt32 >>> ((16 : Int32) &&& 31).toUInt32).toInt32)) < (256 : Int32) then (if x0 < (65536 : Int32) then x0 else ((x0.toUInt32 >>> ((16 : Int32) &&& 31).toUInt32).toInt32)) else (((if x0 < (65536 : Int32) then x0 else ((x0.toUInt32 >>> ((16 : Int32) &&& 31).toUInt32).toInt32)).toUInt32 >>> ((8 : Int32) &&& 31).toUInt32).toInt32)) < (16 : Int32) then (if (if x0 < (65536 : Int32) then x0 else ((x0.toUInt32 >>> ((16 : Int32) &&& 31).toUInt32).toInt32)) < (256 : Int32) then (if x0 < (65536 : Int32) then x0 else ((x0.toUInt32 >>> ((16 : Int32) &&& 31).toUInt32).toInt32)) else (((if x0 < (65536 : Int32) then x0 else ((x0.toUInt32 >>> ((16 : Int32) &&& 31).toUInt32).toInt32)).toUInt32 >>> ((8 : Int32) &&& 31).toUInt32).toInt32)) else (((if (if x0 < (65536 : Int32) then x0 else ((x0.toUInt32 >>> ((16 : Int32) &&& 31).toUInt32).toInt32)) < (256 : Int32) then (if x0 < (65536 : Int32) then x0 else ((x0.toUInt32 >>> ((16 : Int32) &&& 31).toUInt32).toInt32)) else (((if x0 < (65536 : Int32) then x0 else ((x0.toUInt32 >>> ((16 : Int32) &&& 31).toUInt32).toInt32)).toUInt32 >>> ((8 : Int32) &&& 31).toUInt32).toInt32)).toUInt32 >>> ((4 : Int32) &&& 31).toUInt32).toInt32)) < (4 : Int32) then (if (if (if x0 < (65536 : Int32) then x0 else ((x0.toUInt32 >>> ((16 : Int32) &&& 31).toUInt32).toInt32)) < (256 : Int32) then (if x0 < (65536 : Int32) then x0 else ((x0.toUInt32 >>> ((16 : Int32) &&& 31).toUInt32).toInt32)) else (((if x0 < (65536 : Int32) then x0 else ((x0.toUInt32 >>> ((16 : Int32) &&& 31).toUInt32).toInt32)).toUInt32 >>> ((8 : Int32) &&& 31).toUInt32).toInt32)) < (16 : Int32) then (if (if x0 < (65536 : Int32) then x0 else ((x0.toUInt32 >>> ((16 : Int32) &&& 31).toUInt32).toInt32)) < (256 : Int32) then (if x0 < (65536 : Int32) then (31 : Int32) else (15 : Int32)) else ((if x0 < (65536 : Int32) then (31 : Int32) else (15 : Int32)) + (-8 : Int32))) else ((if (if x0 < (65536 : Int32) then x0 else ((x0.toUInt32 >>> ((16 : Int32) &&& 31).toUInt32).toInt32)) < (256 : Int32) then (if x0 < (65536 : Int32) then (31 : Int32) else (15 : Int32)) else ((if x0 < (65536 : Int32) then (31 : Int32) else (15 : Int32)) + (-8 : Int32))) + (-4 : Int32))) else ((if (if (if x0 < (65536 : Int32) then x0 else ((x0.toUInt32 >>> ((16 : Int32) &&& 31).toUInt32).toInt32)) < (256 : Int32) then (if x0 < (65536 : Int32) then x0 else ((x0.toUInt32 >>> ((16 : Int32) &&& 31).toUInt32).toInt32)) else (((if x0 < (65536 : Int32) then x0 else ((x0.toUInt32 >>> ((16 : Int32) &&& 31).toUInt32).toInt32)).toUInt32 >>> ((8 : Int32) &&& 31).toUInt32).toInt32)) < (16 : Int32) then (if (if x0 < (65536 : Int32) then x0 else ((x0.toUInt32 >>> ((16 : Int32) &&& 31).toUInt32).toInt32)) < (256 : Int32) then (if x0 < (65536 : Int32) then (31 : Int32) else (15 : Int32)) else ((if x0 < (65536 : Int32) then (31 : Int32) else (15 : Int32)) + (-8 : Int32))) else ((if (if x0 < (65536 : Int32) then x0 else ((x0.toUInt32 >>> ((16 : Int32) &&& 31).toUInt32).toInt32)) < (256 : Int32) then (if x0 < (65536 : Int32) then (31 : Int32) else (15 : Int32)) else ((if x0 < (65536 : Int32) then (31 : Int32) else (15 : Int32)) + (-8 : Int32))) + (-4 : Int32))) + (-2 : Int32))))])) (fun t k => XS.iloadN X0.here hx rfl (hb hby d12_74) rfl k) ?_
    refine own_step (st' := s₁.setTop (mkF m 76 #[.val (.int (if (if (if (if x0 < (65536 : Int32) then x0 else ((x0.toUInt32 >>> ((16 : Int32) &&& 31).toUInt32).toInt32)) < (256 : Int32) then (if x0 < (65536 : Int32) then x0 else ((x0.toUInt32 >>> ((16 : Int32) &&& 31).toUInt32).toInt32)) else (((if x0 < (65536 : Int32) then x0 else ((x0.toUInt32 >>> ((16 : Int32) &&& 31).toUInt32).toInt32)).toUInt32 >>> ((8 : Int32) &&& 31).toUInt32).toInt32)) < (16 : Int32) then (if (if x0 < (65536 : Int32) then x0 else ((x0.toUInt32 >>> ((16 : Int32) &&& 31).toUInt32).toInt32)) < (256 : Int32) then (if x0 < (65536 : Int32) then x0 else ((x0.toUInt32 >>> ((16 : Int32) &&& 31).toUInt32).toInt32)) else (((if x0 < (65536 : Int32) then x0 else ((x0.toUInt32 >>> ((16 : Int32) &&& 31).toUInt32).toInt32)).toUInt32 >>> ((8 : Int32) &&& 31).toUInt32).toInt32)) else (((if (if x0 < (65536 : Int32) then x0 else ((x0.toUInt32 >>> ((16 : Int32) &&& 31).toUInt32).toInt32)) < (256 : Int32) then (if x0 < (65536 : Int32) then x0 else ((x0.toUInt32 >>> ((16 : Int32) &&& 31).toUInt32).toInt32)) else (((if x0 < (65536 : Int32) then x0 else ((x0.toUInt32 >>> ((16 : Int32) &&& 31).toUInt32).toInt32)).toUInt32 >>> ((8 : Int32) &&& 31).toUInt32).toInt32)).toUInt32 >>> ((4 : Int32) &&& 31).toUInt32).toInt32)) < (4 : Int32) then (if (if (if x0 < (65536 : Int32) then x0 else ((x0.toUInt32 >>> ((16 : Int32) &&& 31).toUInt32).toInt32)) < (256 : Int32) then (if x0 < (65536 : Int32) then x0 else ((x0.toUInt32 >>> ((16 : Int32) &&& 31).toUInt32).toInt32)) else (((if x0 < (65536 : Int32) then x0 else ((x0.toUInt32 >>> ((16 : Int32) &&& 31).toUInt32).toInt32)).toUInt32 >>> ((8 : Int32) &&& 31).toUInt32).toInt32)) < (16 : Int32) then (if (if x0 < (65536 : Int32) then x0 else ((x0.toUInt32 >>> ((16 : Int32) &&& 31).toUInt32).toInt32)) < (256 : Int32) then (if x0 < (65536 : Int32) then x0 else ((x0.toUInt32 >>> ((16 : Int32) &&& 31).toUInt32).toInt32)) else (((if x0 < (65536 : Int32) then x0 else ((x0.toUInt32 >>> ((16 : Int32) &&& 31).toUInt32).toInt32)).toUInt32 >>> ((8 : Int32) &&& 31).toUInt32).toInt32)) else (((if (if x0 < (65536 : Int32) then x0 else ((x0.toUInt32 >>> ((16 : Int32) &&& 31).toUInt32).toInt32)) < (256 : Int32) then (if x0 < (65536 : Int32) then x0 else ((x0.toUInt32 >>> ((16 : Int32) &&& 31).toUInt32).toInt32)) else (((if x0 < (65536 : Int32) then x0 else ((x0.toUInt32 >>> ((16 : Int32) &&& 31).toUInt32).toInt32)).toUInt32 >>> ((8 : Int32) &&& 31).toUInt32).toInt32)).toUInt32 >>> ((4 : Int32) &&& 31).toUInt32).toInt32)) else (((if (if (if x0 < (65536 : Int32) then x0 else ((x0.toUInt32 >>> ((16 : Int32) &&& 31).toUInt32).toInt32)) < (256 : Int32) then (if x0 < (65536 : Int32) then x0 else ((x0.toUInt32 >>> ((16 : Int32) &&& 31).toUInt32).toInt32)) else (((if x0 < (65536 : Int32) then x0 else ((x0.toUInt32 >>> ((16 : Int32) &&& 31).toUInt32).toInt32)).toUInt32 >>> ((8 : Int32) &&& 31).toUInt32).toInt32)) < (16 : Int32) then (if (if x0 < (65536 : Int32) then x0 else ((x0.toUInt32 >>> ((16 : Int32) &&& 31).toUInt32).toInt32)) < (256 : Int32) then (if x0 < (65536 : Int32) then x0 else ((x0.toUInt32 >>> ((16 : Int32) &&& 31).toUInt32).toInt32)) else (((if x0 < (65536 : Int32) then x0 else ((x0.toUInt32 >>> ((16 : Int32) &&& 31).toUInt32).toInt32)).toUInt32 >>> ((8 : Int32) &&& 31).toUInt32).toInt32)) else (((if (if x0 < (65536 : Int32) then x0 else ((x0.toUInt32 >>> ((16 : Int32) &&& 31).toUInt32).toInt32)) < (256 : Int32) then (if x0 < (65536 : Int32) then x0 else ((x0.toUInt32 >>> ((16 : Int32) &&& 31).toUInt32).toInt32)) else (((if x0 < (65536 : Int32) then x0 else ((x0.toUInt32 >>> ((16 : Int32) &&& 31).toUInt32).toInt32)).toUInt32 >>> ((8 : Int32) &&& 31).toUInt32).toInt32)).toUInt32 >>> ((4 : Int32) &&& 31).toUInt32).toInt32)).toUInt32 >>> ((2 : Int32) &&& 31).toUInt32).toInt32))), .val (.int (if (if (if (if x0 < (65536 : Int32) then x0 else ((x0.toUInt32 >>> ((16 : Int32) &&& 31).toUInt32).toInt32)) < (256 : Int32) then (if x0 < (65536 : Int32) then x0 else ((x0.toUInt32 >>> ((16 : Int32) &&& 31).toUInt32).toInt32)) else (((if x0 < (65536 : Int32) then x0 else ((x0.toUInt32 >>> ((16 : Int32) &&& 31).toUInt32).toInt32)).toUInt32 >>> ((8 : Int32) &&& 31).toUInt32).toInt32)) < (16 : Int32) then (if (if x0 < (65536 : Int32) then x0 else ((x0.toUInt32 >>> ((16 : Int32) &&& 31).toUInt32).toInt32)) < (256 : Int32) then (if x0 < (65536 : Int32) then x0 else ((x0.toUInt32 >>> ((16 : Int32) &&& 31).toUInt32).toInt32)) else (((if x0 < (65536 : Int32) then x0 else ((x0.toUInt32 >>> ((16 : Int32) &&& 31).toUInt32).toInt32)).toUInt32 >>> ((8 : Int32) &&& 31).toUInt32).toInt32)) else (((if (if x0 < (65536 : Int32) then x0 else ((x0.toUInt32 >>> ((16 : Int32) &&& 31).toUInt32).toInt32)) < (256 : Int32) then (if x0 < (65536 : Int32) then x0 else ((x0.toUInt32 >>> ((16 : Int32) &&& 31).toUInt32).toInt32)) else (((if x0 < (65536 : Int32) then x0 else ((x0.toUInt32 >>> ((16 : Int32) &&& 31).toUInt32).toInt32)).toUInt32 >>> ((8 : Int32) &&& 31).toUInt32).toInt32)).toUInt32 >>> ((4 : Int32) &&& 31).toUInt32).toInt32)) < (4 : Int32) then (if (if (if x0 < (65536 : Int32) then x0 else ((x0.toUInt32 >>> ((16 : Int32) &&& 31).toUInt32).toInt32)) < (256 : Int32) then (if x0 < (65536 : Int32) then x0 else ((x0.toUInt32 >>> ((16 : Int32) &&& 31).toUInt32).toInt32)) else (((if x0 < (65536 : Int32) then x0 else ((x0.toUInt32 >>> ((16 : Int32) &&& 31).toUInt32).toInt32)).toUInt32 >>> ((8 : Int32) &&& 31).toUInt32).toInt32)) < (16 : Int32) then (if (if x0 < (65536 : Int32) then x0 else ((x0.toUInt32 >>> ((16 : Int32) &&& 31).toUInt32).toInt32)) < (256 : Int32) then (if x0 < (65536 : Int32) then (31 : Int32) else (15 : Int32)) else ((if x0 < (65536 : Int32) then (31 : Int32) else (15 : Int32)) + (-8 : Int32))) else ((if (if x0 < (65536 : Int32) then x0 else ((x0.toUInt32 >>> ((16 : Int32) &&& 31).toUInt32).toInt32)) < (256 : Int32) then (if x0 < (65536 : Int32) then (31 : Int32) else (15 : Int32)) else ((if x0 < (65536 : Int32) then (31 : Int32) else (15 : Int32)) + (-8 : Int32))) + (-4 : Int32))) else ((if (if (if x0 < (65536 : Int32) then x0 else ((x0.toUInt32 >>> ((16 : Int32) &&& 31).toUInt32).toInt32)) < (256 : Int32) then (if x0 < (65536 : Int32) then x0 else ((x0.toUInt32 >>> ((16 : Int32) &&& 31).toUInt32).toInt32)) else (((if x0 < (65536 : Int32) then x0 else ((x0.toUInt32 >>> ((16 : Int32) &&& 31).toUInt32).toInt32)).toUInt32 >>> ((8 : Int32) &&& 31).toUInt32).toInt32)) < (16 : Int32) then (if (if x0 < (65536 : Int32) then x0 else ((x0.toUInt32 >>> ((16 : Int32) &&& 31).toUInt32).toInt32)) < (256 : Int32) then (if x0 < (65536 : Int32) then (31 : Int32) else (15 : Int32)) else ((if x0 < (65536 : Int32) then (31 : Int32) else (15 : Int32)) + (-8 : Int32))) else ((if (if x0 < (65536 : Int32) then x0 else ((x0.toUInt32 >>> ((16 : Int32) &&& 31).toUInt32).toInt32)) < (256 : Int32) then (if x0 < (65536 : Int32) then (31 : Int32) else (15 : Int32)) else ((if x0 < (65536 : Int32) then (31 : Int32) else (15 : Int32)) + (-8 : Int32))) + (-4 : Int32))) + (-2 : Int32))))] [(.int (1 : Int32)), (.int (if (if (if (if x0 < (65536 : Int32) then x0 else ((x0.toUInt32 >>> ((16 : Int32) &&& 31).toUInt32).toInt32)) < (256 : Int32) then (if x0 < (65536 : Int32) then x0 else ((x0.toUInt32 >>> ((16 : Int32) &&& 31).toUInt32).toInt32)) else (((if x0 < (65536 : Int32) then x0 else ((x0.toUInt32 >>> ((16 : Int32) &&& 31).toUInt32).toInt32)).toUInt32 >>> ((8 : Int32) &&& 31).toUInt32).toInt32)) < (16 : Int32) then (if (if x0 < (65536 : Int32) then x0 else ((x0.toUInt32 >>> ((16 : Int32) &&& 31).toUInt32).toInt32)) < (256 : Int32) then (if x0 < (65536 : Int32) then x0 else ((x0.toUInt32 >>> ((16 : Int32) &&& 31).toUInt32).toInt32)) else (((if x0 < (65536 : Int32) then x0 else ((x0.toUInt32 >>> ((16 : Int32) &&& 31).toUInt32).toInt32)).toUInt32 >>> ((8 : Int32) &&& 31).toUInt32).toInt32)) else (((if (if x0 < (65536 : Int32) then x0 else ((x0.toUInt32 >>> ((16 : Int32) &&& 31).toUInt32).toInt32)) < (256 : Int32) then (if x0 < (65536 : Int32) then x0 else ((x0.toUInt32 >>> ((16 : Int32) &&& 31).toUInt32).toInt32)) else (((if x0 < (65536 : Int32) then x0 else ((x0.toUInt32 >>> ((16 : Int32) &&& 31).toUInt32).toInt32)).toUInt32 >>> ((8 : Int32) &&& 31).toUInt32).toInt32)).toUInt32 >>> ((4 : Int32) &&& 31).toUInt32).toInt32)) < (4 : Int32) then (if (if (if x0 < (65536 : Int32) then x0 else ((x0.toUInt32 >>> ((16 : Int32) &&& 31).toUInt32).toInt32)) < (256 : Int32) then (if x0 < (65536 : Int32) then x0 else ((x0.toUInt32 >>> ((16 : Int32) &&& 31).toUInt32).toInt32)) else (((if x0 < (65536 : Int32) then x0 else ((x0.toUInt32 >>> ((16 : Int32) &&& 31).toUInt32).toInt32)).toUInt32 >>> ((8 : Int32) &&& 31).toUInt32).toInt32)) < (16 : Int32) then (if (if x0 < (65536 : Int32) then x0 else ((x0.toUInt32 >>> ((16 : Int32) &&& 31).toUInt32).toInt32)) < (256 : Int32) then (if x0 < (65536 : Int32) then x0 else ((x0.toUInt32 >>> ((16 : Int32) &&& 31).toUInt32).toInt32)) else (((if x0 < (65536 : Int32) then x0 else ((x0.toUInt32 >>> ((16 : Int32) &&& 31).toUInt32).toInt32)).toUInt32 >>> ((8 : Int32) &&& 31).toUInt32).toInt32)) else (((if (if x0 < (65536 : Int32) then x0 else ((x0.toUInt32 >>> ((16 : Int32) &&& 31).toUInt32).toInt32)) < (256 : Int32) then (if x0 < (65536 : Int32) then x0 else ((x0.toUInt32 >>> ((16 : Int32) &&& 31).toUInt32).toInt32)) else (((if x0 < (65536 : Int32) then x0 else ((x0.toUInt32 >>> ((16 : Int32) &&& 31).toUInt32).toInt32)).toUInt32 >>> ((8 : Int32) &&& 31).toUInt32).toInt32)).toUInt32 >>> ((4 : Int32) &&& 31).toUInt32).toInt32)) else (((if (if (if x0 < (65536 : Int32) then x0 else ((x0.toUInt32 >>> ((16 : Int32) &&& 31).toUInt32).toInt32)) < (256 : Int32) then (if x0 < (65536 : Int32) then x0 else ((x0.toUInt32 >>> ((16 : Int32) &&& 31).toUInt32).toInt32)) else (((if x0 < (65536 : Int32) then x0 else ((x0.toUInt32 >>> ((16 : Int32) &&& 31).toUInt32).toInt32)).toUInt32 >>> ((8 : Int32) &&& 31).toUInt32).toInt32)) < (16 : Int32) then (if (if x0 < (65536 : Int32) then x0 else ((x0.toUInt32 >>> ((16 : Int32) &&& 31).toUInt32).toInt32)) < (256 : Int32) then (if x0 < (65536 : Int32) then x0 else ((x0.toUInt32 >>> ((16 : Int32) &&& 31).toUInt32).toInt32)) else (((if x0 < (65536 : Int32) then x0 else ((x0.toUInt32 >>> ((16 : Int32) &&& 31).toUInt32).toInt32)).toUInt32 >>> ((8 : Int32) &&& 31).toUInt32).toInt32)) else (((if (if x0 < (65536 : Int32) then x0 else ((x0.toUInt32 >>> ((16 : Int32) &&& 31).toUInt32).toInt32)) < (256 : Int32) then (if x0 < (65536 : Int32) then x0 else ((x0.toUInt32 >>> ((16 : Int32) &&& 31).toUInt32).toInt32)) else (((if x0 < (65536 : Int32) then x0 else ((x0.toUInt32 >>> ((16 : Int32) &&& 31).toUInt32).toInt32)).toUInt32 >>> ((8 : Int32) &&& 31).toUInt32).toInt32)).toUInt32 >>> ((4 : Int32) &&& 31).toUInt32).toInt32)).toUInt32 >>> ((2 : Int32) &&& 31).toUInt32).toInt32))), (.int (if (if (if (if x0 < (65536 : Int32) then x0 else ((x0.toUInt32 >>> ((16 : Int32) &&& 31).toUInt32).toInt32)) < (256 : Int32) then (if x0 < (65536 : Int32) then x0 else ((x0.toUInt32 >>> ((16 : Int32) &&& 31).toUInt32).toInt32)) else (((if x0 < (65536 : Int32) then x0 else ((x0.toUInt32 >>> ((16 : Int32) &&& 31).toUInt32).toInt32)).toUInt32 >>> ((8 : Int32) &&& 31).toUInt32).toInt32)) < (16 : Int32) then (if (if x0 < (65536 : Int32) then x0 else ((x0.toUInt32 >>> ((16 : Int32) &&& 31).toUInt32).toInt32)) < (256 : Int32) then (if x0 < (65536 : Int32) then x0 else ((x0.toUInt32 >>> ((16 : Int32) &&& 31).toUInt32).toInt32)) else (((if x0 < (65536 : Int32) then x0 else ((x0.toUInt32 >>> ((16 : Int32) &&& 31).toUInt32).toInt32)).toUInt32 >>> ((8 : Int32) &&& 31).toUInt32).toInt32)) else (((if (if x0 < (65536 : Int32) then x0 else ((x0.toUInt32 >>> ((16 : Int32) &&& 31).toUInt32).toInt32)) < (256 : Int32) then (if x0 < (65536 : Int32) then x0 else ((x0.toUInt32 >>> ((16 : Int32) &&& 31).toUInt32).toInt32)) else (((if x0 < (65536 : Int32) then x0 else ((x0.toUInt32 >>> ((16 : Int32) &&& 31).toUInt32).toInt32)).toUInt32 >>> ((8 : Int32) &&& 31).toUInt32).toInt32)).toUInt32 >>> ((4 : Int32) &&& 31).toUInt32).toInt32)) < (4 : Int32) then (if (if (if x0 < (65536 : Int32) then x0 else ((x0.toUInt32 >>> ((16 : Int32) &&& 31).toUInt32).toInt32)) < (256 : Int32) then (if x0 < (65536 : Int32) then x0 else ((x0.toUInt32 >>> ((16 : Int32) &&& 31).toUInt32).toInt32)) else (((if x0 < (65536 : Int32) then x0 else ((x0.toUInt32 >>> ((16 : Int32) &&& 31).toUInt32).toInt32)).toUInt32 >>> ((8 : Int32) &&& 31).toUInt32).toInt32)) < (16 : Int32) then (if (if x0 < (65536 : Int32) then x0 else ((x0.toUInt32 >>> ((16 : Int32) &&& 31).toUInt32).toInt32)) < (256 : Int32) then (if x0 < (65536 : Int32) then (31 : Int32) else (15 : Int32)) else ((if x0 < (65536 : Int32) then (31 : Int32) else (15 : Int32)) + (-8 : Int32))) else ((if (if x0 < (65536 : Int32) then x0 else ((x0.toUInt32 >>> ((16 : Int32) &&& 31).toUInt32).toInt32)) < (256 : Int32) then (if x0 < (65536 : Int32) then (31 : Int32) else (15 : Int32)) else ((if x0 < (65536 : Int32) then (31 : Int32) else (15 : Int32)) + (-8 : Int32))) + (-4 : Int32))) else ((if (if (if x0 < (65536 : Int32) then x0 else ((x0.toUInt32 >>> ((16 : Int32) &&& 31).toUInt32).toInt32)) < (256 : Int32) then (if x0 < (65536 : Int32) then x0 else ((x0.toUInt32 >>> ((16 : Int32) &&& 31).toUInt32).toInt32)) else (((if x0 < (65536 : Int32) then x0 else ((x0.toUInt32 >>> ((16 : Int32) &&& 31).toUInt32).toInt32)).toUInt32 >>> ((8 : Int32) &&& 31).toUInt32).toInt32)) < (16 : Int32) then (if (if x0 < (65536 : Int32) then x0 else ((x0.toUInt32 >>> ((16 : Int32) &&& 31).toUInt32).toInt32)) < (256 : Int32) then (if x0 < (65536 : Int32) then (31 : Int32) else (15 : Int32)) else ((if x0 < (65536 : Int32) then (31 : Int32) else (15 : Int32)) + (-8 : Int32))) else ((if (if x0 < (65536 : Int32) then x0 else ((x0.toUInt32 >>> ((16 : Int32) &&& 31).toUInt32).toInt32)) < (256 : Int32) then (if x0 < (65536 : Int32) then (31 : Int32) else (15 : Int32)) else ((if x0 < (65536 : Int32) then (31 : Int32) else (15 : Int32)) + (-8 : Int32))) + (-4 : Int32))) + (-2 : Int32))))])) (fun t k => XS.iconst X0.here hx rfl (hb hby d12_75) k) ?_
    refine own_step (st' := s₁.setTop (mkF m 77 #[.val (.int (if (if (if (if x0 < (65536 : Int32) then x0 else ((x0.toUInt32 >>> ((16 : Int32) &&& 31).toUInt32).toInt32)) < (256 : Int32) then (if x0 < (65536 : Int32) then x0 else ((x0.toUInt32 >>> ((16 : Int32) &&& 31).toUInt32).toInt32)) else (((if x0 < (65536 : Int32) then x0 else ((x0.toUInt32 >>> ((16 : Int32) &&& 31).toUInt32).toInt32)).toUInt32 >>> ((8 : Int32) &&& 31).toUInt32).toInt32)) < (16 : Int32) then (if (if x0 < (65536 : Int32) then x0 else ((x0.toUInt32 >>> ((16 : Int32) &&& 31).toUInt32).toInt32)) < (256 : Int32) then (if x0 < (65536 : Int32) then x0 else ((x0.toUInt32 >>> ((16 : Int32) &&& 31).toUInt32).toInt32)) else (((if x0 < (65536 : Int32) then x0 else ((x0.toUInt32 >>> ((16 : Int32) &&& 31).toUInt32).toInt32)).toUInt32 >>> ((8 : Int32) &&& 31).toUInt32).toInt32)) else (((if (if x0 < (65536 : Int32) then x0 else ((x0.toUInt32 >>> ((16 : Int32) &&& 31).toUInt32).toInt32)) < (256 : Int32) then (if x0 < (65536 : Int32) then x0 else ((x0.toUInt32 >>> ((16 : Int32) &&& 31).toUInt32).toInt32)) else (((if x0 < (65536 : Int32) then x0 else ((x0.toUInt32 >>> ((16 : Int32) &&& 31).toUInt32).toInt32)).toUInt32 >>> ((8 : Int32) &&& 31).toUInt32).toInt32)).toUInt32 >>> ((4 : Int32) &&& 31).toUInt32).toInt32)) < (4 : Int32) then (if (if (if x0 < (65536 : Int32) then x0 else ((x0.toUInt32 >>> ((16 : Int32) &&& 31).toUInt32).toInt32)) < (256 : Int32) then (if x0 < (65536 : Int32) then x0 else ((x0.toUInt32 >>> ((16 : Int32) &&& 31).toUInt32).toInt32)) else (((if x0 < (65536 : Int32) then x0 else ((x0.toUInt32 >>> ((16 : Int32) &&& 31).toUInt32).toInt32)).toUInt32 >>> ((8 : Int32) &&& 31).toUInt32).toInt32)) < (16 : Int32) then (if (if x0 < (65536 : Int32) then x0 else ((x0.toUInt32 >>> ((16 : Int32) &&& 31).toUInt32).toInt32)) < (256 : Int32) then (if x0 < (65536 : Int32) then x0 else ((x0.toUInt32 >>> ((16 : Int32) &&& 31).toUInt32).toInt32)) else (((if x0 < (65536 : Int32) then x0 else ((x0.toUInt32 >>> ((16 : Int32) &&& 31).toUInt32).toInt32)).toUInt32 >>> ((8 : Int32) &&& 31).toUInt32).toInt32)) else (((if (if x0 < (65536 : Int32) then x0 else ((x0.toUInt32 >>> ((16 : Int32) &&& 31).toUInt32).toInt32)) < (256 : Int32) then (if x0 < (65536 : Int32) then x0 else ((x0.toUInt32 >>> ((16 : Int32) &&& 31).toUInt32).toInt32)) else (((if x0 < (65536 : Int32) then x0 else ((x0.toUInt32 >>> ((16 : Int32) &&& 31).toUInt32).toInt32)).toUInt32 >>> ((8 : Int32) &&& 31).toUInt32).toInt32)).toUInt32 >>> ((4 : Int32) &&& 31).toUInt32).toInt32)) else (((if (if (if x0 < (65536 : Int32) then x0 else ((x0.toUInt32 >>> ((16 : Int32) &&& 31).toUInt32).toInt32)) < (256 : Int32) then (if x0 < (65536 : Int32) then x0 else ((x0.toUInt32 >>> ((16 : Int32) &&& 31).toUInt32).toInt32)) else (((if x0 < (65536 : Int32) then x0 else ((x0.toUInt32 >>> ((16 : Int32) &&& 31).toUInt32).toInt32)).toUInt32 >>> ((8 : Int32) &&& 31).toUInt32).toInt32)) < (16 : Int32) then (if (if x0 < (65536 : Int32) then x0 else ((x0.toUInt32 >>> ((16 : Int32) &&& 31).toUInt32).toInt32)) < (256 : Int32) then (if x0 < (65536 : Int32) then x0 else ((x0.toUInt32 >>> ((16 : Int32) &&& 31).toUInt32).toInt32)) else (((if x0 < (65536 : Int32) then x0 else ((x0.toUInt32 >>> ((16 : Int32) &&& 31).toUInt32).toInt32)).toUInt32 >>> ((8 : Int32) &&& 31).toUInt32).toInt32)) else (((if (if x0 < (65536 : Int32) then x0 else ((x0.toUInt32 >>> ((16 : Int32) &&& 31).toUInt32).toInt32)) < (256 : Int32) then (if x0 < (65536 : Int32) then x0 else ((x0.toUInt32 >>> ((16 : Int32) &&& 31).toUInt32).toInt32)) else (((if x0 < (65536 : Int32) then x0 else ((x0.toUInt32 >>> ((16 : Int32) &&& 31).toUInt32).toInt32)).toUInt32 >>> ((8 : Int32) &&& 31).toUInt32).toInt32)).toUInt32 >>> ((4 : Int32) &&& 31).toUInt32).toInt32)).toUInt32 >>> ((2 : Int32) &&& 31).toUInt32).toInt32))), .val (.int (if (if (if (if x0 < (65536 : Int32) then x0 else ((x0.toUInt32 >>> ((16 : Int32) &&& 31).toUInt32).toInt32)) < (256 : Int32) then (if x0 < (65536 : Int32) then x0 else ((x0.toUInt32 >>> ((16 : Int32) &&& 31).toUInt32).toInt32)) else (((if x0 < (65536 : Int32) then x0 else ((x0.toUInt32 >>> ((16 : Int32) &&& 31).toUInt32).toInt32)).toUInt32 >>> ((8 : Int32) &&& 31).toUInt32).toInt32)) < (16 : Int32) then (if (if x0 < (65536 : Int32) then x0 else ((x0.toUInt32 >>> ((16 : Int32) &&& 31).toUInt32).toInt32)) < (256 : Int32) then (if x0 < (65536 : Int32) then x0 else ((x0.toUInt32 >>> ((16 : Int32) &&& 31).toUInt32).toInt32)) else (((if x0 < (65536 : Int32) then x0 else ((x0.toUInt32 >>> ((16 : Int32) &&& 31).toUInt32).toInt32)).toUInt32 >>> ((8 : Int32) &&& 31).toUInt32).toInt32)) else (((if (if x0 < (65536 : Int32) then x0 else ((x0.toUInt32 >>> ((16 : Int32) &&& 31).toUInt32).toInt32)) < (256 : Int32) then (if x0 < (65536 : Int32) then x0 else ((x0.toUInt32 >>> ((16 : Int32) &&& 31).toUInt32).toInt32)) else (((if x0 < (65536 : Int32) then x0 else ((x0.toUInt32 >>> ((16 : Int32) &&& 31).toUInt32).toInt32)).toUInt32 >>> ((8 : Int32) &&& 31).toUInt32).toInt32)).toUInt32 >>> ((4 : Int32) &&& 31).toUInt32).toInt32)) < (4 : Int32) then (if (if (if x0 < (65536 : Int32) then x0 else ((x0.toUInt32 >>> ((16 : Int32) &&& 31).toUInt32).toInt32)) < (256 : Int32) then (if x0 < (65536 : Int32) then x0 else ((x0.toUInt32 >>> ((16 : Int32) &&& 31).toUInt32).toInt32)) else (((if x0 < (65536 : Int32) then x0 else ((x0.toUInt32 >>> ((16 : Int32) &&& 31).toUInt32).toInt32)).toUInt32 >>> ((8 : Int32) &&& 31).toUInt32).toInt32)) < (16 : Int32) then (if (if x0 < (65536 : Int32) then x0 else ((x0.toUInt32 >>> ((16 : Int32) &&& 31).toUInt32).toInt32)) < (256 : Int32) then (if x0 < (65536 : Int32) then (31 : Int32) else (15 : Int32)) else ((if x0 < (65536 : Int32) then (31 : Int32) else (15 : Int32)) + (-8 : Int32))) else ((if (if x0 < (65536 : Int32) then x0 else ((x0.toUInt32 >>> ((16 : Int32) &&& 31).toUInt32).toInt32)) < (256 : Int32) then (if x0 < (65536 : Int32) then (31 : Int32) else (15 : Int32)) else ((if x0 < (65536 : Int32) then (31 : Int32) else (15 : Int32)) + (-8 : Int32))) + (-4 : Int32))) else ((if (if (if x0 < (65536 : Int32) then x0 else ((x0.toUInt32 >>> ((16 : Int32) &&& 31).toUInt32).toInt32)) < (256 : Int32) then (if x0 < (65536 : Int32) then x0 else ((x0.toUInt32 >>> ((16 : Int32) &&& 31).toUInt32).toInt32)) else (((if x0 < (65536 : Int32) then x0 else ((x0.toUInt32 >>> ((16 : Int32) &&& 31).toUInt32).toInt32)).toUInt32 >>> ((8 : Int32) &&& 31).toUInt32).toInt32)) < (16 : Int32) then (if (if x0 < (65536 : Int32) then x0 else ((x0.toUInt32 >>> ((16 : Int32) &&& 31).toUInt32).toInt32)) < (256 : Int32) then (if x0 < (65536 : Int32) then (31 : Int32) else (15 : Int32)) else ((if x0 < (65536 : Int32) then (31 : Int32) else (15 : Int32)) + (-8 : Int32))) else ((if (if x0 < (65536 : Int32) then x0 else ((x0.toUInt32 >>> ((16 : Int32) &&& 31).toUInt32).toInt32)) < (256 : Int32) then (if x0 < (65536 : Int32) then (31 : Int32) else (15 : Int32)) else ((if x0 < (65536 : Int32) then (31 : Int32) else (15 : Int32)) + (-8 : Int32))) + (-4 : Int32))) + (-2 : Int32))))] [(.int (((if (if (if (if x0 < (65536 : Int32) then x0 else ((x0.toUInt32 >>> ((16 : Int32) &&& 31).toUInt32).toInt32)) < (256 : Int32) then (if x0 < (65536 : Int32) then x0 else ((x0.toUInt32 >>> ((16 : Int32) &&& 31).toUInt32).toInt32)) else (((if x0 < (65536 : Int32) then x0 else ((x0.toUInt32 >>> ((16 : Int32) &&& 31).toUInt32).toInt32)).toUInt32 >>> ((8 : Int32) &&& 31).toUInt32).toInt32)) < (16 : Int32) then (if (if x0 < (65536 : Int32) then x0 else ((x0.toUInt32 >>> ((16 : Int32) &&& 31).toUInt32).toInt32)) < (256 : Int32) then (if x0 < (65536 : Int32) then x0 else ((x0.toUInt32 >>> ((16 : Int32) &&& 31).toUInt32).toInt32)) else (((if x0 < (65536 : Int32) then x0 else ((x0.toUInt32 >>> ((16 : Int32) &&& 31).toUInt32).toInt32)).toUInt32 >>> ((8 : Int32) &&& 31).toUInt32).toInt32)) else (((if (if x0 < (65536 : Int32) then x0 else ((x0.toUInt32 >>> ((16 : Int32) &&& 31).toUInt32).toInt32)) < (256 : Int32) then (if x0 < (65536 : Int32) then x0 else ((x0.toUInt32 >>> ((16 : Int32) &&& 31).toUInt32).toInt32)) else (((if x0 < (65536 : Int32) then x0 else ((x0.toUInt32 >>> ((16 : Int32) &&& 31).toUInt32).toInt32)).toUInt32 >>> ((8 : Int32) &&& 31).toUInt32).toInt32)).toUInt32 >>> ((4 : Int32) &&& 31).toUInt32).toInt32)) < (4 : Int32) then (if (if (if x0 < (65536 : Int32) then x0 else ((x0.toUInt32 >>> ((16 : Int32) &&& 31).toUInt32).toInt32)) < (256 : Int32) then (if x0 < (65536 : Int32) then x0 else ((x0.toUInt32 >>> ((16 : Int32) &&& 31).toUInt32).toInt32)) else (((if x0 < (65536 : Int32) then x0 else ((x0.toUInt32 >>> ((16 : Int32) &&& 31).toUInt32).toInt32)).toUInt32 >>> ((8 : Int32) &&& 31).toUInt32).toInt32)) < (16 : Int32) then (if (if x0 < (65536 : Int32) then x0 else ((x0.toUInt32 >>> ((16 : Int32) &&& 31).toUInt32).toInt32)) < (256 : Int32) then (if x0 < (65536 : Int32) then x0 else ((x0.toUInt32 >>> ((16 : Int32) &&& 31).toUInt32).toInt32)) else (((if x0 < (65536 : Int32) then x0 else ((x0.toUInt32 >>> ((16 : Int32) &&& 31).toUInt32).toInt32)).toUInt32 >>> ((8 : Int32) &&& 31).toUInt32).toInt32)) else (((if (if x0 < (65536 : Int32) then x0 else ((x0.toUInt32 >>> ((16 : Int32) &&& 31).toUInt32).toInt32)) < (256 : Int32) then (if x0 < (65536 : Int32) then x0 else ((x0.toUInt32 >>> ((16 : Int32) &&& 31).toUInt32).toInt32)) else (((if x0 < (65536 : Int32) then x0 else ((x0.toUInt32 >>> ((16 : Int32) &&& 31).toUInt32).toInt32)).toUInt32 >>> ((8 : Int32) &&& 31).toUInt32).toInt32)).toUInt32 >>> ((4 : Int32) &&& 31).toUInt32).toInt32)) else (((if (if (if x0 < (65536 : Int32) then x0 else ((x0.toUInt32 >>> ((16 : Int32) &&& 31).toUInt32).toInt32)) < (256 : Int32) then (if x0 < (65536 : Int32) then x0 else ((x0.toUInt32 >>> ((16 : Int32) &&& 31).toUInt32).toInt32)) else (((if x0 < (65536 : Int32) then x0 else ((x0.toUInt32 >>> ((16 : Int32) &&& 31).toUInt32).toInt32)).toUInt32 >>> ((8 : Int32) &&& 31).toUInt32).toInt32)) < (16 : Int32) then (if (if x0 < (65536 : Int32) then x0 else ((x0.toUInt32 >>> ((16 : Int32) &&& 31).toUInt32).toInt32)) < (256 : Int32) then (if x0 < (65536 : Int32) then x0 else ((x0.toUInt32 >>> ((16 : Int32) &&& 31).toUInt32).toInt32)) else (((if x0 < (65536 : Int32) then x0 else ((x0.toUInt32 >>> ((16 : Int32) &&& 31).toUInt32).toInt32)).toUInt32 >>> ((8 : Int32) &&& 31).toUInt32).toInt32)) else (((if (if x0 < (65536 : Int32) then x0 else ((x0.toUInt32 >>> ((16 : Int32) &&& 31).toUInt32).toInt32)) < (256 : Int32) then (if x0 < (65536 : Int32) then x0 else ((x0.toUInt32 >>> ((16 : Int32) &&& 31).toUInt32).toInt32)) else (((if x0 < (65536 : Int32) then x0 else ((x0.toUInt32 >>> ((16 : Int32) &&& 31).toUInt32).toInt32)).toUInt32 >>> ((8 : Int32) &&& 31).toUInt32).toInt32)).toUInt32 >>> ((4 : Int32) &&& 31).toUInt32).toInt32)).toUInt32 >>> ((2 : Int32) &&& 31).toUInt32).toInt32)).toUInt32 >>> ((1 : Int32) &&& 31).toUInt32).toInt32)), (.int (if (if (if (if x0 < (65536 : Int32) then x0 else ((x0.toUInt32 >>> ((16 : Int32) &&& 31).toUInt32).toInt32)) < (256 : Int32) then (if x0 < (65536 : Int32) then x0 else ((x0.toUInt32 >>> ((16 : Int32) &&& 31).toUInt32).toInt32)) else (((if x0 < (65536 : Int32) then x0 else ((x0.toUInt32 >>> ((16 : Int32) &&& 31).toUInt32).toInt32)).toUInt32 >>> ((8 : Int32) &&& 31).toUInt32).toInt32)) < (16 : Int32) then (if (if x0 < (65536 : Int32) then x0 else ((x0.toUInt32 >>> ((16 : Int32) &&& 31).toUInt32).toInt32)) < (256 : Int32) then (if x0 < (65536 : Int32) then x0 else ((x0.toUInt32 >>> ((16 : Int32) &&& 31).toUInt32).toInt32)) else (((if x0 < (65536 : Int32) then x0 else ((x0.toUInt32 >>> ((16 : Int32) &&& 31).toUInt32).toInt32)).toUInt32 >>> ((8 : Int32) &&& 31).toUInt32).toInt32)) else (((if (if x0 < (65536 : Int32) then x0 else ((x0.toUInt32 >>> ((16 : Int32) &&& 31).toUInt32).toInt32)) < (256 : Int32) then (if x0 < (65536 : Int32) then x0 else ((x0.toUInt32 >>> ((16 : Int32) &&& 31).toUInt32).toInt32)) else (((if x0 < (65536 : Int32) then x0 else ((x0.toUInt32 >>> ((16 : Int32) &&& 31).toUInt32).toInt32)).toUInt32 >>> ((8 : Int32) &&& 31).toUInt32).toInt32)).toUInt32 >>> ((4 : Int32) &&& 31).toUInt32).toInt32)) < (4 : Int32) then (if (if (if x0 < (65536 : Int32) then x0 else ((x0.toUInt32 >>> ((16 : Int32) &&& 31).toUInt32).toInt32)) < (256 : Int32) then (if x0 < (65536 : Int32) then x0 else ((x0.toUInt32 >>> ((16 : Int32) &&& 31).toUInt32).toInt32)) else (((if x0 < (65536 : Int32) then x0 else ((x0.toUInt32 >>> ((16 : Int32) &&& 31).toUInt32).toInt32)).toUInt32 >>> ((8 : Int32) &&& 31).toUInt32).toInt32)) < (16 : Int32) then (if (if x0 < (65536 : Int32) then x0 else ((x0.toUInt32 >>> ((16 : Int32) &&& 31).toUInt32).toInt32)) < (256 : Int32) then (if x0 < (65536 : Int32) then (31 : Int32) else (15 : Int32)) else ((if x0 < (65536 : Int32) then (31 : Int32) else (15 : Int32)) + (-8 : Int32))) else ((if (if x0 < (65536 : Int32) then x0 else ((x0.toUInt32 >>> ((16 : Int32) &&& 31).toUInt32).toInt32)) < (256 : Int32) then (if x0 < (65536 : Int32) then (31 : Int32) else (15 : Int32)) else ((if x0 < (65536 : Int32) then (31 : Int32) else (15 : Int32)) + (-8 : Int32))) + (-4 : Int32))) else ((if (if (if x0 < (65536 : Int32) then x0 else ((x0.toUInt32 >>> ((16 : Int32) &&& 31).toUInt32).toInt32)) < (256 : Int32) then (if x0 < (65536 : Int32) then x0 else ((x0.toUInt32 >>> ((16 : Int32) &&& 31).toUInt32).toInt32)) else (((if x0 < (65536 : Int32) then x0 else ((x0.toUInt32 >>> ((16 : Int32) &&& 31).toUInt32).toInt32)).toUInt32 >>> ((8 : Int32) &&& 31).toUInt32).toInt32)) < (16 : Int32) then (if (if x0 < (65536 : Int32) then x0 else ((x0.toUInt32 >>> ((16 : Int32) &&& 31).toUInt32).toInt32)) < (256 : Int32) then (if x0 < (65536 : Int32) then (31 : Int32) else (15 : Int32)) else ((if x0 < (65536 : Int32) then (31 : Int32) else (15 : Int32)) + (-8 : Int32))) else ((if (if x0 < (65536 : Int32) then x0 else ((x0.toUInt32 >>> ((16 : Int32) &&& 31).toUInt32).toInt32)) < (256 : Int32) then (if x0 < (65536 : Int32) then (31 : Int32) else (15 : Int32)) else ((if x0 < (65536 : Int32) then (31 : Int32) else (15 : Int32)) + (-8 : Int32))) + (-4 : Int32))) + (-2 : Int32))))])) (fun t k => XS.iushr X0.here hx rfl (hb hby d12_76) rfl k) ?_
    refine own_step (st' := s₁.setTop (mkF m 78 #[.val (.int (if (if (if (if x0 < (65536 : Int32) then x0 else ((x0.toUInt32 >>> ((16 : Int32) &&& 31).toUInt32).toInt32)) < (256 : Int32) then (if x0 < (65536 : Int32) then x0 else ((x0.toUInt32 >>> ((16 : Int32) &&& 31).toUInt32).toInt32)) else (((if x0 < (65536 : Int32) then x0 else ((x0.toUInt32 >>> ((16 : Int32) &&& 31).toUInt32).toInt32)).toUInt32 >>> ((8 : Int32) &&& 31).toUInt32).toInt32)) < (16 : Int32) then (if (if x0 < (65536 : Int32) then x0 else ((x0.toUInt32 >>> ((16 : Int32) &&& 31).toUInt32).toInt32)) < (256 : Int32) then (if x0 < (65536 : Int32) then x0 else ((x0.toUInt32 >>> ((16 : Int32) &&& 31).toUInt32).toInt32)) else (((if x0 < (65536 : Int32) then x0 else ((x0.toUInt32 >>> ((16 : Int32) &&& 31).toUInt32).toInt32)).toUInt32 >>> ((8 : Int32) &&& 31).toUInt32).toInt32)) else (((if (if x0 < (65536 : Int32) then x0 else ((x0.toUInt32 >>> ((16 : Int32) &&& 31).toUInt32).toInt32)) < (256 : Int32) then (if x0 < (65536 : Int32) then x0 else ((x0.toUInt32 >>> ((16 : Int32) &&& 31).toUInt32).toInt32)) else (((if x0 < (65536 : Int32) then x0 else ((x0.toUInt32 >>> ((16 : Int32) &&& 31).toUInt32).toInt32)).toUInt32 >>> ((8 : Int32) &&& 31).toUInt32).toInt32)).toUInt32 >>> ((4 : Int32) &&& 31).toUInt32).toInt32)) < (4 : Int32) then (if (if (if x0 < (65536 : Int32) then x0 else ((x0.toUInt32 >>> ((16 : Int32) &&& 31).toUInt32).toInt32)) < (256 : Int32) then (if x0 < (65536 : Int32) then x0 else ((x0.toUInt32 >>> ((16 : Int32) &&& 31).toUInt32).toInt32)) else (((if x0 < (65536 : Int32) then x0 else ((x0.toUInt32 >>> ((16 : Int32) &&& 31).toUInt32).toInt32)).toUInt32 >>> ((8 : Int32) &&& 31).toUInt32).toInt32)) < (16 : Int32) then (if (if x0 < (65536 : Int32) then x0 else ((x0.toUInt32 >>> ((16 : Int32) &&& 31).toUInt32).toInt32)) < (256 : Int32) then (if x0 < (65536 : Int32) then x0 else ((x0.toUInt32 >>> ((16 : Int32) &&& 31).toUInt32).toInt32)) else (((if x0 < (65536 : Int32) then x0 else ((x0.toUInt32 >>> ((16 : Int32) &&& 31).toUInt32).toInt32)).toUInt32 >>> ((8 : Int32) &&& 31).toUInt32).toInt32)) else (((if (if x0 < (65536 : Int32) then x0 else ((x0.toUInt32 >>> ((16 : Int32) &&& 31).toUInt32).toInt32)) < (256 : Int32) then (if x0 < (65536 : Int32) then x0 else ((x0.toUInt32 >>> ((16 : Int32) &&& 31).toUInt32).toInt32)) else (((if x0 < (65536 : Int32) then x0 else ((x0.toUInt32 >>> ((16 : Int32) &&& 31).toUInt32).toInt32)).toUInt32 >>> ((8 : Int32) &&& 31).toUInt32).toInt32)).toUInt32 >>> ((4 : Int32) &&& 31).toUInt32).toInt32)) else (((if (if (if x0 < (65536 : Int32) then x0 else ((x0.toUInt32 >>> ((16 : Int32) &&& 31).toUInt32).toInt32)) < (256 : Int32) then (if x0 < (65536 : Int32) then x0 else ((x0.toUInt32 >>> ((16 : Int32) &&& 31).toUInt32).toInt32)) else (((if x0 < (65536 : Int32) then x0 else ((x0.toUInt32 >>> ((16 : Int32) &&& 31).toUInt32).toInt32)).toUInt32 >>> ((8 : Int32) &&& 31).toUInt32).toInt32)) < (16 : Int32) then (if (if x0 < (65536 : Int32) then x0 else ((x0.toUInt32 >>> ((16 : Int32) &&& 31).toUInt32).toInt32)) < (256 : Int32) then (if x0 < (65536 : Int32) then x0 else ((x0.toUInt32 >>> ((16 : Int32) &&& 31).toUInt32).toInt32)) else (((if x0 < (65536 : Int32) then x0 else ((x0.toUInt32 >>> ((16 : Int32) &&& 31).toUInt32).toInt32)).toUInt32 >>> ((8 : Int32) &&& 31).toUInt32).toInt32)) else (((if (if x0 < (65536 : Int32) then x0 else ((x0.toUInt32 >>> ((16 : Int32) &&& 31).toUInt32).toInt32)) < (256 : Int32) then (if x0 < (65536 : Int32) then x0 else ((x0.toUInt32 >>> ((16 : Int32) &&& 31).toUInt32).toInt32)) else (((if x0 < (65536 : Int32) then x0 else ((x0.toUInt32 >>> ((16 : Int32) &&& 31).toUInt32).toInt32)).toUInt32 >>> ((8 : Int32) &&& 31).toUInt32).toInt32)).toUInt32 >>> ((4 : Int32) &&& 31).toUInt32).toInt32)).toUInt32 >>> ((2 : Int32) &&& 31).toUInt32).toInt32))), .val (.int (if (if (if (if x0 < (65536 : Int32) then x0 else ((x0.toUInt32 >>> ((16 : Int32) &&& 31).toUInt32).toInt32)) < (256 : Int32) then (if x0 < (65536 : Int32) then x0 else ((x0.toUInt32 >>> ((16 : Int32) &&& 31).toUInt32).toInt32)) else (((if x0 < (65536 : Int32) then x0 else ((x0.toUInt32 >>> ((16 : Int32) &&& 31).toUInt32).toInt32)).toUInt32 >>> ((8 : Int32) &&& 31).toUInt32).toInt32)) < (16 : Int32) then (if (if x0 < (65536 : Int32) then x0 else ((x0.toUInt32 >>> ((16 : Int32) &&& 31).toUInt32).toInt32)) < (256 : Int32) then (if x0 < (65536 : Int32) then x0 else ((x0.toUInt32 >>> ((16 : Int32) &&& 31).toUInt32).toInt32)) else (((if x0 < (65536 : Int32) then x0 else ((x0.toUInt32 >>> ((16 : Int32) &&& 31).toUInt32).toInt32)).toUInt32 >>> ((8 : Int32) &&& 31).toUInt32).toInt32)) else (((if (if x0 < (65536 : Int32) then x0 else ((x0.toUInt32 >>> ((16 : Int32) &&& 31).toUInt32).toInt32)) < (256 : Int32) then (if x0 < (65536 : Int32) then x0 else ((x0.toUInt32 >>> ((16 : Int32) &&& 31).toUInt32).toInt32)) else (((if x0 < (65536 : Int32) then x0 else ((x0.toUInt32 >>> ((16 : Int32) &&& 31).toUInt32).toInt32)).toUInt32 >>> ((8 : Int32) &&& 31).toUInt32).toInt32)).toUInt32 >>> ((4 : Int32) &&& 31).toUInt32).toInt32)) < (4 : Int32) then (if (if (if x0 < (65536 : Int32) then x0 else ((x0.toUInt32 >>> ((16 : Int32) &&& 31).toUInt32).toInt32)) < (256 : Int32) then (if x0 < (65536 : Int32) then x0 else ((x0.toUInt32 >>> ((16 : Int32) &&& 31).toUInt32).toInt32)) else (((if x0 < (65536 : Int32) then x0 else ((x0.toUInt32 >>> ((16 : Int32) &&& 31).toUInt32).toInt32)).toUInt32 >>> ((8 : Int32) &&& 31).toUInt32).toInt32)) < (16 : Int32) then (if (if x0 < (65536 : Int32) then x0 else ((x0.toUInt32 >>> ((16 : Int32) &&& 31).toUInt32).toInt32)) < (256 : Int32) then (if x0 < (65536 : Int32) then (31 : Int32) else (15 : Int32)) else ((if x0 < (65536 : Int32) then (31 : Int32) else (15 : Int32)) + (-8 : Int32))) else ((if (if x0 < (65536 : Int32) then x0 else ((x0.toUInt32 >>> ((16 : Int32) &&& 31).toUInt32).toInt32)) < (256 : Int32) then (if x0 < (65536 : Int32) then (31 : Int32) else (15 : Int32)) else ((if x0 < (65536 : Int32) then (31 : Int32) else (15 : Int32)) + (-8 : Int32))) + (-4 : Int32))) else ((if (if (if x0 < (65536 : Int32) then x0 else ((x0.toUInt32 >>> ((16 : Int32) &&& 31).toUInt32).toInt32)) < (256 : Int32) then (if x0 < (65536 : Int32) then x0 else ((x0.toUInt32 >>> ((16 : Int32) &&& 31).toUInt32).toInt32)) else (((if x0 < (65536 : Int32) then x0 else ((x0.toUInt32 >>> ((16 : Int32) &&& 31).toUInt32).toInt32)).toUInt32 >>> ((8 : Int32) &&& 31).toUInt32).toInt32)) < (16 : Int32) then (if (if x0 < (65536 : Int32) then x0 else ((x0.toUInt32 >>> ((16 : Int32) &&& 31).toUInt32).toInt32)) < (256 : Int32) then (if x0 < (65536 : Int32) then (31 : Int32) else (15 : Int32)) else ((if x0 < (65536 : Int32) then (31 : Int32) else (15 : Int32)) + (-8 : Int32))) else ((if (if x0 < (65536 : Int32) then x0 else ((x0.toUInt32 >>> ((16 : Int32) &&& 31).toUInt32).toInt32)) < (256 : Int32) then (if x0 < (65536 : Int32) then (31 : Int32) else (15 : Int32)) else ((if x0 < (65536 : Int32) then (31 : Int32) else (15 : Int32)) + (-8 : Int32))) + (-4 : Int32))) + (-2 : Int32))))] [(.int ((if (if (if (if x0 < (65536 : Int32) then x0 else ((x0.toUInt32 >>> ((16 : Int32) &&& 31).toUInt32).toInt32)) < (256 : Int32) then (if x0 < (65536 : Int32) then x0 else ((x0.toUInt32 >>> ((16 : Int32) &&& 31).toUInt32).toInt32)) else (((if x0 < (65536 : Int32) then x0 else ((x0.toUInt32 >>> ((16 : Int32) &&& 31).toUInt32).toInt32)).toUInt32 >>> ((8 : Int32) &&& 31).toUInt32).toInt32)) < (16 : Int32) then (if (if x0 < (65536 : Int32) then x0 else ((x0.toUInt32 >>> ((16 : Int32) &&& 31).toUInt32).toInt32)) < (256 : Int32) then (if x0 < (65536 : Int32) then x0 else ((x0.toUInt32 >>> ((16 : Int32) &&& 31).toUInt32).toInt32)) else (((if x0 < (65536 : Int32) then x0 else ((x0.toUInt32 >>> ((16 : Int32) &&& 31).toUInt32).toInt32)).toUInt32 >>> ((8 : Int32) &&& 31).toUInt32).toInt32)) else (((if (if x0 < (65536 : Int32) then x0 else ((x0.toUInt32 >>> ((16 : Int32) &&& 31).toUInt32).toInt32)) < (256 : Int32) then (if x0 < (65536 : Int32) then x0 else ((x0.toUInt32 >>> ((16 : Int32) &&& 31).toUInt32).toInt32)) else (((if x0 < (65536 : Int32) then x0 else ((x0.toUInt32 >>> ((16 : Int32) &&& 31).toUInt32).toInt32)).toUInt32 >>> ((8 : Int32) &&& 31).toUInt32).toInt32)).toUInt32 >>> ((4 : Int32) &&& 31).toUInt32).toInt32)) < (4 : Int32) then (if (if (if x0 < (65536 : Int32) then x0 else ((x0.toUInt32 >>> ((16 : Int32) &&& 31).toUInt32).toInt32)) < (256 : Int32) then (if x0 < (65536 : Int32) then x0 else ((x0.toUInt32 >>> ((16 : Int32) &&& 31).toUInt32).toInt32)) else (((if x0 < (65536 : Int32) then x0 else ((x0.toUInt32 >>> ((16 : Int32) &&& 31).toUInt32).toInt32)).toUInt32 >>> ((8 : Int32) &&& 31).toUInt32).toInt32)) < (16 : Int32) then (if (if x0 < (65536 : Int32) then x0 else ((x0.toUInt32 >>> ((16 : Int32) &&& 31).toUInt32).toInt32)) < (256 : Int32) then (if x0 < (65536 : Int32) then (31 : Int32) else (15 : Int32)) else ((if x0 < (65536 : Int32) then (31 : Int32) else (15 : Int32)) + (-8 : Int32))) else ((if (if x0 < (65536 : Int32) then x0 else ((x0.toUInt32 >>> ((16 : Int32) &&& 31).toUInt32).toInt32)) < (256 : Int32) then (if x0 < (65536 : Int32) then (31 : Int32) else (15 : Int32)) else ((if x0 < (65536 : Int32) then (31 : Int32) else (15 : Int32)) + (-8 : Int32))) + (-4 : Int32))) else ((if (if (if x0 < (65536 : Int32) then x0 else ((x0.toUInt32 >>> ((16 : Int32) &&& 31).toUInt32).toInt32)) < (256 : Int32) then (if x0 < (65536 : Int32) then x0 else ((x0.toUInt32 >>> ((16 : Int32) &&& 31).toUInt32).toInt32)) else (((if x0 < (65536 : Int32) then x0 else ((x0.toUInt32 >>> ((16 : Int32) &&& 31).toUInt32).toInt32)).toUInt32 >>> ((8 : Int32) &&& 31).toUInt32).toInt32)) < (16 : Int32) then (if (if x0 < (65536 : Int32) then x0 else ((x0.toUInt32 >>> ((16 : Int32) &&& 31).toUInt32).toInt32)) < (256 : Int32) then (if x0 < (65536 : Int32) then (31 : Int32) else (15 : Int32)) else ((if x0 < (65536 : Int32) then (31 : Int32) else (15 : Int32)) + (-8 : Int32))) else ((if (if x0 < (65536 : Int32) then x0 else ((x0.toUInt32 >>> ((16 : Int32) &&& 31).toUInt32).toInt32)) < (256 : Int32) then (if x0 < (65536 : Int32) then (31 : Int32) else (15 : Int32)) else ((if x0 < (65536 : Int32) then (31 : Int32) else (15 : Int32)) + (-8 : Int32))) + (-4 : Int32))) + (-2 : Int32))) - (((if (if (if (if x0 < (65536 : Int32) then x0 else ((x0.toUInt32 >>> ((16 : Int32) &&& 31).toUInt32).toInt32)) < (256 : Int32) then (if x0 < (65536 : Int32) then x0 else ((x0.toUInt32 >>> ((16 : Int32) &&& 31).toUInt32).toInt32)) else (((if x0 < (65536 : Int32) then x0 else ((x0.toUInt32 >>> ((16 : Int32) &&& 31).toUInt32).toInt32)).toUInt32 >>> ((8 : Int32) &&& 31).toUInt32).toInt32)) < (16 : Int32) then (if (if x0 < (65536 : Int32) then x0 else ((x0.toUInt32 >>> ((16 : Int32) &&& 31).toUInt32).toInt32)) < (256 : Int32) then (if x0 < (65536 : Int32) then x0 else ((x0.toUInt32 >>> ((16 : Int32) &&& 31).toUInt32).toInt32)) else (((if x0 < (65536 : Int32) then x0 else ((x0.toUInt32 >>> ((16 : Int32) &&& 31).toUInt32).toInt32)).toUInt32 >>> ((8 : Int32) &&& 31).toUInt32).toInt32)) else (((if (if x0 < (65536 : Int32) then x0 else ((x0.toUInt32 >>> ((16 : Int32) &&& 31).toUInt32).toInt32)) < (256 : Int32) then (if x0 < (65536 : Int32) then x0 else ((x0.toUInt32 >>> ((16 : Int32) &&& 31).toUInt32).toInt32)) else (((if x0 < (65536 : Int32) then x0 else ((x0.toUInt32 >>> ((16 : Int32) &&& 31).toUInt32).toInt32)).toUInt32 >>> ((8 : Int32) &&& 31).toUInt32).toInt32)).toUInt32 >>> ((4 : Int32) &&& 31).toUInt32).toInt32)) < (4 : Int32) then (if (if (if x0 < (65536 : Int32) then x0 else ((x0.toUInt32 >>> ((16 : Int32) &&& 31).toUInt32).toInt32)) < (256 : Int32) then (if x0 < (65536 : Int32) then x0 else ((x0.toUInt32 >>> ((16 : Int32) &&& 31).toUInt32).toInt32)) else (((if x0 < (65536 : Int32) then x0 else ((x0.toUInt32 >>> ((16 : Int32) &&& 31).toUInt32).toInt32)).toUInt32 >>> ((8 : Int32) &&& 31).toUInt32).toInt32)) < (16 : Int32) then (if (if x0 < (65536 : Int32) then x0 else ((x0.toUInt32 >>> ((16 : Int32) &&& 31).toUInt32).toInt32)) < (256 : Int32) then (if x0 < (65536 : Int32) then x0 else ((x0.toUInt32 >>> ((16 : Int32) &&& 31).toUInt32).toInt32)) else (((if x0 < (65536 : Int32) then x0 else ((x0.toUInt32 >>> ((16 : Int32) &&& 31).toUInt32).toInt32)).toUInt32 >>> ((8 : Int32) &&& 31).toUInt32).toInt32)) else (((if (if x0 < (65536 : Int32) then x0 else ((x0.toUInt32 >>> ((16 : Int32) &&& 31).toUInt32).toInt32)) < (256 : Int32) then (if x0 < (65536 : Int32) then x0 else ((x0.toUInt32 >>> ((16 : Int32) &&& 31).toUInt32).toInt32)) else (((if x0 < (65536 : Int32) then x0 else ((x0.toUInt32 >>> ((16 : Int32) &&& 31).toUInt32).toInt32)).toUInt32 >>> ((8 : Int32) &&& 31).toUInt32).toInt32)).toUInt32 >>> ((4 : Int32) &&& 31).toUInt32).toInt32)) else (((if (if (if x0 < (65536 : Int32) then x0 else ((x0.toUInt32 >>> ((16 : Int32) &&& 31).toUInt32).toInt32)) < (256 : Int32) then (if x0 < (65536 : Int32) then x0 else ((x0.toUInt32 >>> ((16 : Int32) &&& 31).toUInt32).toInt32)) else (((if x0 < (65536 : Int32) then x0 else ((x0.toUInt32 >>> ((16 : Int32) &&& 31).toUInt32).toInt32)).toUInt32 >>> ((8 : Int32) &&& 31).toUInt32).toInt32)) < (16 : Int32) then (if (if x0 < (65536 : Int32) then x0 else ((x0.toUInt32 >>> ((16 : Int32) &&& 31).toUInt32).toInt32)) < (256 : Int32) then (if x0 < (65536 : Int32) then x0 else ((x0.toUInt32 >>> ((16 : Int32) &&& 31).toUInt32).toInt32)) else (((if x0 < (65536 : Int32) then x0 else ((x0.toUInt32 >>> ((16 : Int32) &&& 31).toUInt32).toInt32)).toUInt32 >>> ((8 : Int32) &&& 31).toUInt32).toInt32)) else (((if (if x0 < (65536 : Int32) then x0 else ((x0.toUInt32 >>> ((16 : Int32) &&& 31).toUInt32).toInt32)) < (256 : Int32) then (if x0 < (65536 : Int32) then x0 else ((x0.toUInt32 >>> ((16 : Int32) &&& 31).toUInt32).toInt32)) else (((if x0 < (65536 : Int32) then x0 else ((x0.toUInt32 >>> ((16 : Int32) &&& 31).toUInt32).toInt32)).toUInt32 >>> ((8 : Int32) &&& 31).toUInt32).toInt32)).toUInt32 >>> ((4 : Int32) &&& 31).toUInt32).toInt32)).toUInt32 >>> ((2 : Int32) &&& 31).toUInt32).toInt32)).toUInt32 >>> ((1 : Int32) &&& 31).toUInt32).toInt32)))])) (fun t k => XS.isub X0.here hx rfl (hb hby d12_77) rfl k) ?_
    refine own_ret X0 Bd.notSynchronized (some (.int ((if (if (if (if x0 < (65536 : Int32) then x0 else ((x0.toUInt32 >>> ((16 : Int32) &&& 31).toUInt32).toInt32)) < (256 : Int32) then (if x0 < (65536 : Int32) then x0 else ((x0.toUInt32 >>> ((16 : Int32) &&& 31).toUInt32).toInt32)) else (((if x0 < (65536 : Int32) then x0 else ((x0.toUInt32 >>> ((16 : Int32) &&& 31).toUInt32).toInt32)).toUInt32 >>> ((8 : Int32) &&& 31).toUInt32).toInt32)) < (16 : Int32) then (if (if x0 < (65536 : Int32) then x0 else ((x0.toUInt32 >>> ((16 : Int32) &&& 31).toUInt32).toInt32)) < (256 : Int32) then (if x0 < (65536 : Int32) then x0 else ((x0.toUInt32 >>> ((16 : Int32) &&& 31).toUInt32).toInt32)) else (((if x0 < (65536 : Int32) then x0 else ((x0.toUInt32 >>> ((16 : Int32) &&& 31).toUInt32).toInt32)).toUInt32 >>> ((8 : Int32) &&& 31).toUInt32).toInt32)) else (((if (if x0 < (65536 : Int32) then x0 else ((x0.toUInt32 >>> ((16 : Int32) &&& 31).toUInt32).toInt32)) < (256 : Int32) then (if x0 < (65536 : Int32) then x0 else ((x0.toUInt32 >>> ((16 : Int32) &&& 31).toUInt32).toInt32)) else (((if x0 < (65536 : Int32) then x0 else ((x0.toUInt32 >>> ((16 : Int32) &&& 31).toUInt32).toInt32)).toUInt32 >>> ((8 : Int32) &&& 31).toUInt32).toInt32)).toUInt32 >>> ((4 : Int32) &&& 31).toUInt32).toInt32)) < (4 : Int32) then (if (if (if x0 < (65536 : Int32) then x0 else ((x0.toUInt32 >>> ((16 : Int32) &&& 31).toUInt32).toInt32)) < (256 : Int32) then (if x0 < (65536 : Int32) then x0 else ((x0.toUInt32 >>> ((16 : Int32) &&& 31).toUInt32).toInt32)) else (((if x0 < (65536 : Int32) then x0 else ((x0.toUInt32 >>> ((16 : Int32) &&& 31).toUInt32).toInt32)).toUInt32 >>> ((8 : Int32) &&& 31).toUInt32).toInt32)) < (16 : Int32) then (if (if x0 < (65536 : Int32) then x0 else ((x0.toUInt32 >>> ((16 : Int32) &&& 31).toUInt32).toInt32)) < (256 : Int32) then (if x0 < (65536 : Int32) then (31 : Int32) else (15 : Int32)) else ((if x0 < (65536 : Int32) then (31 : Int32) else (15 : Int32)) + (-8 : Int32))) else ((if (if x0 < (65536 : Int32) then x0 else ((x0.toUInt32 >>> ((16 : Int32) &&& 31).toUInt32).toInt32)) < (256 : Int32) then (if x0 < (65536 : Int32) then (31 : Int32) else (15 : Int32)) else ((if x0 < (65536 : Int32) then (31 : Int32) else (15 : Int32)) + (-8 : Int32))) + (-4 : Int32))) else ((if (if (if x0 < (65536 : Int32) then x0 else ((x0.toUInt32 >>> ((16 : Int32) &&& 31).toUInt32).toInt32)) < (256 : Int32) then (if x0 < (65536 : Int32) then x0 else ((x0.toUInt32 >>> ((16 : Int32) &&& 31).toUInt32).toInt32)) else (((if x0 < (65536 : Int32) then x0 else ((x0.toUInt32 >>> ((16 : Int32) &&& 31).toUInt32).toInt32)).toUInt32 >>> ((8 : Int32) &&& 31).toUInt32).toInt32)) < (16 : Int32) then (if (if x0 < (65536 : Int32) then x0 else ((x0.toUInt32 >>> ((16 : Int32) &&& 31).toUInt32).toInt32)) < (256 : Int32) then (if x0 < (65536 : Int32) then (31 : Int32) else (15 : Int32)) else ((if x0 < (65536 : Int32) then (31 : Int32) else (15 : Int32)) + (-8 : Int32))) else ((if (if x0 < (65536 : Int32) then x0 else ((x0.toUInt32 >>> ((16 : Int32) &&& 31).toUInt32).toInt32)) < (256 : Int32) then (if x0 < (65536 : Int32) then (31 : Int32) else (15 : Int32)) else ((if x0 < (65536 : Int32) then (31 : Int32) else (15 : Int32)) + (-8 : Int32))) + (-4 : Int32))) + (-2 : Int32))) - (((if (if (if (if x0 < (65536 : Int32) then x0 else ((x0.toUInt32 >>> ((16 : Int32) &&& 31).toUInt32).toInt32)) < (256 : Int32) then (if x0 < (65536 : Int32) then x0 else ((x0.toUInt32 >>> ((16 : Int32) &&& 31).toUInt32).toInt32)) else (((if x0 < (65536 : Int32) then x0 else ((x0.toUInt32 >>> ((16 : Int32) &&& 31).toUInt32).toInt32)).toUInt32 >>> ((8 : Int32) &&& 31).toUInt32).toInt32)) < (16 : Int32) then (if (if x0 < (65536 : Int32) then x0 else ((x0.toUInt32 >>> ((16 : Int32) &&& 31).toUInt32).toInt32)) < (256 : Int32) then (if x0 < (65536 : Int32) then x0 else ((x0.toUInt32 >>> ((16 : Int32) &&& 31).toUInt32).toInt32)) else (((if x0 < (65536 : Int32) then x0 else ((x0.toUInt32 >>> ((16 : Int32) &&& 31).toUInt32).toInt32)).toUInt32 >>> ((8 : Int32) &&& 31).toUInt32).toInt32)) else (((if (if x0 < (65536 : Int32) then x0 else ((x0.toUInt32 >>> ((16 : Int32) &&& 31).toUInt32).toInt32)) < (256 : Int32) then (if x0 < (65536 : Int32) then x0 else ((x0.toUInt32 >>> ((16 : Int32) &&& 31).toUInt32).toInt32)) else (((if x0 < (65536 : Int32) then x0 else ((x0.toUInt32 >>> ((16 : Int32) &&& 31).toUInt32).toInt32)).toUInt32 >>> ((8 : Int32) &&& 31).toUInt32).toInt32)).toUInt32 >>> ((4 : Int32) &&& 31).toUInt32).toInt32)) < (4 : Int32) then (if (if (if x0 < (65536 : Int32) then x0 else ((x0.toUInt32 >>> ((16 : Int32) &&& 31).toUInt32).toInt32)) < (256 : Int32) then (if x0 < (65536 : Int32) then x0 else ((x0.toUInt32 >>> ((16 : Int32) &&& 31).toUInt32).toInt32)) else (((if x0 < (65536 : Int32) then x0 else ((x0.toUInt32 >>> ((16 : Int32) &&& 31).toUInt32).toInt32)).toUInt32 >>> ((8 : Int32) &&& 31).toUInt32).toInt32)) < (16 : Int32) then (if (if x0 < (65536 : Int32) then x0 else ((x0.toUInt32 >>> ((16 : Int32) &&& 31).toUInt32).toInt32)) < (256 : Int32) then (if x0 < (65536 : Int32) then x0 else ((x0.toUInt32 >>> ((16 : Int32) &&& 31).toUInt32).toInt32)) else (((if x0 < (65536 : Int32) then x0 else ((x0.toUInt32 >>> ((16 : Int32) &&& 31).toUInt32).toInt32)).toUInt32 >>> ((8 : Int32) &&& 31).toUInt32).toInt32)) else (((if (if x0 < (65536 : Int32) then x0 else ((x0.toUInt32 >>> ((16 : Int32) &&& 31).toUInt32).toInt32)) < (256 : Int32) then (if x0 < (65536 : Int32) then x0 else ((x0.toUInt32 >>> ((16 : Int32) &&& 31).toUInt32).toInt32)) else (((if x0 < (65536 : Int32) then x0 else ((x0.toUInt32 >>> ((16 : Int32) &&& 31).toUInt32).toInt32)).toUInt32 >>> ((8 : Int32) &&& 31).toUInt32).toInt32)).toUInt32 >>> ((4 : Int32) &&& 31).toUInt32).toInt32)) else (((if (if (if x0 < (65536 : Int32) then x0 else ((x0.toUInt32 >>> ((16 : Int32) &&& 31).toUInt32).toInt32)) < (256 : Int32) then (if x0 < (65536 : Int32) then x0 else ((x0.toUInt32 >>> ((16 : Int32) &&& 31).toUInt32).toInt32)) else (((if x0 < (65536 : Int32) then x0 else ((x0.toUInt32 >>> ((16 : Int32) &&& 31).toUInt32).toInt32)).toUInt32 >>> ((8 : Int32) &&& 31).toUInt32).toInt32)) < (16 : Int32) then (if (if x0 < (65536 : Int32) then x0 else ((x0.toUInt32 >>> ((16 : Int32) &&& 31).toUInt32).toInt32)) < (256 : Int32) then (if x0 < (65536 : Int32) then x0 else ((x0.toUInt32 >>> ((16 : Int32) &&& 31).toUInt32).toInt32)) else (((if x0 < (65536 : Int32) then x0 else ((x0.toUInt32 >>> ((16 : Int32) &&& 31).toUInt32).toInt32)).toUInt32 >>> ((8 : Int32) &&& 31).toUInt32).toInt32)) else (((if (if x0 < (65536 : Int32) then x0 else ((x0.toUInt32 >>> ((16 : Int32) &&& 31).toUInt32).toInt32)) < (256 : Int32) then (if x0 < (65536 : Int32) then x0 else ((x0.toUInt32 >>> ((16 : Int32) &&& 31).toUInt32).toInt32)) else (((if x0 < (65536 : Int32) then x0 else ((x0.toUInt32 >>> ((16 : Int32) &&& 31).toUInt32).toInt32)).toUInt32 >>> ((8 : Int32) &&& 31).toUInt32).toInt32)).toUInt32 >>> ((4 : Int32) &&& 31).toUInt32).toInt32)).toUInt32 >>> ((2 : Int32) &&& 31).toUInt32).toInt32)).toUInt32 >>> ((1 : Int32) &&& 31).toUInt32).toInt32)))) (fun h => by rw [Bd.returns] at h; cases h) (fun fs hr => own_retI X0 hx Bd.returns (hb hby d12_78) hr) ?_ (by decide) (by decide)
    rw [e0]
    exact ⟨((if (if (if (if x0 < (65536 : Int32) then x0 else ((x0.toUInt32 >>> ((16 : Int32) &&& 31).toUInt32).toInt32)) < (256 : Int32) then (if x0 < (65536 : Int32) then x0 else ((x0.toUInt32 >>> ((16 : Int32) &&& 31).toUInt32).toInt32)) else (((if x0 < (65536 : Int32) then x0 else ((x0.toUInt32 >>> ((16 : Int32) &&& 31).toUInt32).toInt32)).toUInt32 >>> ((8 : Int32) &&& 31).toUInt32).toInt32)) < (16 : Int32) then (if (if x0 < (65536 : Int32) then x0 else ((x0.toUInt32 >>> ((16 : Int32) &&& 31).toUInt32).toInt32)) < (256 : Int32) then (if x0 < (65536 : Int32) then x0 else ((x0.toUInt32 >>> ((16 : Int32) &&& 31).toUInt32).toInt32)) else (((if x0 < (65536 : Int32) then x0 else ((x0.toUInt32 >>> ((16 : Int32) &&& 31).toUInt32).toInt32)).toUInt32 >>> ((8 : Int32) &&& 31).toUInt32).toInt32)) else (((if (if x0 < (65536 : Int32) then x0 else ((x0.toUInt32 >>> ((16 : Int32) &&& 31).toUInt32).toInt32)) < (256 : Int32) then (if x0 < (65536 : Int32) then x0 else ((x0.toUInt32 >>> ((16 : Int32) &&& 31).toUInt32).toInt32)) else (((if x0 < (65536 : Int32) then x0 else ((x0.toUInt32 >>> ((16 : Int32) &&& 31).toUInt32).toInt32)).toUInt32 >>> ((8 : Int32) &&& 31).toUInt32).toInt32)).toUInt32 >>> ((4 : Int32) &&& 31).toUInt32).toInt32)) < (4 : Int32) then (if (if (if x0 < (65536 : Int32) then x0 else ((x0.toUInt32 >>> ((16 : Int32) &&& 31).toUInt32).toInt32)) < (256 : Int32) then (if x0 < (65536 : Int32) then x0 else ((x0.toUInt32 >>> ((16 : Int32) &&& 31).toUInt32).toInt32)) else (((if x0 < (65536 : Int32) then x0 else ((x0.toUInt32 >>> ((16 : Int32) &&& 31).toUInt32).toInt32)).toUInt32 >>> ((8 : Int32) &&& 31).toUInt32).toInt32)) < (16 : Int32) then (if (if x0 < (65536 : Int32) then x0 else ((x0.toUInt32 >>> ((16 : Int32) &&& 31).toUInt32).toInt32)) < (256 : Int32) then (if x0 < (65536 : Int32) then (31 : Int32) else (15 : Int32)) else ((if x0 < (65536 : Int32) then (31 : Int32) else (15 : Int32)) + (-8 : Int32))) else ((if (if x0 < (65536 : Int32) then x0 else ((x0.toUInt32 >>> ((16 : Int32) &&& 31).toUInt32).toInt32)) < (256 : Int32) then (if x0 < (65536 : Int32) then (31 : Int32) else (15 : Int32)) else ((if x0 < (65536 : Int32) then (31 : Int32) else (15 : Int32)) + (-8 : Int32))) + (-4 : Int32))) else ((if (if (if x0 < (65536 : Int32) then x0 else ((x0.toUInt32 >>> ((16 : Int32) &&& 31).toUInt32).toInt32)) < (256 : Int32) then (if x0 < (65536 : Int32) then x0 else ((x0.toUInt32 >>> ((16 : Int32) &&& 31).toUInt32).toInt32)) else (((if x0 < (65536 : Int32) then x0 else ((x0.toUInt32 >>> ((16 : Int32) &&& 31).toUInt32).toInt32)).toUInt32 >>> ((8 : Int32) &&& 31).toUInt32).toInt32)) < (16 : Int32) then (if (if x0 < (65536 : Int32) then x0 else ((x0.toUInt32 >>> ((16 : Int32) &&& 31).toUInt32).toInt32)) < (256 : Int32) then (if x0 < (65536 : Int32) then (31 : Int32) else (15 : Int32)) else ((if x0 < (65536 : Int32) then (31 : Int32) else (15 : Int32)) + (-8 : Int32))) else ((if (if x0 < (65536 : Int32) then x0 else ((x0.toUInt32 >>> ((16 : Int32) &&& 31).toUInt32).toInt32)) < (256 : Int32) then (if x0 < (65536 : Int32) then (31 : Int32) else (15 : Int32)) else ((if x0 < (65536 : Int32) then (31 : Int32) else (15 : Int32)) + (-8 : Int32))) + (-4 : Int32))) + (-2 : Int32))) - (((if (if (if (if x0 < (65536 : Int32) then x0 else ((x0.toUInt32 >>> ((16 : Int32) &&& 31).toUInt32).toInt32)) < (256 : Int32) then (if x0 < (65536 : Int32) then x0 else ((x0.toUInt32 >>> ((16 : Int32) &&& 31).toUInt32).toInt32)) else (((if x0 < (65536 : Int32) then x0 else ((x0.toUInt32 >>> ((16 : Int32) &&& 31).toUInt32).toInt32)).toUInt32 >>> ((8 : Int32) &&& 31).toUInt32).toInt32)) < (16 : Int32) then (if (if x0 < (65536 : Int32) then x0 else ((x0.toUInt32 >>> ((16 : Int32) &&& 31).toUInt32).toInt32)) < (256 : Int32) then (if x0 < (65536 : Int32) then x0 else ((x0.toUInt32 >>> ((16 : Int32) &&& 31).toUInt32).toInt32)) else (((if x0 < (65536 : Int32) then x0 else ((x0.toUInt32 >>> ((16 : Int32) &&& 31).toUInt32).toInt32)).toUInt32 >>> ((8 : Int32) &&& 31).toUInt32).toInt32)) else (((if (if x0 < (65536 : Int32) then x0 else ((x0.toUInt32 >>> ((16 : Int32) &&& 31).toUInt32).toInt32)) < (256 : Int32) then (if x0 < (65536 : Int32) then x0 else ((x0.toUInt32 >>> ((16 : Int32) &&& 31).toUInt32).toInt32)) else (((if x0 < (65536 : Int32) then x0 else ((x0.toUInt32 >>> ((16 : Int32) &&& 31).toUInt32).toInt32)).toUInt32 >>> ((8 : Int32) &&& 31).toUInt32).toInt32)).toUInt32 >>> ((4 : Int32) &&& 31).toUInt32).toInt32)) < (4 : Int32) then (if (if (if x0 < (65536 : Int32) then x0 else ((x0.toUInt32 >>> ((16 : Int32) &&& 31).toUInt32).toInt32)) < (256 : Int32) then (if x0 < (65536 : Int32) then x0 else ((x0.toUInt32 >>> ((16 : Int32) &&& 31).toUInt32).toInt32)) else (((if x0 < (65536 : Int32) then x0 else ((x0.toUInt32 >>> ((16 : Int32) &&& 31).toUInt32).toInt32)).toUInt32 >>> ((8 : Int32) &&& 31).toUInt32).toInt32)) < (16 : Int32) then (if (if x0 < (65536 : Int32) then x0 else ((x0.toUInt32 >>> ((16 : Int32) &&& 31).toUInt32).toInt32)) < (256 : Int32) then (if x0 < (65536 : Int32) then x0 else ((x0.toUInt32 >>> ((16 : Int32) &&& 31).toUInt32).toInt32)) else (((if x0 < (65536 : Int32) then x0 else ((x0.toUInt32 >>> ((16 : Int32) &&& 31).toUInt32).toInt32)).toUInt32 >>> ((8 : Int32) &&& 31).toUInt32).toInt32)) else (((if (if x0 < (65536 : Int32) then x0 else ((x0.toUInt32 >>> ((16 : Int32) &&& 31).toUInt32).toInt32)) < (256 : Int32) then (if x0 < (65536 : Int32) then x0 else ((x0.toUInt32 >>> ((16 : Int32) &&& 31).toUInt32).toInt32)) else (((if x0 < (65536 : Int32) then x0 else ((x0.toUInt32 >>> ((16 : Int32) &&& 31).toUInt32).toInt32)).toUInt32 >>> ((8 : Int32) &&& 31).toUInt32).toInt32)).toUInt32 >>> ((4 : Int32) &&& 31).toUInt32).toInt32)) else (((if (if (if x0 < (65536 : Int32) then x0 else ((x0.toUInt32 >>> ((16 : Int32) &&& 31).toUInt32).toInt32)) < (256 : Int32) then (if x0 < (65536 : Int32) then x0 else ((x0.toUInt32 >>> ((16 : Int32) &&& 31).toUInt32).toInt32)) else (((if x0 < (65536 : Int32) then x0 else ((x0.toUInt32 >>> ((16 : Int32) &&& 31).toUInt32).toInt32)).toUInt32 >>> ((8 : Int32) &&& 31).toUInt32).toInt32)) < (16 : Int32) then (if (if x0 < (65536 : Int32) then x0 else ((x0.toUInt32 >>> ((16 : Int32) &&& 31).toUInt32).toInt32)) < (256 : Int32) then (if x0 < (65536 : Int32) then x0 else ((x0.toUInt32 >>> ((16 : Int32) &&& 31).toUInt32).toInt32)) else (((if x0 < (65536 : Int32) then x0 else ((x0.toUInt32 >>> ((16 : Int32) &&& 31).toUInt32).toInt32)).toUInt32 >>> ((8 : Int32) &&& 31).toUInt32).toInt32)) else (((if (if x0 < (65536 : Int32) then x0 else ((x0.toUInt32 >>> ((16 : Int32) &&& 31).toUInt32).toInt32)) < (256 : Int32) then (if x0 < (65536 : Int32) then x0 else ((x0.toUInt32 >>> ((16 : Int32) &&& 31).toUInt32).toInt32)) else (((if x0 < (65536 : Int32) then x0 else ((x0.toUInt32 >>> ((16 : Int32) &&& 31).toUInt32).toInt32)).toUInt32 >>> ((8 : Int32) &&& 31).toUInt32).toInt32)).toUInt32 >>> ((4 : Int32) &&& 31).toUInt32).toInt32)).toUInt32 >>> ((2 : Int32) &&& 31).toUInt32).toInt32)).toUInt32 >>> ((1 : Int32) &&& 31).toUInt32).toInt32)), rfl, N0, rfl⟩
  · refine own_step (st' := s₁.setTop (mkF m 4 #[.val (.int x0), .unset] [])) (fun t k => XS.ifNo X0.here hx rfl (hb hby d12_1) rfl ((if0 _ _).trans (flt hc1).2.2.1) k) ?_
    refine own_step (st' := s₁.setTop (mkF m 5 #[.val (.int x0), .unset] [(.int x0)])) (fun t k => XS.iloadN X0.here hx rfl (hb hby d12_4) rfl k) ?_
    refine own_step (st' := s₁.setTop (mkF m 14 #[.val (.int x0), .unset] [(.int (if x0 = (0 : Int32) then (32 : Int32) else (0 : Int32)))])) (fun t k => ?_) ?_
    · by_cases hc6 : x0 = (0 : Int32)
      · refine XS.ifNo X0.here hx rfl (hb hby d12_5) rfl ((if0 _ _).trans (teq hc6).2) (?_ : Steps p.tables e below (s₁.setTop (mkF m 8 #[.val (.int x0), .unset] [])) _)
        refine XS.bipush X0.here hx rfl (hb hby d12_8) (?_ : Steps p.tables e below (s₁.setTop (mkF m 10 #[.val (.int x0), .unset] [(.int (32 : Int32))])) _)
        refine XS.goto X0.here hx rfl (pc0 := 10) (pc' := 14) rfl (hb hby d12_10) (by decide) (by decide) (?_ : Steps p.tables e below (s₁.setTop (mkF m 14 #[.val (.int x0), .unset] [(.int (32 : Int32))])) _)
        simpa only [if_pos hc6] using k
      · refine XS.ifYes X0.here hx rfl (pc0 := 5) (pc' := 13) rfl (hb hby d12_5) rfl ((if0 _ _).trans (feq hc6).2) (by decide) (by decide) (?_ : Steps p.tables e below (s₁.setTop (mkF m 13 #[.val (.int x0), .unset] [])) _)
        refine XS.iconst X0.here hx rfl (hb hby d12_13) (?_ : Steps p.tables e below (s₁.setTop (mkF m 14 #[.val (.int x0), .unset] [(.int (0 : Int32))])) _)
        simpa only [if_neg hc6] using k
    refine own_ret X0 Bd.notSynchronized (some (.int (if x0 = (0 : Int32) then (32 : Int32) else (0 : Int32)))) (fun h => by rw [Bd.returns] at h; cases h) (fun fs hr => own_retI X0 hx Bd.returns (hb hby d12_14) hr) ?_ (by decide) (by decide)
    rw [e0]
    exact ⟨(if x0 = (0 : Int32) then (32 : Int32) else (0 : Int32)), rfl, N0, rfl⟩
theorem d11_0 : decode jdk_69_method_4_code 0 = .ok (.iconst (-1), 1) := by decide +kernel
theorem d11_1 : decode jdk_69_method_4_code 1 = .ok (.iload_n 0, 1) := by decide +kernel
theorem d11_2 : decode jdk_69_method_4_code 2 = .ok (.iconst 1, 1) := by decide +kernel
theorem d11_3 : decode jdk_69_method_4_code 3 = .ok (.isub, 1) := by decide +kernel
theorem d11_4 : decode jdk_69_method_4_code 4 = .ok (.invokestatic 34, 3) := by decide +kernel
theorem d11_7 : decode jdk_69_method_4_code 7 = .ok (.iushr, 1) := by decide +kernel
theorem d11_8 : decode jdk_69_method_4_code 8 = .ok (.istore_n 1, 1) := by decide +kernel
theorem d11_9 : decode jdk_69_method_4_code 9 = .ok (.iload_n 1, 1) := by decide +kernel
theorem d11_10 : decode jdk_69_method_4_code 10 = .ok (.ifCond .ge 7, 3) := by decide +kernel
theorem d11_13 : decode jdk_69_method_4_code 13 = .ok (.iconst 1, 1) := by decide +kernel
theorem d11_14 : decode jdk_69_method_4_code 14 = .ok (.goto 17, 3) := by decide +kernel
theorem d11_17 : decode jdk_69_method_4_code 17 = .ok (.iload_n 1, 1) := by decide +kernel
theorem d11_18 : decode jdk_69_method_4_code 18 = .ok (.ldc 42, 2) := by decide +kernel
theorem d11_20 : decode jdk_69_method_4_code 20 = .ok (.if_icmp .lt 8, 3) := by decide +kernel
theorem d11_23 : decode jdk_69_method_4_code 23 = .ok (.ldc 42, 2) := by decide +kernel
theorem d11_25 : decode jdk_69_method_4_code 25 = .ok (.goto 6, 3) := by decide +kernel
theorem d11_28 : decode jdk_69_method_4_code 28 = .ok (.iload_n 1, 1) := by decide +kernel
theorem d11_29 : decode jdk_69_method_4_code 29 = .ok (.iconst 1, 1) := by decide +kernel
theorem d11_30 : decode jdk_69_method_4_code 30 = .ok (.iadd, 1) := by decide +kernel
theorem d11_31 : decode jdk_69_method_4_code 31 = .ok (.ireturn, 1) := by decide +kernel
theorem pn_11 : plainName "java/util/HashMap" = true := by first | (simp [plainName, overriddenIn]; done) | decide +kernel
theorem ef_11_I (m : MethodId) (x0 : Int32) : entryFrame m #[(.int x0)] 2 = mkF m 0 #[.val (.int x0), .unset] [] := by first | (simp [entryFrame, mkF, argsToLocals, Value.category]; done) | rfl
def Q_rm11 (Z : State) (x0 : Int32) (h0 : Heap) (n0 : Nat) (v : Option Value) (h : Heap) (L : List Loc) : Prop := ∃ z : Int32, v = some (.int z) ∧ Fr n0 L ∧ h = h0
set_option maxRecDepth 65536 in
set_option maxHeartbeats 40000000 in
theorem rm11 (l : Launch) (Z : State) (a0 : Array Value) (hw : ∀ d ∈ tables_1, d.before a0 Z = true) (ws : List Jvm.Cond) (x0 : Int32) (h0 : Heap) (n0 : Nat) (Z0 : n0 ≤ h0.size) :
    MetFree l (⟨"java/util/HashMap", "tableSizeFor", "(I)I"⟩ : MethodName) (head1 (Jvm.Cond.code (⟨"java/util/HashMap", "tableSizeFor", "(I)I"⟩ : MethodName) jdk_69_method_4_code 2 (some .int) :: ws) ({ frames := 1, cells := 0, slots := 0, locals := 14 } : Room)) (fun a U => a = #[(.int x0)] ∧ Z.Warmed39 U.vm ∧ U.heap = h0) (fun _ _ _ _ _ => True) (fun _ U o U' => ∃ v L, o = .returned v ∧ Q_rm11 Z x0 h0 n0 v U'.heap L ∧ FrameEnd U o U' L ({ frames := 1, cells := 0, slots := 0, locals := 14 } : Room).cells ({ frames := 1, cells := 0, slots := 0, locals := 14 } : Room).slots) := by
  refine MetFree.of_bodySF (plainFor_of_name pn_11) hisR ?_
  intro p e s m args below meth c s₁ Bd hml0 hP hK
  obtain ⟨rfl, hZ, hh⟩ := hP
  have hx := Bd.exec
  have hby := Bd.bytes
  have hml : c.maxLocals = 2 := hml0
  have hown : s.vm.findClass "java/util/HashMap" = some m.cls := findClass_of_methodNamed Bd.named
  have hnm := (name_of_methodNamed Bd.named Bd.method).1
  have X0 : Stand p l e ({ frames := 1, cells := 0, slots := 0, locals := 14 } : Room) s m #[(.int x0)] below meth c s₁ [] 0 0 := Stand.of_body Bd
  have e0 : s₁.heap = h0 := by rw [← hh, Bd.state]; rfl
  have N0 := Fr.nil n0
  show own_Ends p e below s ({ frames := 1, cells := 0, slots := 0, locals := 14 } : Room).cells ({ frames := 1, cells := 0, slots := 0, locals := 14 } : Room).slots (Q_rm11 Z x0 h0 n0) (s₁.setTop (entryFrame m #[(.int x0)] 2))
  rw [ef_11_I]
  refine own_step (st' := s₁.setTop (mkF m 1 #[.val (.int x0), .unset] [(.int (-1 : Int32))])) (fun t k => XS.iconst X0.here hx rfl (hb hby d11_0) k) ?_
  refine own_step (st' := s₁.setTop (mkF m 2 #[.val (.int x0), .unset] [(.int x0), (.int (-1 : Int32))])) (fun t k => XS.iloadN X0.here hx rfl (hb hby d11_1) rfl k) ?_
  refine own_step (st' := s₁.setTop (mkF m 3 #[.val (.int x0), .unset] [(.int (1 : Int32)), (.int x0), (.int (-1 : Int32))])) (fun t k => XS.iconst X0.here hx rfl (hb hby d11_2) k) ?_
  refine own_step (st' := s₁.setTop (mkF m 4 #[.val (.int x0), .unset] [(.int (x0 - (1 : Int32))), (.int (-1 : Int32))])) (fun t k => XS.isub X0.here hx rfl (hb hby d11_3) rfl k) ?_
  obtain ⟨_, _, ⟨T1, L1, k1, n1⟩, -, X1, ⟨Lc1, hQ1, l1, y1, z1⟩, st1⟩ := Jvm.LawKit.callS X0 hx (y := (⟨"java/lang/Integer", "numberOfLeadingZeros", "(I)I"⟩ : MethodName)) hown (mvT hZ (hw _ (List.mem_of_getElem? (i := 65) rfl))) (mvT hZ (hw _ (List.mem_of_getElem? (i := 66) rfl))) (mvT hZ (hw _ (List.mem_of_getElem? (i := 67) rfl))) (mvT hZ (hw _ (List.mem_of_getElem? (i := 68) rfl))) (by decide) (backOf (W := 1) (rm12 l Z a0 hw [] (x0 - (1 : Int32)) h0 n0 Z0) hZ (hw _ (List.mem_of_getElem? (i := 68) rfl)) (hw _ (List.mem_of_getElem? (i := 67) rfl)) (by decide) (by decide)) (g := (mkF m 4 #[.val (.int x0), .unset] [(.int (x0 - (1 : Int32))), (.int (-1 : Int32))])) rfl (by rw [hml]; rfl) (argsL := [(.int (x0 - (1 : Int32)))]) (rest := [(.int (-1 : Int32))]) (lenOf pd_5 rfl) rfl (by show 2 * 0 + _ ≤ _; exact Nat.le_of_eq rfl) (hb hby d11_4) (fun _ _ => ⟨rfl, e0, (by decide : 0 + 0 ≤ _), (by decide : 0 + 0 ≤ _)⟩)
  dsimp only [Pt.U, Pt.locs, Pt.cells, Pt.slots] at X1 l1 y1 z1 st1 hQ1
  subst l1 y1 z1
  obtain ⟨z_1, rfl, N1q, e1⟩ := hQ1
  have N1 := Fr.app N0 N1q
  refine own_step (st' := T1.setTop (mkF m 7 #[.val (.int x0), .unset] [(.int z_1), (.int (-1 : Int32))])) st1 ?_
  refine own_step (st' := T1.setTop (mkF m 8 #[.val (.int x0), .unset] [(.int (((-1 : Int32).toUInt32 >>> (z_1 &&& 31).toUInt32).toInt32))])) (fun t k => XS.iushr X1.here hx rfl (hb hby d11_7) rfl k) ?_
  refine own_step (st' := T1.setTop (mkF m 9 #[.val (.int x0), .val (.int (((-1 : Int32).toUInt32 >>> (z_1 &&& 31).toUInt32).toInt32))] [])) (fun t k => XS.istoreN X1.here hx rfl (hb hby d11_8) rfl (l' := #[.val (.int x0), .val (.int (((-1 : Int32).toUInt32 >>> (z_1 &&& 31).toUInt32).toInt32))]) rfl k) ?_
  refine own_step (st' := T1.setTop (mkF m 10 #[.val (.int x0), .val (.int (((-1 : Int32).toUInt32 >>> (z_1 &&& 31).toUInt32).toInt32))] [(.int (((-1 : Int32).toUInt32 >>> (z_1 &&& 31).toUInt32).toInt32))])) (fun t k => XS.iloadN X1.here hx rfl (hb hby d11_9) rfl k) ?_
  by_cases hc2 : (((-1 : Int32).toUInt32 >>> (z_1 &&& 31).toUInt32).toInt32) < (0 : Int32)
  · refine own_step (st' := T1.setTop (mkF m 13 #[.val (.int x0), .val (.int (((-1 : Int32).toUInt32 >>> (z_1 &&& 31).toUInt32).toInt32))] [])) (fun t k => XS.ifNo X1.here hx rfl (hb hby d11_10) rfl ((if0 _ _).trans (tlt hc2).2.1) k) ?_
    refine own_step (st' := T1.setTop (mkF m 14 #[.val (.int x0), .val (.int (((-1 : Int32).toUInt32 >>> (z_1 &&& 31).toUInt32).toInt32))] [(.int (1 : Int32))])) (fun t k => XS.iconst X1.here hx rfl (hb hby d11_13) k) ?_
    refine own_step (st' := T1.setTop (mkF m 31 #[.val (.int x0), .val (.int (((-1 : Int32).toUInt32 >>> (z_1 &&& 31).toUInt32).toInt32))] [(.int (1 : Int32))])) (fun t k => XS.goto X1.here hx rfl (pc0 := 14) (pc' := 31) rfl (hb hby d11_14) (by decide) (by decide) k) ?_
    refine own_ret X1 Bd.notSynchronized (some (.int (1 : Int32))) (fun h => by rw [Bd.returns] at h; cases h) (fun fs hr => own_retI X1 hx Bd.returns (hb hby d11_31) hr) ?_ (by decide) (by decide)
    rw [e1]
    exact ⟨(1 : Int32), rfl, N1, rfl⟩
  · refine own_step (st' := T1.setTop (mkF m 17 #[.val (.int x0), .val (.int (((-1 : Int32).toUInt32 >>> (z_1 &&& 31).toUInt32).toInt32))] [])) (fun t k => XS.ifYes X1.here hx rfl (pc0 := 10) (pc' := 17) rfl (hb hby d11_10) rfl ((if0 _ _).trans (flt hc2).2.1) (by decide) (by decide) k) ?_
    refine own_step (st' := T1.setTop (mkF m 18 #[.val (.int x0), .val (.int (((-1 : Int32).toUInt32 >>> (z_1 &&& 31).toUInt32).toInt32))] [(.int (((-1 : Int32).toUInt32 >>> (z_1 &&& 31).toUInt32).toInt32))])) (fun t k => XS.iloadN X1.here hx rfl (hb hby d11_17) rfl k) ?_
    refine own_step (st' := T1.setTop (mkF m 20 #[.val (.int x0), .val (.int (((-1 : Int32).toUInt32 >>> (z_1 &&& 31).toUInt32).toInt32))] [(.int (1073741824 : Int32)), (.int (((-1 : Int32).toUInt32 >>> (z_1 &&& 31).toUInt32).toInt32))])) (fun t k => X1.ldcInt hx hown (mvT hZ (hw _ (List.mem_of_getElem? (i := 55) rfl))) (g := (mkF m 18 #[.val (.int x0), .val (.int (((-1 : Int32).toUInt32 >>> (z_1 &&& 31).toUInt32).toInt32))] [(.int (((-1 : Int32).toUInt32 >>> (z_1 &&& 31).toUInt32).toInt32))])) rfl (hb hby d11_18) t k) ?_
    by_cases hc3 : (((-1 : Int32).toUInt32 >>> (z_1 &&& 31).toUInt32).toInt32) < (1073741824 : Int32)
    · refine own_step (st' := T1.setTop (mkF m 28 #[.val (.int x0), .val (.int (((-1 : Int32).toUInt32 >>> (z_1 &&& 31).toUInt32).toInt32))] [])) (fun t k => XS.icmpYes X1.here hx rfl (pc0 := 20) (pc' := 28) rfl (hb hby d11_20) rfl (tlt hc3).1 (by decide) (by decide) k) ?_
      refine own_step (st' := T1.setTop (mkF m 29 #[.val (.int x0), .val (.int (((-1 : Int32).toUInt32 >>> (z_1 &&& 31).toUInt32).toInt32))] [(.int (((-1 : Int32).toUInt32 >>> (z_1 &&& 31).toUInt32).toInt32))])) (fun t k => XS.iloadN X1.here hx rfl (hb hby d11_28) rfl k) ?_
      refine own_step (st' := T1.setTop (mkF m 30 #[.val (.int x0), .val (.int (((-1 : Int32).toUInt32 >>> (z_1 &&& 31).toUInt32).toInt32))] [(.int (1 : Int32)), (.int (((-1 : Int32).toUInt32 >>> (z_1 &&& 31).toUInt32).toInt32))])) (fun t k => XS.iconst X1.here hx rfl (hb hby d11_29) k) ?_
      refine own_step (st' := T1.setTop (mkF m 31 #[.val (.int x0), .val (.int (((-1 : Int32).toUInt32 >>> (z_1 &&& 31).toUInt32).toInt32))] [(.int ((((-1 : Int32).toUInt32 >>> (z_1 &&& 31).toUInt32).toInt32) + (1 : Int32)))])) (fun t k => XS.iadd X1.here hx rfl (hb hby d11_30) rfl k) ?_
      refine own_ret X1 Bd.notSynchronized (some (.int ((((-1 : Int32).toUInt32 >>> (z_1 &&& 31).toUInt32).toInt32) + (1 : Int32)))) (fun h => by rw [Bd.returns] at h; cases h) (fun fs hr => own_retI X1 hx Bd.returns (hb hby d11_31) hr) ?_ (by decide) (by decide)
      rw [e1]
      exact ⟨((((-1 : Int32).toUInt32 >>> (z_1 &&& 31).toUInt32).toInt32) + (1 : Int32)), rfl, N1, rfl⟩
    · refine own_step (st' := T1.setTop (mkF m 23 #[.val (.int x0), .val (.int (((-1 : Int32).toUInt32 >>> (z_1 &&& 31).toUInt32).toInt32))] [])) (fun t k => XS.icmpNo X1.here hx rfl (hb hby d11_20) rfl (flt hc3).1 k) ?_
      refine own_step (st' := T1.setTop (mkF m 25 #[.val (.int x0), .val (.int (((-1 : Int32).toUInt32 >>> (z_1 &&& 31).toUInt32).toInt32))] [(.int (1073741824 : Int32))])) (fun t k => X1.ldcInt hx hown (mvT hZ (hw _ (List.mem_of_getElem? (i := 55) rfl))) (g := (mkF m 23 #[.val (.int x0), .val (.int (((-1 : Int32).toUInt32 >>> (z_1 &&& 31).toUInt32).toInt32))] [])) rfl (hb hby d11_23) t k) ?_
      refine own_step (st' := T1.setTop (mkF m 31 #[.val (.int x0), .val (.int (((-1 : Int32).toUInt32 >>> (z_1 &&& 31).toUInt32).toInt32))] [(.int (1073741824 : Int32))])) (fun t k => XS.goto X1.here hx rfl (pc0 := 25) (pc' := 31) rfl (hb hby d11_25) (by decide) (by decide) k) ?_
      refine own_ret X1 Bd.notSynchronized (some (.int (1073741824 : Int32))) (fun h => by rw [Bd.returns] at h; cases h) (fun fs hr => own_retI X1 hx Bd.returns (hb hby d11_31) hr) ?_ (by decide) (by decide)
      rw [e1]
      exact ⟨(1073741824 : Int32), rfl, N1, rfl⟩
theorem d10_0 : decode jdk_118_method_6_code 0 = .ok (.fload_n 0, 1) := by decide +kernel
theorem d10_1 : decode jdk_118_method_6_code 1 = .ok (.fload_n 0, 1) := by decide +kernel
theorem d10_2 : decode jdk_118_method_6_code 2 = .ok (.fcmp .l, 1) := by decide +kernel
theorem d10_3 : decode jdk_118_method_6_code 3 = .ok (.ifCond .eq 7, 3) := by decide +kernel
theorem d10_10 : decode jdk_118_method_6_code 10 = .ok (.iconst 0, 1) := by decide +kernel
theorem d10_11 : decode jdk_118_method_6_code 11 = .ok (.ireturn, 1) := by decide +kernel
theorem pf_10 : plainFor (⟨"java/lang/Float", "isNaN", "(F)Z"⟩ : MethodName) = true := by decide +kernel
theorem ef_10_F (m : MethodId) (x0 : UInt32) : entryFrame m #[(.float x0)] 1 = mkF m 0 #[.val (.float x0)] [] := by first | (simp [entryFrame, mkF, argsToLocals, Value.category]; done) | rfl
def Q_rm10 (Z : State) (x0 : UInt32) (h0 : Heap) (n0 : Nat) (v : Option Value) (h : Heap) (L : List Loc) : Prop := v = some (.int (0 : Int32)) ∧ Fr n0 L ∧ h = h0
set_option maxRecDepth 65536 in
set_option maxHeartbeats 40000000 in
theorem rm10 (l : Launch) (Z : State) (a0 : Array Value) (hw : ∀ d ∈ tables_1, d.before a0 Z = true) (ws : List Jvm.Cond) (x0 : UInt32) (h0 : Heap) (n0 : Nat) (Z0 : n0 ≤ h0.size) (p_0 : x0 = (1061158912 : UInt32)) :
    MetFree l (⟨"java/lang/Float", "isNaN", "(F)Z"⟩ : MethodName) (head1 (Jvm.Cond.code (⟨"java/lang/Float", "isNaN", "(F)Z"⟩ : MethodName) jdk_118_method_6_code 1 (some .boolean) :: ws) ({ frames := 0, cells := 0, slots := 0, locals := 0 } : Room)) (fun a U => a = #[(.float x0)] ∧ Z.Warmed39 U.vm ∧ U.heap = h0) (fun _ _ _ _ _ => True) (fun _ U o U' => ∃ v L, o = .returned v ∧ Q_rm10 Z x0 h0 n0 v U'.heap L ∧ FrameEnd U o U' L ({ frames := 0, cells := 0, slots := 0, locals := 0 } : Room).cells ({ frames := 0, cells := 0, slots := 0, locals := 0 } : Room).slots) := by
  refine MetFree.of_bodySF pf_10 hisR ?_
  intro p e s m args below meth c s₁ Bd hml0 hP hK
  obtain ⟨rfl, hZ, hh⟩ := hP
  have hx := Bd.exec
  have hby := Bd.bytes
  have hml : c.maxLocals = 1 := hml0
  have hown : s.vm.findClass "java/lang/Float" = some m.cls := findClass_of_methodNamed Bd.named
  have hnm := (name_of_methodNamed Bd.named Bd.method).1
  have X0 : Stand p l e ({ frames := 0, cells := 0, slots := 0, locals := 0 } : Room) s m #[(.float x0)] below meth c s₁ [] 0 0 := Stand.of_body Bd
  have e0 : s₁.heap = h0 := by rw [← hh, Bd.state]; rfl
  have N0 := Fr.nil n0
  show own_Ends p e below s ({ frames := 0, cells := 0, slots := 0, locals := 0 } : Room).cells ({ frames := 0, cells := 0, slots := 0, locals := 0 } : Room).slots (Q_rm10 Z x0 h0 n0) (s₁.setTop (entryFrame m #[(.float x0)] 1))
  rw [ef_10_F]
  subst p_0
  refine own_step (st' := s₁.setTop (mkF m 1 #[.val (.float (1061158912 : UInt32))] [(.float (1061158912 : UInt32))])) (fun t k => XS.floadN X0.here hx rfl (hb hby d10_0) rfl k) ?_
  refine own_step (st' := s₁.setTop (mkF m 2 #[.val (.float (1061158912 : UInt32))] [(.float (1061158912 : UInt32)), (.float (1061158912 : UInt32))])) (fun t k => XS.floadN X0.here hx rfl (hb hby d10_1) rfl k) ?_
  refine own_step (st' := s₁.setTop (mkF m 3 #[.val (.float (1061158912 : UInt32))] [(.int (0 : Int32))])) (fun t k => XS.fcmpS X0.here hx rfl (hb hby d10_2) rfl (by decide +kernel) k) ?_
  refine own_step (st' := s₁.setTop (mkF m 10 #[.val (.float (1061158912 : UInt32))] [])) (fun t k => XS.ifYes X0.here hx rfl (pc0 := 3) (pc' := 10) rfl (hb hby d10_3) rfl ((if0 _ _).trans (teq (by decide)).1) (by decide) (by decide) k) ?_
  refine own_step (st' := s₁.setTop (mkF m 11 #[.val (.float (1061158912 : UInt32))] [(.int (0 : Int32))])) (fun t k => XS.iconst X0.here hx rfl (hb hby d10_10) k) ?_
  refine own_ret X0 Bd.notSynchronized (some (.int (0 : Int32))) (fun h => by rw [Bd.returns] at h; cases h) (fun fs hr => retN X0 hx (t := .boolean) Bd.returns (by simp) (hb hby d10_11) hr) ?_ (by decide) (by decide)
  rw [e0]
  exact ⟨rfl, N0, rfl⟩
theorem d8_0 : decode jdk_69_method_5_code 0 = .ok (.aload_n 0, 1) := by decide +kernel
theorem d8_1 : decode jdk_69_method_5_code 1 = .ok (.invokespecial 43, 3) := by decide +kernel
theorem d8_4 : decode jdk_69_method_5_code 4 = .ok (.iload_n 1, 1) := by decide +kernel
theorem d8_5 : decode jdk_69_method_5_code 5 = .ok (.ifCond .ge 30, 3) := by decide +kernel
theorem d8_35 : decode jdk_69_method_5_code 35 = .ok (.iload_n 1, 1) := by decide +kernel
theorem d8_36 : decode jdk_69_method_5_code 36 = .ok (.ldc 42, 2) := by decide +kernel
theorem d8_38 : decode jdk_69_method_5_code 38 = .ok (.if_icmp .le 6, 3) := by decide +kernel
theorem d8_44 : decode jdk_69_method_5_code 44 = .ok (.fload_n 2, 1) := by decide +kernel
theorem d8_45 : decode jdk_69_method_5_code 45 = .ok (.fconst 0, 1) := by decide +kernel
theorem d8_46 : decode jdk_69_method_5_code 46 = .ok (.fcmp .g, 1) := by decide +kernel
theorem d8_47 : decode jdk_69_method_5_code 47 = .ok (.ifCond .le 10, 3) := by decide +kernel
theorem d8_50 : decode jdk_69_method_5_code 50 = .ok (.fload_n 2, 1) := by decide +kernel
theorem d8_51 : decode jdk_69_method_5_code 51 = .ok (.invokestatic 70, 3) := by decide +kernel
theorem d8_54 : decode jdk_69_method_5_code 54 = .ok (.ifCond .eq 30, 3) := by decide +kernel
theorem d8_84 : decode jdk_69_method_5_code 84 = .ok (.aload_n 0, 1) := by decide +kernel
theorem d8_85 : decode jdk_69_method_5_code 85 = .ok (.fload_n 2, 1) := by decide +kernel
theorem d8_86 : decode jdk_69_method_5_code 86 = .ok (.putfield 81, 3) := by decide +kernel
theorem d8_89 : decode jdk_69_method_5_code 89 = .ok (.aload_n 0, 1) := by decide +kernel
theorem d8_90 : decode jdk_69_method_5_code 90 = .ok (.iload_n 1, 1) := by decide +kernel
theorem d8_91 : decode jdk_69_method_5_code 91 = .ok (.invokestatic 85, 3) := by decide +kernel
theorem d8_94 : decode jdk_69_method_5_code 94 = .ok (.putfield 88, 3) := by decide +kernel
theorem d8_97 : decode jdk_69_method_5_code 97 = .ok (.return_, 1) := by decide +kernel
theorem ef_8_RIF (m : MethodId) (x0 : Addr) (x1 : Int32) (x2 : UInt32) : entryFrame m #[(.ref x0), (.int x1), (.float x2)] 3 = mkF m 0 #[.val (.ref x0), .val (.int x1), .val (.float x2)] [] := by first | (simp [entryFrame, mkF, argsToLocals, Value.category]; done) | rfl
def Q_rm8 (Z : State) (x0 : Addr) (x1 : Int32) (x2 : UInt32) (h0 : Heap) (n0 : Nat) (v : Option Value) (h : Heap) (L : List Loc) : Prop := v = none ∧ Fr n0 L ∧ Keep h0 h [x0] ∧ Fld Z h x0 "java/util/HashMap" "size" "I" (.int (0 : Int32)) ∧ Fld Z h x0 "java/util/LinkedHashMap" "head" "Ljava/util/LinkedHashMap$Entry;" .null ∧ Fld Z h x0 "java/util/LinkedHashMap" "tail" "Ljava/util/LinkedHashMap$Entry;" .null ∧ Fld Z h x0 "java/util/HashMap" "modCount" "I" (.int (0 : Int32)) ∧ Fld Z h x0 "java/util/HashMap" "table" "[Ljava/util/HashMap$Node;" .null ∧ Fld Z h x0 "java/util/LinkedHashMap" "putMode" "I" (.int (0 : Int32)) ∧ Fld Z h x0 "java/util/LinkedHashMap" "accessOrder" "Z" (.int (0 : Int32))
set_option maxRecDepth 65536 in
set_option maxHeartbeats 40000000 in
theorem rm8 (l : Launch) (Z : State) (a0 : Array Value) (hw : ∀ d ∈ tables_1, d.before a0 Z = true) (ws : List Jvm.Cond) (x0 : Addr) (x1 : Int32) (x2 : UInt32) (h0 : Heap) (n0 : Nat) (Z0 : n0 ≤ h0.size) (p_0 : Fld Z h0 x0 "java/util/HashMap" "loadFactor" "F" (.float (0 : UInt32))) (p_1 : Fld Z h0 x0 "java/util/HashMap" "threshold" "I" (.int (0 : Int32))) (p_2 : Fld Z h0 x0 "java/util/HashMap" "size" "I" (.int (0 : Int32))) (p_3 : Fld Z h0 x0 "java/util/LinkedHashMap" "head" "Ljava/util/LinkedHashMap$Entry;" .null) (p_4 : Fld Z h0 x0 "java/util/LinkedHashMap" "tail" "Ljava/util/LinkedHashMap$Entry;" .null) (p_5 : Fld Z h0 x0 "java/util/HashMap" "modCount" "I" (.int (0 : Int32))) (p_6 : Fld Z h0 x0 "java/util/HashMap" "table" "[Ljava/util/HashMap$Node;" .null) (p_7 : Fld Z h0 x0 "java/util/LinkedHashMap" "putMode" "I" (.int (0 : Int32))) (p_8 : Fld Z h0 x0 "java/util/LinkedHashMap" "accessOrder" "Z" (.int (0 : Int32))) (p_9 : Exa Z h0 x0 "java/util/LinkedHashMap") (p_10 : n0 ≤ x0) (p_11 : x1 = (16 : Int32)) (p_12 : x2 = (1061158912 : UInt32)) :
    MetFree l (⟨"java/util/HashMap", "<init>", "(IF)V"⟩ : MethodName) (head1 (Jvm.Cond.code (⟨"java/util/HashMap", "<init>", "(IF)V"⟩ : MethodName) jdk_69_method_5_code 3 none :: ws) ({ frames := 2, cells := 0, slots := 0, locals := 28 } : Room)) (fun a U => a = #[(.ref x0), (.int x1), (.float x2)] ∧ Z.Warmed39 U.vm ∧ U.heap = h0) (fun _ _ _ _ _ => True) (fun _ U o U' => ∃ v L, o = .returned v ∧ Q_rm8 Z x0 x1 x2 h0 n0 v U'.heap L ∧ FrameEnd U o U' L ({ frames := 2, cells := 0, slots := 0, locals := 28 } : Room).cells ({ frames := 2, cells := 0, slots := 0, locals := 28 } : Room).slots) := by
  refine MetFree.of_bodySF (plainFor_of_name pn_11) hisR ?_
  intro p e s m args below meth c s₁ Bd hml0 hP hK
  obtain ⟨rfl, hZ, hh⟩ := hP
  have hx := Bd.exec
  have hby := Bd.bytes
  have hml : c.maxLocals = 3 := hml0
  have hown : s.vm.findClass "java/util/HashMap" = some m.cls := findClass_of_methodNamed Bd.named
  have hnm := (name_of_methodNamed Bd.named Bd.method).1
  have X0 : Stand p l e ({ frames := 2, cells := 0, slots := 0, locals := 28 } : Room) s m #[(.ref x0), (.int x1), (.float x2)] below meth c s₁ [] 0 0 := Stand.of_body Bd
  have e0 : s₁.heap = h0 := by rw [← hh, Bd.state]; rfl
  have N0 := Fr.nil n0
  show own_Ends p e below s ({ frames := 2, cells := 0, slots := 0, locals := 28 } : Room).cells ({ frames := 2, cells := 0, slots := 0, locals := 28 } : Room).slots (Q_rm8 Z x0 x1 x2 h0 n0) (s₁.setTop (entryFrame m #[(.ref x0), (.int x1), (.float x2)] 3))
  rw [ef_8_RIF]
  subst p_11
  subst p_12
  refine own_step (st' := s₁.setTop (mkF m 1 #[.val (.ref x0), .val (.int (16 : Int32)), .val (.float (1061158912 : UInt32))] [(.ref x0)])) (fun t k => XS.aloadN X0.here hx rfl (hb hby d8_0) rfl rfl k) ?_
  obtain ⟨_, _, ⟨T1, L1, k1, n1⟩, -, X1, ⟨Lc1, hQ1, l1, y1, z1⟩, st1⟩ := X0.specialBack hx (y := (⟨"java/util/AbstractMap", "<init>", "()V"⟩ : MethodName)) rfl hown (mvT hZ (hw _ (List.mem_of_getElem? (i := 48) rfl))) (mvT hZ (hw _ (List.mem_of_getElem? (i := 49) rfl))) (mvT hZ (hw _ (List.mem_of_getElem? (i := 53) rfl))) (by decide) (backOf (W := 0) (rm9 l Z a0 hw [] x0 h0 n0 Z0) hZ (hw _ (List.mem_of_getElem? (i := 53) rfl)) (hw _ (List.mem_of_getElem? (i := 52) rfl)) (by decide) (by decide)) (g := (mkF m 1 #[.val (.ref x0), .val (.int (16 : Int32)), .val (.float (1061158912 : UInt32))] [(.ref x0)])) rfl (by rw [hml]; rfl) (Steps.refl _) (a := x0) (argsL := []) (rest := []) (lenOf pd_1 rfl) rfl (by show 2 * 0 + _ ≤ _; exact Nat.le_of_eq rfl) (hb hby d8_1) (fun _ _ => ⟨rfl, e0, (by decide : 0 + 0 ≤ _), (by decide : 0 + 0 ≤ _)⟩)
  dsimp only [Pt.U, Pt.locs, Pt.cells, Pt.slots] at X1 l1 y1 z1 st1 hQ1
  subst l1 y1 z1
  obtain ⟨rfl, N1q, e1⟩ := hQ1
  have N1 := Fr.app N0 N1q
  refine own_step (st' := T1.setTop (mkF m 4 #[.val (.ref x0), .val (.int (16 : Int32)), .val (.float (1061158912 : UInt32))] [])) (fun t k => st1.trans k) ?_
  refine own_step (st' := T1.setTop (mkF m 5 #[.val (.ref x0), .val (.int (16 : Int32)), .val (.float (1061158912 : UInt32))] [(.int (16 : Int32))])) (fun t k => XS.iloadN X1.here hx rfl (hb hby d8_4) rfl k) ?_
  refine own_step (st' := T1.setTop (mkF m 35 #[.val (.ref x0), .val (.int (16 : Int32)), .val (.float (1061158912 : UInt32))] [])) (fun t k => XS.ifYes X1.here hx rfl (pc0 := 5) (pc' := 35) rfl (hb hby d8_5) rfl ((if0 _ _).trans (flt (by decide)).2.1) (by decide) (by decide) k) ?_
  refine own_step (st' := T1.setTop (mkF m 36 #[.val (.ref x0), .val (.int (16 : Int32)), .val (.float (1061158912 : UInt32))] [(.int (16 : Int32))])) (fun t k => XS.iloadN X1.here hx rfl (hb hby d8_35) rfl k) ?_
  refine own_step (st' := T1.setTop (mkF m 38 #[.val (.ref x0), .val (.int (16 : Int32)), .val (.float (1061158912 : UInt32))] [(.int (1073741824 : Int32)), (.int (16 : Int32))])) (fun t k => X1.ldcInt hx hown (mvT hZ (hw _ (List.mem_of_getElem? (i := 55) rfl))) (g := (mkF m 36 #[.val (.ref x0), .val (.int (16 : Int32)), .val (.float (1061158912 : UInt32))] [(.int (16 : Int32))])) rfl (hb hby d8_36) t k) ?_
  refine own_step (st' := T1.setTop (mkF m 44 #[.val (.ref x0), .val (.int (16 : Int32)), .val (.float (1061158912 : UInt32))] [])) (fun t k => XS.icmpYes X1.here hx rfl (pc0 := 38) (pc' := 44) rfl (hb hby d8_38) rfl (flt (by decide)).2.2.2 (by decide) (by decide) k) ?_
  refine own_step (st' := T1.setTop (mkF m 45 #[.val (.ref x0), .val (.int (16 : Int32)), .val (.float (1061158912 : UInt32))] [(.float (1061158912 : UInt32))])) (fun t k => XS.floadN X1.here hx rfl (hb hby d8_44) rfl k) ?_
  refine own_step (st' := T1.setTop (mkF m 46 #[.val (.ref x0), .val (.int (16 : Int32)), .val (.float (1061158912 : UInt32))] [(.float (0 : UInt32)), (.float (1061158912 : UInt32))])) (fun t k => XS.fconst0 X1.here hx rfl (hb hby d8_45) (by decide +kernel) k) ?_
  refine own_step (st' := T1.setTop (mkF m 47 #[.val (.ref x0), .val (.int (16 : Int32)), .val (.float (1061158912 : UInt32))] [(.int (1 : Int32))])) (fun t k => XS.fcmpS X1.here hx rfl (hb hby d8_46) rfl (by decide +kernel) k) ?_
  refine own_step (st' := T1.setTop (mkF m 50 #[.val (.ref x0), .val (.int (16 : Int32)), .val (.float (1061158912 : UInt32))] [])) (fun t k => XS.ifNo X1.here hx rfl (hb hby d8_47) rfl ((if0 _ _).trans (tlt (by decide)).2.2.2) k) ?_
  refine own_step (st' := T1.setTop (mkF m 51 #[.val (.ref x0), .val (.int (16 : Int32)), .val (.float (1061158912 : UInt32))] [(.float (1061158912 : UInt32))])) (fun t k => XS.floadN X1.here hx rfl (hb hby d8_50) rfl k) ?_
  obtain ⟨_, _, ⟨T2, L2, k2, n2⟩, -, X2, ⟨Lc2, hQ2, l2, y2, z2⟩, st2⟩ := Jvm.LawKit.callS X1 hx (y := (⟨"java/lang/Float", "isNaN", "(F)Z"⟩ : MethodName)) hown (mvT hZ (hw _ (List.mem_of_getElem? (i := 56) rfl))) (mvT hZ (hw _ (List.mem_of_getElem? (i := 57) rfl))) (mvT hZ (hw _ (List.mem_of_getElem? (i := 58) rfl))) (mvT hZ (hw _ (List.mem_of_getElem? (i := 59) rfl))) (by decide) (backOf (W := 0) (rm10 l Z a0 hw [] (1061158912 : UInt32) h0 n0 Z0 rfl) hZ (hw _ (List.mem_of_getElem? (i := 59) rfl)) (hw _ (List.mem_of_getElem? (i := 58) rfl)) (by decide) (by decide)) (g := (mkF m 51 #[.val (.ref x0), .val (.int (16 : Int32)), .val (.float (1061158912 : UInt32))] [(.float (1061158912 : UInt32))])) rfl (by rw [hml]; rfl) (argsL := [(.float (1061158912 : UInt32))]) (rest := []) (lenOf pd_4 rfl) rfl (by show 2 * 0 + _ ≤ _; exact Nat.le_of_eq rfl) (hb hby d8_51) (fun _ _ => ⟨rfl, e1, (by decide : 0 + 0 ≤ _), (by decide : 0 + 0 ≤ _)⟩)
  dsimp only [Pt.U, Pt.locs, Pt.cells, Pt.slots] at X2 l2 y2 z2 st2 hQ2
  subst l2 y2 z2
  obtain ⟨rfl, N2q, e2⟩ := hQ2
  have N2 := Fr.app N1 N2q
  refine own_step (st' := T2.setTop (mkF m 54 #[.val (.ref x0), .val (.int (16 : Int32)), .val (.float (1061158912 : UInt32))] [(.int (0 : Int32))])) st2 ?_
  refine own_step (st' := T2.setTop (mkF m 84 #[.val (.ref x0), .val (.int (16 : Int32)), .val (.float (1061158912 : UInt32))] [])) (fun t k => XS.ifYes X2.here hx rfl (pc0 := 54) (pc' := 84) rfl (hb hby d8_54) rfl ((if0 _ _).trans (teq (by decide)).1) (by decide) (by decide) k) ?_
  refine own_step (st' := T2.setTop (mkF m 85 #[.val (.ref x0), .val (.int (16 : Int32)), .val (.float (1061158912 : UInt32))] [(.ref x0)])) (fun t k => XS.aloadN X2.here hx rfl (hb hby d8_84) rfl rfl k) ?_
  refine own_step (st' := T2.setTop (mkF m 86 #[.val (.ref x0), .val (.int (16 : Int32)), .val (.float (1061158912 : UInt32))] [(.float (1061158912 : UInt32)), (.ref x0)])) (fun t k => XS.floadN X2.here hx rfl (hb hby d8_85) rfl k) ?_
  obtain ⟨T3, h3, X3, e3, W3, st3⟩ := putF X2 hx hZ hown (host := "") (Or.inl (hw _ (List.mem_of_getElem? (i := 60) rfl))) Via.refl e2 p_0 p_9 (Or.inr ⟨(hw _ (List.mem_of_getElem? (i := 61) rfl)), rfl, hnm⟩) (hw _ (List.mem_of_getElem? (i := 36) rfl)) (ty := .float) (by decide) rfl rfl (g := (mkF m 86 #[.val (.ref x0), .val (.int (16 : Int32)), .val (.float (1061158912 : UInt32))] [(.float (1061158912 : UInt32)), (.ref x0)])) rfl rfl (hb hby d8_86)
  have F3 := p_0.same W3
  have f4 := p_1.other W3 (Or.inr (slot_ne (Or.inl (hw _ (List.mem_of_getElem? (i := 71) rfl))) (Or.inr (hw _ (List.mem_of_getElem? (i := 61) rfl))) (by decide) (t := .int) (t' := .float) (by decide) (by decide)))
  have f5 := p_2.other W3 (Or.inr (slot_ne (Or.inl (hw _ (List.mem_of_getElem? (i := 123) rfl))) (Or.inr (hw _ (List.mem_of_getElem? (i := 61) rfl))) (by decide) (t := .int) (t' := .float) (by decide) (by decide)))
  have f6 := p_3.other W3 (Or.inr (slot_ne (Or.inl (hw _ (List.mem_of_getElem? (i := 138) rfl))) (Or.inr (hw _ (List.mem_of_getElem? (i := 61) rfl))) (by decide) (t := (.object "java/util/LinkedHashMap$Entry")) (t' := .float) (by decide) (by decide)))
  have f7 := p_4.other W3 (Or.inr (slot_ne (Or.inl (hw _ (List.mem_of_getElem? (i := 167) rfl))) (Or.inr (hw _ (List.mem_of_getElem? (i := 61) rfl))) (by decide) (t := (.object "java/util/LinkedHashMap$Entry")) (t' := .float) (by decide) (by decide)))
  have f8 := p_5.other W3 (Or.inr (slot_ne (Or.inl (hw _ (List.mem_of_getElem? (i := 163) rfl))) (Or.inr (hw _ (List.mem_of_getElem? (i := 61) rfl))) (by decide) (t := .int) (t' := .float) (by decide) (by decide)))
  have f9 := p_6.other W3 (Or.inr (slot_ne (Or.inl (hw _ (List.mem_of_getElem? (i := 165) rfl))) (Or.inr (hw _ (List.mem_of_getElem? (i := 61) rfl))) (by decide) (t := (.array (.object "java/util/HashMap$Node"))) (t' := .float) (by decide) (by decide)))
  have f10 := p_7.other W3 (Or.inr (slot_ne (Or.inl (hw _ (List.mem_of_getElem? (i := 73) rfl))) (Or.inr (hw _ (List.mem_of_getElem? (i := 61) rfl))) (by decide) (t := .int) (t' := .float) (by decide) (by decide)))
  have f11 := p_8.other W3 (Or.inr (slot_ne (Or.inr (hw _ (List.mem_of_getElem? (i := 75) rfl))) (Or.inr (hw _ (List.mem_of_getElem? (i := 61) rfl))) (by decide) (t := .boolean) (t' := .float) (by decide) (by decide)))
  have f12 := p_9.wr W3
  have K13 : Keep h0 h3 [x0] := (Keep.refl h0 [x0]).wr W3 (Or.inl (List.mem_of_getElem? (i := 0) rfl))
  have Z14 : n0 ≤ h3.size := Nat.le_trans Z0 (Keep.of_wr W3).1
  have N15 := Fr.snoc X3 N2 p_10
  refine own_step (st' := T3.setTop (mkF m 89 #[.val (.ref x0), .val (.int (16 : Int32)), .val (.float (1061158912 : UInt32))] [])) st3 ?_
  refine own_step (st' := T3.setTop (mkF m 90 #[.val (.ref x0), .val (.int (16 : Int32)), .val (.float (1061158912 : UInt32))] [(.ref x0)])) (fun t k => XS.aloadN X3.here hx rfl (hb hby d8_89) rfl rfl k) ?_
  refine own_step (st' := T3.setTop (mkF m 91 #[.val (.ref x0), .val (.int (16 : Int32)), .val (.float (1061158912 : UInt32))] [(.int (16 : Int32)), (.ref x0)])) (fun t k => XS.iloadN X3.here hx rfl (hb hby d8_90) rfl k) ?_
  obtain ⟨_, _, ⟨T16, L16, k16, n16⟩, -, X16, ⟨Lc16, hQ16, l16, y16, z16⟩, st16⟩ := Jvm.LawKit.callS X3 hx (y := (⟨"java/util/HashMap", "tableSizeFor", "(I)I"⟩ : MethodName)) hown (mvT hZ (hw _ (List.mem_of_getElem? (i := 62) rfl))) (mvT hZ (hw _ (List.mem_of_getElem? (i := 63) rfl))) (mvT hZ (hw _ (List.mem_of_getElem? (i := 46) rfl))) (mvT hZ (hw _ (List.mem_of_getElem? (i := 64) rfl))) (by decide) (backOf (W := 1) (rm11 l Z a0 hw [] (16 : Int32) h3 n0 Z14) hZ (hw _ (List.mem_of_getElem? (i := 64) rfl)) (hw _ (List.mem_of_getElem? (i := 46) rfl)) (by decide) (by decide)) (g := (mkF m 91 #[.val (.ref x0), .val (.int (16 : Int32)), .val (.float (1061158912 : UInt32))] [(.int (16 : Int32)), (.ref x0)])) rfl (by rw [hml]; rfl) (argsL := [(.int (16 : Int32))]) (rest := [(.ref x0)]) (lenOf pd_5 rfl) rfl (by show 2 * 0 + _ ≤ _; exact Nat.le_of_eq rfl) (hb hby d8_91) (fun _ _ => ⟨rfl, e3, (by decide : 0 + 0 ≤ _), (by decide : 0 + 0 ≤ _)⟩)
  dsimp only [Pt.U, Pt.locs, Pt.cells, Pt.slots] at X16 l16 y16 z16 st16 hQ16
  subst l16 y16 z16
  obtain ⟨z_16, rfl, N16q, e16⟩ := hQ16
  have N16 := Fr.app N15 N16q
  refine own_step (st' := T16.setTop (mkF m 94 #[.val (.ref x0), .val (.int (16 : Int32)), .val (.float (1061158912 : UInt32))] [(.int z_16), (.ref x0)])) st16 ?_
  obtain ⟨T17, h17, X17, e17, W17, st17⟩ := putF X16 hx hZ hown (host := "") (Or.inl (hw _ (List.mem_of_getElem? (i := 70) rfl))) Via.refl e16 f4 f12 (Or.inl (hw _ (List.mem_of_getElem? (i := 71) rfl))) (hw _ (List.mem_of_getElem? (i := 36) rfl)) (ty := .int) (by decide) rfl rfl (g := (mkF m 94 #[.val (.ref x0), .val (.int (16 : Int32)), .val (.float (1061158912 : UInt32))] [(.int z_16), (.ref x0)])) rfl rfl (hb hby d8_94)
  have F17 := f4.same W17
  have f18 := f5.other W17 (Or.inr (slot_ne (Or.inl (hw _ (List.mem_of_getElem? (i := 123) rfl))) (Or.inl (hw _ (List.mem_of_getElem? (i := 71) rfl))) (by decide) (t := .int) (t' := .int) (by decide) (by decide)))
  have f19 := f6.other W17 (Or.inr (slot_ne (Or.inl (hw _ (List.mem_of_getElem? (i := 138) rfl))) (Or.inl (hw _ (List.mem_of_getElem? (i := 71) rfl))) (by decide) (t := (.object "java/util/LinkedHashMap$Entry")) (t' := .int) (by decide) (by decide)))
  have f20 := f7.other W17 (Or.inr (slot_ne (Or.inl (hw _ (List.mem_of_getElem? (i := 167) rfl))) (Or.inl (hw _ (List.mem_of_getElem? (i := 71) rfl))) (by decide) (t := (.object "java/util/LinkedHashMap$Entry")) (t' := .int) (by decide) (by decide)))
  have f21 := f8.other W17 (Or.inr (slot_ne (Or.inl (hw _ (List.mem_of_getElem? (i := 163) rfl))) (Or.inl (hw _ (List.mem_of_getElem? (i := 71) rfl))) (by decide) (t := .int) (t' := .int) (by decide) (by decide)))
  have f22 := f9.other W17 (Or.inr (slot_ne (Or.inl (hw _ (List.mem_of_getElem? (i := 165) rfl))) (Or.inl (hw _ (List.mem_of_getElem? (i := 71) rfl))) (by decide) (t := (.array (.object "java/util/HashMap$Node"))) (t' := .int) (by decide) (by decide)))
  have f23 := f10.other W17 (Or.inr (slot_ne (Or.inl (hw _ (List.mem_of_getElem? (i := 73) rfl))) (Or.inl (hw _ (List.mem_of_getElem? (i := 71) rfl))) (by decide) (t := .int) (t' := .int) (by decide) (by decide)))
  have f24 := f11.other W17 (Or.inr (slot_ne (Or.inr (hw _ (List.mem_of_getElem? (i := 75) rfl))) (Or.inl (hw _ (List.mem_of_getElem? (i := 71) rfl))) (by decide) (t := .boolean) (t' := .int) (by decide) (by decide)))
  have f25 := f12.wr W17
  have f26 := F3.other W17 (Or.inr (slot_ne (Or.inr (hw _ (List.mem_of_getElem? (i := 61) rfl))) (Or.inl (hw _ (List.mem_of_getElem? (i := 71) rfl))) (by decide) (t := .float) (t' := .int) (by decide) (by decide)))
  have K27 : Keep h0 h17 [x0] := K13.wr W17 (Or.inl (List.mem_of_getElem? (i := 0) rfl))
  have Z28 : n0 ≤ h17.size := Nat.le_trans Z14 (Keep.of_wr W17).1
  have N29 := Fr.snoc X17 N16 p_10
  refine own_step (st' := T17.setTop (mkF m 97 #[.val (.ref x0), .val (.int (16 : Int32)), .val (.float (1061158912 : UInt32))] [])) st17 ?_
  refine own_ret X17 Bd.notSynchronized (none) (fun _ => rfl) (fun fs hr => X17.returnOut hx Bd.returns (hb hby d8_97) hr) ?_ (by decide) (by decide)
  rw [e17]
  exact ⟨rfl, N29, K27, f18, f19, f20, f21, f22, f23, f24⟩
theorem d7_0 : decode jdk_94_method_14_code 0 = .ok (.aload_n 0, 1) := by decide +kernel
theorem d7_1 : decode jdk_94_method_14_code 1 = .ok (.iload_n 1, 1) := by decide +kernel
theorem d7_2 : decode jdk_94_method_14_code 2 = .ok (.fload_n 2, 1) := by decide +kernel
theorem d7_3 : decode jdk_94_method_14_code 3 = .ok (.invokespecial 81, 3) := by decide +kernel
theorem d7_6 : decode jdk_94_method_14_code 6 = .ok (.aload_n 0, 1) := by decide +kernel
theorem d7_7 : decode jdk_94_method_14_code 7 = .ok (.iconst 0, 1) := by decide +kernel
theorem d7_8 : decode jdk_94_method_14_code 8 = .ok (.putfield 1, 3) := by decide +kernel
theorem d7_11 : decode jdk_94_method_14_code 11 = .ok (.aload_n 0, 1) := by decide +kernel
theorem d7_12 : decode jdk_94_method_14_code 12 = .ok (.iconst 0, 1) := by decide +kernel
theorem d7_13 : decode jdk_94_method_14_code 13 = .ok (.putfield 64, 3) := by decide +kernel
theorem d7_16 : decode jdk_94_method_14_code 16 = .ok (.return_, 1) := by decide +kernel
theorem pn_13 : plainName "java/util/LinkedHashMap" = true := by first | (simp [plainName, overriddenIn]; done) | decide +kernel
theorem ef_7_RIF (m : MethodId) (x0 : Addr) (x1 : Int32) (x2 : UInt32) : entryFrame m #[(.ref x0), (.int x1), (.float x2)] 3 = mkF m 0 #[.val (.ref x0), .val (.int x1), .val (.float x2)] [] := by first | (simp [entryFrame, mkF, argsToLocals, Value.category]; done) | rfl
def Q_rm7 (Z : State) (x0 : Addr) (x1 : Int32) (x2 : UInt32) (h0 : Heap) (n0 : Nat) (v : Option Value) (h : Heap) (L : List Loc) : Prop := v = none ∧ Fr n0 L ∧ Keep h0 h [x0] ∧ Fld Z h x0 "java/util/HashMap" "size" "I" (.int (0 : Int32)) ∧ Fld Z h x0 "java/util/LinkedHashMap" "head" "Ljava/util/LinkedHashMap$Entry;" .null ∧ Fld Z h x0 "java/util/LinkedHashMap" "tail" "Ljava/util/LinkedHashMap$Entry;" .null ∧ Fld Z h x0 "java/util/HashMap" "modCount" "I" (.int (0 : Int32)) ∧ Fld Z h x0 "java/util/HashMap" "table" "[Ljava/util/HashMap$Node;" .null
set_option maxRecDepth 65536 in
set_option maxHeartbeats 40000000 in
theorem rm7 (l : Launch) (Z : State) (a0 : Array Value) (hw : ∀ d ∈ tables_1, d.before a0 Z = true) (ws : List Jvm.Cond) (x0 : Addr) (x1 : Int32) (x2 : UInt32) (h0 : Heap) (n0 : Nat) (Z0 : n0 ≤ h0.size) (p_0 : Fld Z h0 x0 "java/util/HashMap" "loadFactor" "F" (.float (0 : UInt32))) (p_1 : Fld Z h0 x0 "java/util/HashMap" "threshold" "I" (.int (0 : Int32))) (p_2 : Fld Z h0 x0 "java/util/LinkedHashMap" "putMode" "I" (.int (0 : Int32))) (p_3 : Fld Z h0 x0 "java/util/LinkedHashMap" "accessOrder" "Z" (.int (0 : Int32))) (p_4 : Fld Z h0 x0 "java/util/HashMap" "size" "I" (.int (0 : Int32))) (p_5 : Fld Z h0 x0 "java/util/LinkedHashMap" "head" "Ljava/util/LinkedHashMap$Entry;" .null) (p_6 : Fld Z h0 x0 "java/util/LinkedHashMap" "tail" "Ljava/util/LinkedHashMap$Entry;" .null) (p_7 : Fld Z h0 x0 "java/util/HashMap" "modCount" "I" (.int (0 : Int32))) (p_8 : Fld Z h0 x0 "java/util/HashMap" "table" "[Ljava/util/HashMap$Node;" .null) (p_9 : Exa Z h0 x0 "java/util/LinkedHashMap") (p_10 : n0 ≤ x0) (p_11 : x1 = (16 : Int32)) (p_12 : x2 = (1061158912 : UInt32)) :
    MetFree l (⟨"java/util/LinkedHashMap", "<init>", "(IF)V"⟩ : MethodName) (head1 (Jvm.Cond.code (⟨"java/util/LinkedHashMap", "<init>", "(IF)V"⟩ : MethodName) jdk_94_method_14_code 3 none :: ws) ({ frames := 3, cells := 0, slots := 0, locals := 42 } : Room)) (fun a U => a = #[(.ref x0), (.int x1), (.float x2)] ∧ Z.Warmed39 U.vm ∧ U.heap = h0) (fun _ _ _ _ _ => True) (fun _ U o U' => ∃ v L, o = .returned v ∧ Q_rm7 Z x0 x1 x2 h0 n0 v U'.heap L ∧ FrameEnd U o U' L ({ frames := 3, cells := 0, slots := 0, locals := 42 } : Room).cells ({ frames := 3, cells := 0, slots := 0, locals := 42 } : Room).slots) := by
  refine MetFree.of_bodySF (plainFor_of_name pn_13) hisR ?_
  intro p e s m args below meth c s₁ Bd hml0 hP hK
  obtain ⟨rfl, hZ, hh⟩ := hP
  have hx := Bd.exec
  have hby := Bd.bytes
  have hml : c.maxLocals = 3 := hml0
  have hown : s.vm.findClass "java/util/LinkedHashMap" = some m.cls := findClass_of_methodNamed Bd.named
  have hnm := (name_of_methodNamed Bd.named Bd.method).1
  have X0 : Stand p l e ({ frames := 3, cells := 0, slots := 0, locals := 42 } : Room) s m #[(.ref x0), (.int x1), (.float x2)] below meth c s₁ [] 0 0 := Stand.of_body Bd
  have e0 : s₁.heap = h0 := by rw [← hh, Bd.state]; rfl
  have N0 := Fr.nil n0
  show own_Ends p e below s ({ frames := 3, cells := 0, slots := 0, locals := 42 } : Room).cells ({ frames := 3, cells := 0, slots := 0, locals := 42 } : Room).slots (Q_rm7 Z x0 x1 x2 h0 n0) (s₁.setTop (entryFrame m #[(.ref x0), (.int x1), (.float x2)] 3))
  rw [ef_7_RIF]
  refine own_step (st' := s₁.setTop (mkF m 1 #[.val (.ref x0), .val (.int x1), .val (.float x2)] [(.ref x0)])) (fun t k => XS.aloadN X0.here hx rfl (hb hby d7_0) rfl rfl k) ?_
  refine own_step (st' := s₁.setTop (mkF m 2 #[.val (.ref x0), .val (.int x1), .val (.float x2)] [(.int x1), (.ref x0)])) (fun t k => XS.iloadN X0.here hx rfl (hb hby d7_1) rfl k) ?_
  refine own_step (st' := s₁.setTop (mkF m 3 #[.val (.ref x0), .val (.int x1), .val (.float x2)] [(.float x2), (.int x1), (.ref x0)])) (fun t k => XS.floadN X0.here hx rfl (hb hby d7_2) rfl k) ?_
  obtain ⟨_, _, ⟨T1, L1, k1, n1⟩, -, X1, ⟨Lc1, hQ1, l1, y1, z1⟩, st1⟩ := X0.specialBack hx (y := (⟨"java/util/HashMap", "<init>", "(IF)V"⟩ : MethodName)) rfl hown (mvT hZ (hw _ (List.mem_of_getElem? (i := 42) rfl))) (mvT hZ (hw _ (List.mem_of_getElem? (i := 43) rfl))) (mvT hZ (hw _ (List.mem_of_getElem? (i := 47) rfl))) (by decide) (backOf (W := 0) (rm8 l Z a0 hw [] x0 x1 x2 h0 n0 Z0 p_0 p_1 p_4 p_5 p_6 p_7 p_8 p_2 p_3 p_9 p_10 p_11 p_12) hZ (hw _ (List.mem_of_getElem? (i := 47) rfl)) (hw _ (List.mem_of_getElem? (i := 46) rfl)) (by decide) (by decide)) (g := (mkF m 3 #[.val (.ref x0), .val (.int x1), .val (.float x2)] [(.float x2), (.int x1), (.ref x0)])) rfl (by rw [hml]; rfl) (Steps.refl _) (a := x0) (argsL := [(.int x1), (.float x2)]) (rest := []) (lenOf pd_3 rfl) rfl (by show 2 * 0 + _ ≤ _; exact Nat.le_of_eq rfl) (hb hby d7_3) (fun _ _ => ⟨rfl, e0, (by decide : 0 + 0 ≤ _), (by decide : 0 + 0 ≤ _)⟩)
  dsimp only [Pt.U, Pt.locs, Pt.cells, Pt.slots] at X1 l1 y1 z1 st1 hQ1
  subst l1 y1 z1
  obtain ⟨rfl, N1q, K1, pq1_0, pq1_1, pq1_2, pq1_3, pq1_4, pq1_5, pq1_6⟩ := hQ1
  have N1 := Fr.app N0 N1q
  obtain ⟨h1, e1⟩ : ∃ z, T1.heap = z := ⟨_, rfl⟩
  rw [e1] at K1 pq1_0 pq1_1 pq1_2 pq1_3 pq1_4 pq1_5 pq1_6
  have f2 := p_9.keep K1
  have K3 : Keep h0 h1 [x0] := (Keep.refl h0 [x0]).trans K1 (allS (Or.inl (List.mem_of_getElem? (i := 0) rfl)) all0)
  have Z4 : n0 ≤ h1.size := Nat.le_trans Z0 K1.1
  refine own_step (st' := T1.setTop (mkF m 6 #[.val (.ref x0), .val (.int x1), .val (.float x2)] [])) (fun t k => st1.trans k) ?_
  refine own_step (st' := T1.setTop (mkF m 7 #[.val (.ref x0), .val (.int x1), .val (.float x2)] [(.ref x0)])) (fun t k => XS.aloadN X1.here hx rfl (hb hby d7_6) rfl rfl k) ?_
  refine own_step (st' := T1.setTop (mkF m 8 #[.val (.ref x0), .val (.int x1), .val (.float x2)] [(.int (0 : Int32)), (.ref x0)])) (fun t k => XS.iconst X1.here hx rfl (hb hby d7_7) k) ?_
  obtain ⟨T5, h5, X5, e5, W5, st5⟩ := putF X1 hx hZ hown (host := "") (Or.inl (hw _ (List.mem_of_getElem? (i := 72) rfl))) Via.refl e1 pq1_5 f2 (Or.inl (hw _ (List.mem_of_getElem? (i := 73) rfl))) (hw _ (List.mem_of_getElem? (i := 36) rfl)) (ty := .int) (by decide) rfl rfl (g := (mkF m 8 #[.val (.ref x0), .val (.int x1), .val (.float x2)] [(.int (0 : Int32)), (.ref x0)])) rfl rfl (hb hby d7_8)
  have F5 := pq1_5.same W5
  have f6 := f2.wr W5
  have f7 := pq1_0.other W5 (Or.inr (slot_ne (Or.inl (hw _ (List.mem_of_getElem? (i := 123) rfl))) (Or.inl (hw _ (List.mem_of_getElem? (i := 73) rfl))) (by decide) (t := .int) (t' := .int) (by decide) (by decide)))
  have f8 := pq1_1.other W5 (Or.inr (slot_ne (Or.inl (hw _ (List.mem_of_getElem? (i := 138) rfl))) (Or.inl (hw _ (List.mem_of_getElem? (i := 73) rfl))) (by decide) (t := (.object "java/util/LinkedHashMap$Entry")) (t' := .int) (by decide) (by decide)))
  have f9 := pq1_2.other W5 (Or.inr (slot_ne (Or.inl (hw _ (List.mem_of_getElem? (i := 167) rfl))) (Or.inl (hw _ (List.mem_of_getElem? (i := 73) rfl))) (by decide) (t := (.object "java/util/LinkedHashMap$Entry")) (t' := .int) (by decide) (by decide)))
  have f10 := pq1_3.other W5 (Or.inr (slot_ne (Or.inl (hw _ (List.mem_of_getElem? (i := 163) rfl))) (Or.inl (hw _ (List.mem_of_getElem? (i := 73) rfl))) (by decide) (t := .int) (t' := .int) (by decide) (by decide)))
  have f11 := pq1_4.other W5 (Or.inr (slot_ne (Or.inl (hw _ (List.mem_of_getElem? (i := 165) rfl))) (Or.inl (hw _ (List.mem_of_getElem? (i := 73) rfl))) (by decide) (t := (.array (.object "java/util/HashMap$Node"))) (t' := .int) (by decide) (by decide)))
  have f12 := pq1_6.other W5 (Or.inr (slot_ne (Or.inr (hw _ (List.mem_of_getElem? (i := 75) rfl))) (Or.inl (hw _ (List.mem_of_getElem? (i := 73) rfl))) (by decide) (t := .boolean) (t' := .int) (by decide) (by decide)))
  have K13 : Keep h0 h5 [x0] := K3.wr W5 (Or.inl (List.mem_of_getElem? (i := 0) rfl))
  have Z14 : n0 ≤ h5.size := Nat.le_trans Z4 (Keep.of_wr W5).1
  have N15 := Fr.snoc X5 N1 p_10
  refine own_step (st' := T5.setTop (mkF m 11 #[.val (.ref x0), .val (.int x1), .val (.float x2)] [])) st5 ?_
  refine own_step (st' := T5.setTop (mkF m 12 #[.val (.ref x0), .val (.int x1), .val (.float x2)] [(.ref x0)])) (fun t k => XS.aloadN X5.here hx rfl (hb hby d7_11) rfl rfl k) ?_
  refine own_step (st' := T5.setTop (mkF m 13 #[.val (.ref x0), .val (.int x1), .val (.float x2)] [(.int (0 : Int32)), (.ref x0)])) (fun t k => XS.iconst X5.here hx rfl (hb hby d7_12) k) ?_
  obtain ⟨T16, h16, X16, e16, W16, st16⟩ := putFN X5 hx hZ hown (hw _ (List.mem_of_getElem? (i := 74) rfl)) Via.refl e5 f12 f6 (Or.inr ⟨(hw _ (List.mem_of_getElem? (i := 75) rfl)), rfl, hnm⟩) (hw _ (List.mem_of_getElem? (i := 36) rfl)) (ty := .boolean) (v' := .int (0 : Int32)) (by decide) rfl rfl (g := (mkF m 13 #[.val (.ref x0), .val (.int x1), .val (.float x2)] [(.int (0 : Int32)), (.ref x0)])) rfl rfl (hb hby d7_13)
  have F16 := f12.same W16
  have f17 := f6.wr W16
  have f18 := f7.other W16 (Or.inr (slot_ne (Or.inl (hw _ (List.mem_of_getElem? (i := 123) rfl))) (Or.inr (hw _ (List.mem_of_getElem? (i := 75) rfl))) (by decide) (t := .int) (t' := .boolean) (by decide) (by decide)))
  have f19 := f8.other W16 (Or.inr (slot_ne (Or.inl (hw _ (List.mem_of_getElem? (i := 138) rfl))) (Or.inr (hw _ (List.mem_of_getElem? (i := 75) rfl))) (by decide) (t := (.object "java/util/LinkedHashMap$Entry")) (t' := .boolean) (by decide) (by decide)))
  have f20 := f9.other W16 (Or.inr (slot_ne (Or.inl (hw _ (List.mem_of_getElem? (i := 167) rfl))) (Or.inr (hw _ (List.mem_of_getElem? (i := 75) rfl))) (by decide) (t := (.object "java/util/LinkedHashMap$Entry")) (t' := .boolean) (by decide) (by decide)))
  have f21 := f10.other W16 (Or.inr (slot_ne (Or.inl (hw _ (List.mem_of_getElem? (i := 163) rfl))) (Or.inr (hw _ (List.mem_of_getElem? (i := 75) rfl))) (by decide) (t := .int) (t' := .boolean) (by decide) (by decide)))
  have f22 := f11.other W16 (Or.inr (slot_ne (Or.inl (hw _ (List.mem_of_getElem? (i := 165) rfl))) (Or.inr (hw _ (List.mem_of_getElem? (i := 75) rfl))) (by decide) (t := (.array (.object "java/util/HashMap$Node"))) (t' := .boolean) (by decide) (by decide)))
  have f23 := F5.other W16 (Or.inr (slot_ne (Or.inl (hw _ (List.mem_of_getElem? (i := 73) rfl))) (Or.inr (hw _ (List.mem_of_getElem? (i := 75) rfl))) (by decide) (t := .int) (t' := .boolean) (by decide) (by decide)))
  have K24 : Keep h0 h16 [x0] := K13.wr W16 (Or.inl (List.mem_of_getElem? (i := 0) rfl))
  have Z25 : n0 ≤ h16.size := Nat.le_trans Z14 (Keep.of_wr W16).1
  have N26 := Fr.snoc X16 N15 p_10
  refine own_step (st' := T16.setTop (mkF m 16 #[.val (.ref x0), .val (.int x1), .val (.float x2)] [])) st16 ?_
  refine own_ret X16 Bd.notSynchronized (none) (fun _ => rfl) (fun fs hr => X16.returnOut hx Bd.returns (hb hby d7_16) hr) ?_ (by decide) (by decide)
  rw [e16]
  exact ⟨rfl, N26, K24, f18, f19, f20, f21, f22⟩
theorem d4_0 : decode jdk_93_method_5_code 0 = .ok (.aload_n 0, 1) := by decide +kernel
theorem d4_1 : decode jdk_93_method_5_code 1 = .ok (.invokespecial 1, 3) := by decide +kernel
theorem d4_4 : decode jdk_93_method_5_code 4 = .ok (.aload_n 0, 1) := by decide +kernel
theorem d4_5 : decode jdk_93_method_5_code 5 = .ok (.new 42, 3) := by decide +kernel
theorem d4_8 : decode jdk_93_method_5_code 8 = .ok (.dup, 1) := by decide +kernel
theorem d4_9 : decode jdk_93_method_5_code 9 = .ok (.iload_n 1, 1) := by decide +kernel
theorem d4_10 : decode jdk_93_method_5_code 10 = .ok (.fload_n 2, 1) := by decide +kernel
theorem d4_11 : decode jdk_93_method_5_code 11 = .ok (.invokespecial 44, 3) := by decide +kernel
theorem d4_14 : decode jdk_93_method_5_code 14 = .ok (.putfield 10, 3) := by decide +kernel
theorem d4_17 : decode jdk_93_method_5_code 17 = .ok (.return_, 1) := by decide +kernel
theorem pn_12 : plainName "java/util/HashSet" = true := by first | (simp [plainName, overriddenIn]; done) | decide +kernel
theorem ef_4_RIFI (m : MethodId) (x0 : Addr) (x1 : Int32) (x2 : UInt32) (x3 : Int32) : entryFrame m #[(.ref x0), (.int x1), (.float x2), (.int x3)] 4 = mkF m 0 #[.val (.ref x0), .val (.int x1), .val (.float x2), .val (.int x3)] [] := by first | (simp [entryFrame, mkF, argsToLocals, Value.category]; done) | rfl
def Q_rm4 (Z : State) (x0 : Addr) (x1 : Int32) (x2 : UInt32) (x3 : Int32) (h0 : Heap) (n0 : Nat) (v : Option Value) (h : Heap) (L : List Loc) : Prop := ∃ b : Addr, v = none ∧ Fr n0 L ∧ Keep h0 h [x0] ∧ h0.size ≤ b ∧ Fld Z h x0 "java/util/HashSet" "map" "Ljava/util/HashMap;" (.ref b) ∧ Exa Z h b "java/util/LinkedHashMap" ∧ Fld Z h b "java/util/HashMap" "size" "I" (.int (0 : Int32)) ∧ Fld Z h b "java/util/LinkedHashMap" "head" "Ljava/util/LinkedHashMap$Entry;" .null ∧ Fld Z h b "java/util/LinkedHashMap" "tail" "Ljava/util/LinkedHashMap$Entry;" .null ∧ Fld Z h b "java/util/HashMap" "modCount" "I" (.int (0 : Int32)) ∧ Fld Z h b "java/util/HashMap" "table" "[Ljava/util/HashMap$Node;" .null
set_option maxRecDepth 65536 in
set_option maxHeartbeats 40000000 in
theorem rm4 (l : Launch) (Z : State) (a0 : Array Value) (hw : ∀ d ∈ tables_1, d.before a0 Z = true) (ws : List Jvm.Cond) (x0 : Addr) (x1 : Int32) (x2 : UInt32) (x3 : Int32) (h0 : Heap) (n0 : Nat) (Z0 : n0 ≤ h0.size) (p_0 : Fld Z h0 x0 "java/util/HashSet" "map" "Ljava/util/HashMap;" .null) (p_1 : Exa Z h0 x0 "java/util/LinkedHashSet") (p_2 : n0 ≤ x0) (p_3 : x1 = (16 : Int32)) (p_4 : x2 = (1061158912 : UInt32)) :
    MetFree l (⟨"java/util/HashSet", "<init>", "(IFZ)V"⟩ : MethodName) (head1 (Jvm.Cond.code (⟨"java/util/HashSet", "<init>", "(IFZ)V"⟩ : MethodName) jdk_93_method_5_code 4 none :: ws) ({ frames := 4, cells := 1, slots := 12, locals := 58 } : Room)) (fun a U => a = #[(.ref x0), (.int x1), (.float x2), (.int x3)] ∧ Z.Warmed39 U.vm ∧ U.heap = h0) (fun _ _ _ _ _ => True) (fun _ U o U' => ∃ v L, o = .returned v ∧ Q_rm4 Z x0 x1 x2 x3 h0 n0 v U'.heap L ∧ FrameEnd U o U' L ({ frames := 4, cells := 1, slots := 12, locals := 58 } : Room).cells ({ frames := 4, cells := 1, slots := 12, locals := 58 } : Room).slots) := by
  refine MetFree.of_bodySF (plainFor_of_name pn_12) hisR ?_
  intro p e s m args below meth c s₁ Bd hml0 hP hK
  obtain ⟨rfl, hZ, hh⟩ := hP
  have hx := Bd.exec
  have hby := Bd.bytes
  have hml : c.maxLocals = 4 := hml0
  have hown : s.vm.findClass "java/util/HashSet" = some m.cls := findClass_of_methodNamed Bd.named
  have hnm := (name_of_methodNamed Bd.named Bd.method).1
  have X0 : Stand p l e ({ frames := 4, cells := 1, slots := 12, locals := 58 } : Room) s m #[(.ref x0), (.int x1), (.float x2), (.int x3)] below meth c s₁ [] 0 0 := Stand.of_body Bd
  have e0 : s₁.heap = h0 := by rw [← hh, Bd.state]; rfl
  have N0 := Fr.nil n0
  show own_Ends p e below s ({ frames := 4, cells := 1, slots := 12, locals := 58 } : Room).cells ({ frames := 4, cells := 1, slots := 12, locals := 58 } : Room).slots (Q_rm4 Z x0 x1 x2 x3 h0 n0) (s₁.setTop (entryFrame m #[(.ref x0), (.int x1), (.float x2), (.int x3)] 4))
  rw [ef_4_RIFI]
  refine own_step (st' := s₁.setTop (mkF m 1 #[.val (.ref x0), .val (.int x1), .val (.float x2), .val (.int x3)] [(.ref x0)])) (fun t k => XS.aloadN X0.here hx rfl (hb hby d4_0) rfl rfl k) ?_
  obtain ⟨_, _, ⟨T1, L1, k1, n1⟩, -, X1, ⟨Lc1, hQ1, l1, y1, z1⟩, st1⟩ := X0.specialBack hx (y := (⟨"java/util/AbstractSet", "<init>", "()V"⟩ : MethodName)) rfl hown (mvT hZ (hw _ (List.mem_of_getElem? (i := 22) rfl))) (mvT hZ (hw _ (List.mem_of_getElem? (i := 23) rfl))) (mvT hZ (hw _ (List.mem_of_getElem? (i := 27) rfl))) (by decide) (backOf (W := 0) (rm5 l Z a0 hw [] x0 h0 n0 Z0) hZ (hw _ (List.mem_of_getElem? (i := 27) rfl)) (hw _ (List.mem_of_getElem? (i := 26) rfl)) (by decide) (by decide)) (g := (mkF m 1 #[.val (.ref x0), .val (.int x1), .val (.float x2), .val (.int x3)] [(.ref x0)])) rfl (by rw [hml]; rfl) (Steps.refl _) (a := x0) (argsL := []) (rest := []) (lenOf pd_1 rfl) rfl (by show 2 * 0 + _ ≤ _; exact Nat.le_of_eq rfl) (hb hby d4_1) (fun _ _ => ⟨rfl, e0, (by decide : 0 + 0 ≤ _), (by decide : 0 + 0 ≤ _)⟩)
  dsimp only [Pt.U, Pt.locs, Pt.cells, Pt.slots] at X1 l1 y1 z1 st1 hQ1
  subst l1 y1 z1
  obtain ⟨rfl, N1q, e1⟩ := hQ1
  have N1 := Fr.app N0 N1q
  refine own_step (st' := T1.setTop (mkF m 4 #[.val (.ref x0), .val (.int x1), .val (.float x2), .val (.int x3)] [])) (fun t k => st1.trans k) ?_
  refine own_step (st' := T1.setTop (mkF m 5 #[.val (.ref x0), .val (.int x1), .val (.float x2), .val (.int x3)] [(.ref x0)])) (fun t k => XS.aloadN X1.here hx rfl (hb hby d4_4) rfl rfl k) ?_
  obtain ⟨T2, h2, X2, e2, E2, A2, D2, -, st2⟩ := newO X1 hx hZ hown (hw _ (List.mem_of_getElem? (i := 35) rfl)) (hw _ (List.mem_of_getElem? (i := 36) rfl)) (hw _ (List.mem_of_getElem? (i := 37) rfl)) e1 (g := (mkF m 5 #[.val (.ref x0), .val (.int x1), .val (.float x2), .val (.int x3)] [(.ref x0)])) rfl (hb hby d4_5) (by decide) (by decide)
  obtain ⟨b2, g2⟩ : ∃ z, z = h0.size := ⟨_, rfl⟩
  rw [← g2] at A2 D2 st2
  have ne3 : x0 ≠ b2 := Nat.ne_of_lt (Nat.lt_of_lt_of_le p_0.lt (Nat.le_of_eq g2.symm))
  have g_b2 : n0 ≤ b2 := Nat.le_trans Z0 (Nat.le_of_eq g2.symm)
  have sz_b2 : h0.size ≤ b2 := Nat.le_trans (Keep.refl h0 [x0]).1 (Nat.le_of_eq g2.symm)
  have f4 := p_0.ext E2
  have f5 := p_1.ext E2
  have K6 : Keep h0 h2 [x0] := (Keep.refl h0 [x0]).ext E2
  have Z7 : n0 ≤ h2.size := Nat.le_trans Z0 E2.1
  have f8 : Fld Z h2 b2 "java/util/HashMap" "loadFactor" "F" (.float (0 : UInt32)) := D2 (Or.inr (hw _ (List.mem_of_getElem? (i := 61) rfl))) (ty := .float) (by decide)
  have f9 : Fld Z h2 b2 "java/util/HashMap" "threshold" "I" (.int (0 : Int32)) := D2 (Or.inl (hw _ (List.mem_of_getElem? (i := 71) rfl))) (ty := .int) (by decide)
  have f10 : Fld Z h2 b2 "java/util/LinkedHashMap" "putMode" "I" (.int (0 : Int32)) := D2 (Or.inl (hw _ (List.mem_of_getElem? (i := 73) rfl))) (ty := .int) (by decide)
  have f11 : Fld Z h2 b2 "java/util/LinkedHashMap" "accessOrder" "Z" (.int (0 : Int32)) := D2 (Or.inr (hw _ (List.mem_of_getElem? (i := 75) rfl))) (ty := .boolean) (by decide)
  have f12 : Fld Z h2 b2 "java/util/HashMap" "size" "I" (.int (0 : Int32)) := D2 (Or.inl (hw _ (List.mem_of_getElem? (i := 123) rfl))) (ty := .int) (by decide)
  have f13 : Fld Z h2 b2 "java/util/LinkedHashMap" "head" "Ljava/util/LinkedHashMap$Entry;" .null := D2 (Or.inl (hw _ (List.mem_of_getElem? (i := 138) rfl))) (ty := (.object "java/util/LinkedHashMap$Entry")) (by decide)
  have f14 : Fld Z h2 b2 "java/util/HashMap" "modCount" "I" (.int (0 : Int32)) := D2 (Or.inl (hw _ (List.mem_of_getElem? (i := 163) rfl))) (ty := .int) (by decide)
  have f15 : Fld Z h2 b2 "java/util/HashMap" "table" "[Ljava/util/HashMap$Node;" .null := D2 (Or.inl (hw _ (List.mem_of_getElem? (i := 165) rfl))) (ty := (.array (.object "java/util/HashMap$Node"))) (by decide)
  have f16 : Fld Z h2 b2 "java/util/LinkedHashMap" "tail" "Ljava/util/LinkedHashMap$Entry;" .null := D2 (Or.inl (hw _ (List.mem_of_getElem? (i := 167) rfl))) (ty := (.object "java/util/LinkedHashMap$Entry")) (by decide)
  refine own_step (st' := T2.setTop (mkF m 8 #[.val (.ref x0), .val (.int x1), .val (.float x2), .val (.int x3)] [(.ref b2), (.ref x0)])) st2 ?_
  refine own_step (st' := T2.setTop (mkF m 9 #[.val (.ref x0), .val (.int x1), .val (.float x2), .val (.int x3)] [(.ref b2), (.ref b2), (.ref x0)])) (fun t k => XS.dup X2.here hx rfl (hb hby d4_8) rfl rfl k) ?_
  refine own_step (st' := T2.setTop (mkF m 10 #[.val (.ref x0), .val (.int x1), .val (.float x2), .val (.int x3)] [(.int x1), (.ref b2), (.ref b2), (.ref x0)])) (fun t k => XS.iloadN X2.here hx rfl (hb hby d4_9) rfl k) ?_
  refine own_step (st' := T2.setTop (mkF m 11 #[.val (.ref x0), .val (.int x1), .val (.float x2), .val (.int x3)] [(.float x2), (.int x1), (.ref b2), (.ref b2), (.ref x0)])) (fun t k => XS.floadN X2.here hx rfl (hb hby d4_10) rfl k) ?_
  obtain ⟨_, _, ⟨T17, L17, k17, n17⟩, -, X17, ⟨Lc17, hQ17, l17, y17, z17⟩, st17⟩ := X2.specialBack hx (y := (⟨"java/util/LinkedHashMap", "<init>", "(IF)V"⟩ : MethodName)) rfl hown (mvT hZ (hw _ (List.mem_of_getElem? (i := 38) rfl))) (mvT hZ (hw _ (List.mem_of_getElem? (i := 39) rfl))) (mvT hZ (hw _ (List.mem_of_getElem? (i := 41) rfl))) (by decide) (backOf (W := 2) (rm7 l Z a0 hw [] b2 x1 x2 h2 n0 Z7 f8 f9 f10 f11 f12 f13 f16 f14 f15 A2 g_b2 p_3 p_4) hZ (hw _ (List.mem_of_getElem? (i := 41) rfl)) (hw _ (List.mem_of_getElem? (i := 37) rfl)) (by decide) (by decide)) (g := (mkF m 11 #[.val (.ref x0), .val (.int x1), .val (.float x2), .val (.int x3)] [(.float x2), (.int x1), (.ref b2), (.ref b2), (.ref x0)])) rfl (by rw [hml]; rfl) (Steps.refl _) (a := b2) (argsL := [(.int x1), (.float x2)]) (rest := [(.ref b2), (.ref x0)]) (lenOf pd_3 rfl) rfl (by show 2 * 0 + _ ≤ _; exact Nat.le_of_eq rfl) (hb hby d4_11) (fun _ _ => ⟨rfl, e2, (by decide : 1 + 0 ≤ _), (by decide : 12 + 0 ≤ _)⟩)
  dsimp only [Pt.U, Pt.locs, Pt.cells, Pt.slots] at X17 l17 y17 z17 st17 hQ17
  subst l17 y17 z17
  obtain ⟨rfl, N17q, K17, pq17_0, pq17_1, pq17_2, pq17_3, pq17_4⟩ := hQ17
  have N17 := Fr.app N1 N17q
  obtain ⟨h17, e17⟩ : ∃ z, T17.heap = z := ⟨_, rfl⟩
  rw [e17] at K17 pq17_0 pq17_1 pq17_2 pq17_3 pq17_4
  have f18 := f4.keep K17 (ninS ne3 nin0)
  have f19 := f5.keep K17
  have f20 := A2.keep K17
  have K21 : Keep h0 h17 [x0] := K6.trans K17 (allS (Or.inr sz_b2) all0)
  have Z22 : n0 ≤ h17.size := Nat.le_trans Z7 K17.1
  refine own_step (st' := T17.setTop (mkF m 14 #[.val (.ref x0), .val (.int x1), .val (.float x2), .val (.int x3)] [(.ref b2), (.ref x0)])) (fun t k => st17.trans k) ?_
  obtain ⟨T23, h23, X23, e23, W23, st23⟩ := putF X17 hx hZ hown (host := "") (Or.inl (hw _ (List.mem_of_getElem? (i := 76) rfl))) Via.refl e17 f18 f19 (Or.inl (hw _ (List.mem_of_getElem? (i := 77) rfl))) (hw _ (List.mem_of_getElem? (i := 10) rfl)) (ty := (.object "java/util/HashMap")) (by decide) rfl rfl (g := (mkF m 14 #[.val (.ref x0), .val (.int x1), .val (.float x2), .val (.int x3)] [(.ref b2), (.ref x0)])) rfl rfl (hb hby d4_14)
  have F23 := f18.same W23
  have f24 := f19.wr W23
  have f25 := f20.wr W23
  have f26 := pq17_0.other W23 (Or.inl (Ne.symm ne3))
  have f27 := pq17_1.other W23 (Or.inl (Ne.symm ne3))
  have f28 := pq17_2.other W23 (Or.inl (Ne.symm ne3))
  have f29 := pq17_3.other W23 (Or.inl (Ne.symm ne3))
  have f30 := pq17_4.other W23 (Or.inl (Ne.symm ne3))
  have K31 : Keep h0 h23 [x0] := K21.wr W23 (Or.inl (List.mem_of_getElem? (i := 0) rfl))
  have Z32 : n0 ≤ h23.size := Nat.le_trans Z22 (Keep.of_wr W23).1
  have N33 := Fr.snoc X23 N17 p_2
  refine own_step (st' := T23.setTop (mkF m 17 #[.val (.ref x0), .val (.int x1), .val (.float x2), .val (.int x3)] [])) st23 ?_
  refine own_ret X23 Bd.notSynchronized (none) (fun _ => rfl) (fun fs hr => X23.returnOut hx Bd.returns (hb hby d4_17) hr) ?_ (by decide) (by decide)
  rw [e23]
  exact ⟨b2, rfl, N33, K31, sz_b2, F23, f25, f26, f27, f28, f29, f30⟩
theorem d3_0 : decode jdk_2620_method_3_code 0 = .ok (.aload_n 0, 1) := by decide +kernel
theorem d3_1 : decode jdk_2620_method_3_code 1 = .ok (.bipush 16, 2) := by decide +kernel
theorem d3_3 : decode jdk_2620_method_3_code 3 = .ok (.ldc 7, 2) := by decide +kernel
theorem d3_5 : decode jdk_2620_method_3_code 5 = .ok (.iconst 1, 1) := by decide +kernel
theorem d3_6 : decode jdk_2620_method_3_code 6 = .ok (.invokespecial 1, 3) := by decide +kernel
theorem d3_9 : decode jdk_2620_method_3_code 9 = .ok (.return_, 1) := by decide +kernel
theorem pn_14 : plainName "java/util/LinkedHashSet" = true := by first | (simp [plainName, overriddenIn]; done) | decide +kernel
theorem ef_3_R (m : MethodId) (x0 : Addr) : entryFrame m #[(.ref x0)] 1 = mkF m 0 #[.val (.ref x0)] [] := by first | (simp [entryFrame, mkF, argsToLocals, Value.category]; done) | rfl
def Q_rm3 (Z : State) (x0 : Addr) (h0 : Heap) (n0 : Nat) (v : Option Value) (h : Heap) (L : List Loc) : Prop := ∃ b : Addr, v = none ∧ Fr n0 L ∧ Keep h0 h [x0] ∧ h0.size ≤ b ∧ Fld Z h x0 "java/util/HashSet" "map" "Ljava/util/HashMap;" (.ref b) ∧ Exa Z h b "java/util/LinkedHashMap" ∧ Fld Z h b "java/util/HashMap" "size" "I" (.int (0 : Int32)) ∧ Fld Z h b "java/util/LinkedHashMap" "head" "Ljava/util/LinkedHashMap$Entry;" .null ∧ Fld Z h b "java/util/LinkedHashMap" "tail" "Ljava/util/LinkedHashMap$Entry;" .null ∧ Fld Z h b "java/util/HashMap" "modCount" "I" (.int (0 : Int32)) ∧ Fld Z h b "java/util/HashMap" "table" "[Ljava/util/HashMap$Node;" .null
set_option maxRecDepth 65536 in
set_option maxHeartbeats 40000000 in
theorem rm3 (l : Launch) (Z : State) (a0 : Array Value) (hw : ∀ d ∈ tables_1, d.before a0 Z = true) (ws : List Jvm.Cond) (x0 : Addr) (h0 : Heap) (n0 : Nat) (Z0 : n0 ≤ h0.size) (p_0 : Fld Z h0 x0 "java/util/HashSet" "map" "Ljava/util/HashMap;" .null) (p_1 : Exa Z h0 x0 "java/util/LinkedHashSet") (p_2 : n0 ≤ x0) :
    MetFree l (⟨"java/util/LinkedHashSet", "<init>", "()V"⟩ : MethodName) (head1 (Jvm.Cond.code (⟨"java/util/LinkedHashSet", "<init>", "()V"⟩ : MethodName) jdk_2620_method_3_code 1 none :: ws) ({ frames := 5, cells := 1, slots := 12, locals := 73 } : Room)) (fun a U => a = #[(.ref x0)] ∧ Z.Warmed39 U.vm ∧ U.heap = h0) (fun _ _ _ _ _ => True) (fun _ U o U' => ∃ v L, o = .returned v ∧ Q_rm3 Z x0 h0 n0 v U'.heap L ∧ FrameEnd U o U' L ({ frames := 5, cells := 1, slots := 12, locals := 73 } : Room).cells ({ frames := 5, cells := 1, slots := 12, locals := 73 } : Room).slots) := by
  refine MetFree.of_bodySF (plainFor_of_name pn_14) hisR ?_
  intro p e s m args below meth c s₁ Bd hml0 hP hK
  obtain ⟨rfl, hZ, hh⟩ := hP
  have hx := Bd.exec
  have hby := Bd.bytes
  have hml : c.maxLocals = 1 := hml0
  have hown : s.vm.findClass "java/util/LinkedHashSet" = some m.cls := findClass_of_methodNamed Bd.named
  have hnm := (name_of_methodNamed Bd.named Bd.method).1
  have X0 : Stand p l e ({ frames := 5, cells := 1, slots := 12, locals := 73 } : Room) s m #[(.ref x0)] below meth c s₁ [] 0 0 := Stand.of_body Bd
  have e0 : s₁.heap = h0 := by rw [← hh, Bd.state]; rfl
  have N0 := Fr.nil n0
  show own_Ends p e below s ({ frames := 5, cells := 1, slots := 12, locals := 73 } : Room).cells ({ frames := 5, cells := 1, slots := 12, locals := 73 } : Room).slots (Q_rm3 Z x0 h0 n0) (s₁.setTop (entryFrame m #[(.ref x0)] 1))
  rw [ef_3_R]
  refine own_step (st' := s₁.setTop (mkF m 1 #[.val (.ref x0)] [(.ref x0)])) (fun t k => XS.aloadN X0.here hx rfl (hb hby d3_0) rfl rfl k) ?_
  refine own_step (st' := s₁.setTop (mkF m 3 #[.val (.ref x0)] [(.int (16 : Int32)), (.ref x0)])) (fun t k => XS.bipush X0.here hx rfl (hb hby d3_1) k) ?_
  refine own_step (st' := s₁.setTop (mkF m 5 #[.val (.ref x0)] [(.float (1061158912 : UInt32)), (.int (16 : Int32)), (.ref x0)])) (fun t k => X0.ldcFloatC hx hown (mvT hZ (hw _ (List.mem_of_getElem? (i := 15) rfl))) (g := (mkF m 3 #[.val (.ref x0)] [(.int (16 : Int32)), (.ref x0)])) rfl (hb hby d3_3) t k) ?_
  refine own_step (st' := s₁.setTop (mkF m 6 #[.val (.ref x0)] [(.int (1 : Int32)), (.float (1061158912 : UInt32)), (.int (16 : Int32)), (.ref x0)])) (fun t k => XS.iconst X0.here hx rfl (hb hby d3_5) k) ?_
  obtain ⟨_, _, ⟨T1, L1, k1, n1⟩, -, X1, ⟨Lc1, hQ1, l1, y1, z1⟩, st1⟩ := X0.specialBack hx (y := (⟨"java/util/HashSet", "<init>", "(IFZ)V"⟩ : MethodName)) rfl hown (mvT hZ (hw _ (List.mem_of_getElem? (i := 16) rfl))) (mvT hZ (hw _ (List.mem_of_getElem? (i := 17) rfl))) (mvT hZ (hw _ (List.mem_of_getElem? (i := 21) rfl))) (by decide) (backOf (W := 0) (rm4 l Z a0 hw [] x0 (16 : Int32) (1061158912 : UInt32) (1 : Int32) h0 n0 Z0 p_0 p_1 p_2 rfl rfl) hZ (hw _ (List.mem_of_getElem? (i := 21) rfl)) (hw _ (List.mem_of_getElem? (i := 20) rfl)) (by decide) (by decide)) (g := (mkF m 6 #[.val (.ref x0)] [(.int (1 : Int32)), (.float (1061158912 : UInt32)), (.int (16 : Int32)), (.ref x0)])) rfl (by rw [hml]; rfl) (Steps.refl _) (a := x0) (argsL := [(.int (16 : Int32)), (.float (1061158912 : UInt32)), (.int (1 : Int32))]) (rest := []) (lenOf pd_2 rfl) rfl (by show 2 * 0 + _ ≤ _; exact Nat.le_of_eq rfl) (hb hby d3_6) (fun _ _ => ⟨rfl, e0, (by decide : 0 + 1 ≤ _), (by decide : 0 + 12 ≤ _)⟩)
  dsimp only [Pt.U, Pt.locs, Pt.cells, Pt.slots] at X1 l1 y1 z1 st1 hQ1
  subst l1 y1 z1
  obtain ⟨b_1, rfl, N1q, K1, pq1_0, pq1_1, pq1_2, pq1_3, pq1_4, pq1_5, pq1_6, pq1_7⟩ := hQ1
  have N1 := Fr.app N0 N1q
  obtain ⟨h1, e1⟩ : ∃ z, T1.heap = z := ⟨_, rfl⟩
  rw [e1] at K1 pq1_1 pq1_2 pq1_3 pq1_4 pq1_5 pq1_6 pq1_7
  have ne2 : x0 ≠ b_1 := Nat.ne_of_lt (Nat.lt_of_lt_of_le p_0.lt pq1_0)
  have g_b_1 : n0 ≤ b_1 := Nat.le_trans Z0 pq1_0
  have sz_b_1 : h0.size ≤ b_1 := Nat.le_trans (Keep.refl h0 [x0]).1 pq1_0
  have f3 := p_1.keep K1
  have K4 : Keep h0 h1 [x0] := (Keep.refl h0 [x0]).trans K1 (allS (Or.inl (List.mem_of_getElem? (i := 0) rfl)) all0)
  have Z5 : n0 ≤ h1.size := Nat.le_trans Z0 K1.1
  refine own_step (st' := T1.setTop (mkF m 9 #[.val (.ref x0)] [])) (fun t k => st1.trans k) ?_
  refine own_ret X1 Bd.notSynchronized (none) (fun _ => rfl) (fun fs hr => X1.returnOut hx Bd.returns (hb hby d3_9) hr) ?_ (by decide) (by decide)
  rw [e1]
  exact ⟨b_1, rfl, N1, K4, sz_b_1, pq1_1, pq1_2, pq1_3, pq1_4, pq1_5, pq1_6, pq1_7⟩
theorem d1_0 : decode prog_56_method_1_code 0 = .ok (.aload_n 0, 1) := by decide +kernel
theorem d1_1 : decode prog_56_method_1_code 1 = .ok (.invokespecial 1, 3) := by decide +kernel
theorem d1_4 : decode prog_56_method_1_code 4 = .ok (.aload_n 0, 1) := by decide +kernel
theorem d1_5 : decode prog_56_method_1_code 5 = .ok (.new 7, 3) := by decide +kernel
theorem d1_8 : decode prog_56_method_1_code 8 = .ok (.dup, 1) := by decide +kernel
theorem d1_9 : decode prog_56_method_1_code 9 = .ok (.invokespecial 9, 3) := by decide +kernel
theorem d1_12 : decode prog_56_method_1_code 12 = .ok (.putfield 10, 3) := by decide +kernel
theorem d1_15 : decode prog_56_method_1_code 15 = .ok (.aload_n 0, 1) := by decide +kernel
theorem d1_16 : decode prog_56_method_1_code 16 = .ok (.lload_n 1, 1) := by decide +kernel
theorem d1_17 : decode prog_56_method_1_code 17 = .ok (.putfield 16, 3) := by decide +kernel
theorem d1_20 : decode prog_56_method_1_code 20 = .ok (.return_, 1) := by decide +kernel
theorem pn_0 : plainName "com/example/alert_tree/alerttree/server/OutputGate" = true := by first | (simp [plainName, overriddenIn]; done) | decide +kernel
theorem ef_1_RJ (m : MethodId) (x0 : Addr) (x1 : Int64) : entryFrame m #[(.ref x0), (.long x1)] 3 = mkF m 0 #[.val (.ref x0), .val (.long x1), .second] [] := by first | (simp [entryFrame, mkF, argsToLocals, Value.category]; done) | rfl
def Q_rm1 (Z : State) (x0 : Addr) (x1 : Int64) (h0 : Heap) (n0 : Nat) (v : Option Value) (h : Heap) (L : List Loc) : Prop := ∃ q : Addr, ∃ b : Addr, v = none ∧ Fr n0 L ∧ Keep h0 h [x0] ∧ h0.size ≤ q ∧ h0.size ≤ b ∧ q ≠ b ∧ Fld Z h x0 "com/example/alert_tree/alerttree/server/OutputGate" "durableZxid" "J" (.long x1) ∧ Fld Z h x0 "com/example/alert_tree/alerttree/server/OutputGate" "waiting" "Ljava/util/Set;" (.ref q) ∧ Exa Z h q "java/util/LinkedHashSet" ∧ Fld Z h q "java/util/HashSet" "map" "Ljava/util/HashMap;" (.ref b) ∧ Exa Z h b "java/util/LinkedHashMap" ∧ Fld Z h b "java/util/HashMap" "size" "I" (.int (0 : Int32)) ∧ Fld Z h b "java/util/LinkedHashMap" "head" "Ljava/util/LinkedHashMap$Entry;" .null ∧ Fld Z h b "java/util/LinkedHashMap" "tail" "Ljava/util/LinkedHashMap$Entry;" .null ∧ Fld Z h b "java/util/HashMap" "modCount" "I" (.int (0 : Int32)) ∧ Fld Z h b "java/util/HashMap" "table" "[Ljava/util/HashMap$Node;" .null
set_option maxRecDepth 65536 in
set_option maxHeartbeats 40000000 in
theorem rm1 (l : Launch) (Z : State) (a0 : Array Value) (hw : ∀ d ∈ tables_1, d.before a0 Z = true) (ws : List Jvm.Cond) (x0 : Addr) (x1 : Int64) (h0 : Heap) (n0 : Nat) (Z0 : n0 ≤ h0.size) (p_0 : Fld Z h0 x0 "com/example/alert_tree/alerttree/server/OutputGate" "waiting" "Ljava/util/Set;" .null) (p_1 : Fld Z h0 x0 "com/example/alert_tree/alerttree/server/OutputGate" "durableZxid" "J" (.long (0 : Int64))) (p_2 : Exa Z h0 x0 "com/example/alert_tree/alerttree/server/OutputGate") (p_3 : n0 ≤ x0) :
    MetFree l (⟨"com/example/alert_tree/alerttree/server/OutputGate", "<init>", "(J)V"⟩ : MethodName) (head1 (Jvm.Cond.code (⟨"com/example/alert_tree/alerttree/server/OutputGate", "<init>", "(J)V"⟩ : MethodName) prog_56_method_1_code 3 none :: ws) ({ frames := 6, cells := 2, slots := 13, locals := 87 } : Room)) (fun a U => a = #[(.ref x0), (.long x1)] ∧ Z.Warmed39 U.vm ∧ U.heap = h0) (fun _ _ _ _ _ => True) (fun _ U o U' => ∃ v L, o = .returned v ∧ Q_rm1 Z x0 x1 h0 n0 v U'.heap L ∧ FrameEnd U o U' L ({ frames := 6, cells := 2, slots := 13, locals := 87 } : Room).cells ({ frames := 6, cells := 2, slots := 13, locals := 87 } : Room).slots) := by
  refine MetFree.of_bodySF (plainFor_of_name pn_0) hisR ?_
  intro p e s m args below meth c s₁ Bd hml0 hP hK
  obtain ⟨rfl, hZ, hh⟩ := hP
  have hx := Bd.exec
  have hby := Bd.bytes
  have hml : c.maxLocals = 3 := hml0
  have hown : s.vm.findClass "com/example/alert_tree/alerttree/server/OutputGate" = some m.cls := findClass_of_methodNamed Bd.named
  have hnm := (name_of_methodNamed Bd.named Bd.method).1
  have X0 : Stand p l e ({ frames := 6, cells := 2, slots := 13, locals := 87 } : Room) s m #[(.ref x0), (.long x1)] below meth c s₁ [] 0 0 := Stand.of_body Bd
  have e0 : s₁.heap = h0 := by rw [← hh, Bd.state]; rfl
  have N0 := Fr.nil n0
  show own_Ends p e below s ({ frames := 6, cells := 2, slots := 13, locals := 87 } : Room).cells ({ frames := 6, cells := 2, slots := 13, locals := 87 } : Room).slots (Q_rm1 Z x0 x1 h0 n0) (s₁.setTop (entryFrame m #[(.ref x0), (.long x1)] 3))
  rw [ef_1_RJ]
  refine own_step (st' := s₁.setTop (mkF m 1 #[.val (.ref x0), .val (.long x1), .second] [(.ref x0)])) (fun t k => XS.aloadN X0.here hx rfl (hb hby d1_0) rfl rfl k) ?_
  obtain ⟨T1, X1, e1, st1⟩ := initO X0 hx hZ hown (hw _ (List.mem_of_getElem? (i := 6) rfl)) (hw _ (List.mem_of_getElem? (i := 7) rfl)) (hw _ (List.mem_of_getElem? (i := 8) rfl)) e0 (g := (mkF m 1 #[.val (.ref x0), .val (.long x1), .second] [(.ref x0)])) rfl (by rw [hml]; rfl) rfl (hb hby d1_1) (by decide) (W := 0) (by show 2 * 0 + _ ≤ _; exact Nat.le_of_eq rfl) (by decide)
  refine own_step (st' := T1.setTop (mkF m 4 #[.val (.ref x0), .val (.long x1), .second] [])) st1 ?_
  refine own_step (st' := T1.setTop (mkF m 5 #[.val (.ref x0), .val (.long x1), .second] [(.ref x0)])) (fun t k => XS.aloadN X1.here hx rfl (hb hby d1_4) rfl rfl k) ?_
  obtain ⟨T2, h2, X2, e2, E2, A2, D2, -, st2⟩ := newO X1 hx hZ hown (hw _ (List.mem_of_getElem? (i := 9) rfl)) (hw _ (List.mem_of_getElem? (i := 10) rfl)) (hw _ (List.mem_of_getElem? (i := 11) rfl)) e1 (g := (mkF m 5 #[.val (.ref x0), .val (.long x1), .second] [(.ref x0)])) rfl (hb hby d1_5) (by decide) (by decide)
  obtain ⟨b2, g2⟩ : ∃ z, z = h0.size := ⟨_, rfl⟩
  rw [← g2] at A2 D2 st2
  have ne3 : x0 ≠ b2 := Nat.ne_of_lt (Nat.lt_of_lt_of_le p_0.lt (Nat.le_of_eq g2.symm))
  have g_b2 : n0 ≤ b2 := Nat.le_trans Z0 (Nat.le_of_eq g2.symm)
  have sz_b2 : h0.size ≤ b2 := Nat.le_trans (Keep.refl h0 [x0]).1 (Nat.le_of_eq g2.symm)
  have f4 := p_0.ext E2
  have f5 := p_1.ext E2
  have f6 := p_2.ext E2
  have K7 : Keep h0 h2 [x0] := (Keep.refl h0 [x0]).ext E2
  have Z8 : n0 ≤ h2.size := Nat.le_trans Z0 E2.1
  have f9 : Fld Z h2 b2 "java/util/HashSet" "map" "Ljava/util/HashMap;" .null := D2 (Or.inl (hw _ (List.mem_of_getElem? (i := 77) rfl))) (ty := (.object "java/util/HashMap")) (by decide)
  refine own_step (st' := T2.setTop (mkF m 8 #[.val (.ref x0), .val (.long x1), .second] [(.ref b2), (.ref x0)])) st2 ?_
  refine own_step (st' := T2.setTop (mkF m 9 #[.val (.ref x0), .val (.long x1), .second] [(.ref b2), (.ref b2), (.ref x0)])) (fun t k => XS.dup X2.here hx rfl (hb hby d1_8) rfl rfl k) ?_
  obtain ⟨_, _, ⟨T10, L10, k10, n10⟩, -, X10, ⟨Lc10, hQ10, l10, y10, z10⟩, st10⟩ := X2.specialBack hx (y := (⟨"java/util/LinkedHashSet", "<init>", "()V"⟩ : MethodName)) rfl hown (mvT hZ (hw _ (List.mem_of_getElem? (i := 12) rfl))) (mvT hZ (hw _ (List.mem_of_getElem? (i := 13) rfl))) (mvT hZ (hw _ (List.mem_of_getElem? (i := 14) rfl))) (by decide) (backOf (W := 2) (rm3 l Z a0 hw [] b2 h2 n0 Z8 f9 A2 g_b2) hZ (hw _ (List.mem_of_getElem? (i := 14) rfl)) (hw _ (List.mem_of_getElem? (i := 11) rfl)) (by decide) (by decide)) (g := (mkF m 9 #[.val (.ref x0), .val (.long x1), .second] [(.ref b2), (.ref b2), (.ref x0)])) rfl (by rw [hml]; rfl) (Steps.refl _) (a := b2) (argsL := []) (rest := [(.ref b2), (.ref x0)]) (lenOf pd_1 rfl) rfl (by show 2 * 0 + _ ≤ _; exact Nat.le_of_eq rfl) (hb hby d1_9) (fun _ _ => ⟨rfl, e2, (by decide : 1 + 1 ≤ _), (by decide : 1 + 12 ≤ _)⟩)
  dsimp only [Pt.U, Pt.locs, Pt.cells, Pt.slots] at X10 l10 y10 z10 st10 hQ10
  subst l10 y10 z10
  obtain ⟨b_10, rfl, N10q, K10, pq10_0, pq10_1, pq10_2, pq10_3, pq10_4, pq10_5, pq10_6, pq10_7⟩ := hQ10
  have N10 := Fr.app N0 N10q
  obtain ⟨h10, e10⟩ : ∃ z, T10.heap = z := ⟨_, rfl⟩
  rw [e10] at K10 pq10_1 pq10_2 pq10_3 pq10_4 pq10_5 pq10_6 pq10_7
  have ne11 : x0 ≠ b_10 := Nat.ne_of_lt (Nat.lt_of_lt_of_le f4.lt pq10_0)
  have ne12 : b2 ≠ b_10 := Nat.ne_of_lt (Nat.lt_of_lt_of_le A2.lt pq10_0)
  have g_b_10 : n0 ≤ b_10 := Nat.le_trans Z8 pq10_0
  have sz_b_10 : h0.size ≤ b_10 := Nat.le_trans K7.1 pq10_0
  have f13 := f4.keep K10 (ninS ne3 nin0)
  have f14 := f5.keep K10 (ninS ne3 nin0)
  have f15 := f6.keep K10
  have f16 := A2.keep K10
  have K17 : Keep h0 h10 [x0] := K7.trans K10 (allS (Or.inr sz_b2) all0)
  have Z18 : n0 ≤ h10.size := Nat.le_trans Z8 K10.1
  refine own_step (st' := T10.setTop (mkF m 12 #[.val (.ref x0), .val (.long x1), .second] [(.ref b2), (.ref x0)])) (fun t k => st10.trans k) ?_
  obtain ⟨T19, h19, X19, e19, W19, st19⟩ := putF X10 hx hZ hown (host := "") (Or.inl (hw _ (List.mem_of_getElem? (i := 78) rfl))) Via.refl e10 f13 f15 (Or.inr ⟨(hw _ (List.mem_of_getElem? (i := 79) rfl)), rfl, hnm⟩) (hw _ (List.mem_of_getElem? (i := 1) rfl)) (ty := (.object "java/util/Set")) (by decide) rfl rfl (g := (mkF m 12 #[.val (.ref x0), .val (.long x1), .second] [(.ref b2), (.ref x0)])) rfl rfl (hb hby d1_12)
  have F19 := f13.same W19
  have f20 := f14.other W19 (Or.inr (slot_ne (Or.inl (hw _ (List.mem_of_getElem? (i := 81) rfl))) (Or.inr (hw _ (List.mem_of_getElem? (i := 79) rfl))) (by decide) (t := .long) (t' := (.object "java/util/Set")) (by decide) (by decide)))
  have f21 := f15.wr W19
  have f22 := f16.wr W19
  have f23 := pq10_1.other W19 (Or.inl (Ne.symm ne3))
  have f24 := pq10_2.wr W19
  have f25 := pq10_3.other W19 (Or.inl (Ne.symm ne11))
  have f26 := pq10_4.other W19 (Or.inl (Ne.symm ne11))
  have f27 := pq10_5.other W19 (Or.inl (Ne.symm ne11))
  have f28 := pq10_6.other W19 (Or.inl (Ne.symm ne11))
  have f29 := pq10_7.other W19 (Or.inl (Ne.symm ne11))
  have K30 : Keep h0 h19 [x0] := K17.wr W19 (Or.inl (List.mem_of_getElem? (i := 0) rfl))
  have Z31 : n0 ≤ h19.size := Nat.le_trans Z18 (Keep.of_wr W19).1
  have N32 := Fr.snoc X19 N10 p_3
  refine own_step (st' := T19.setTop (mkF m 15 #[.val (.ref x0), .val (.long x1), .second] [])) st19 ?_
  refine own_step (st' := T19.setTop (mkF m 16 #[.val (.ref x0), .val (.long x1), .second] [(.ref x0)])) (fun t k => XS.aloadN X19.here hx rfl (hb hby d1_15) rfl rfl k) ?_
  refine own_step (st' := T19.setTop (mkF m 17 #[.val (.ref x0), .val (.long x1), .second] [(.long x1), (.ref x0)])) (fun t k => XS.lloadN X19.here hx rfl (hb hby d1_16) rfl k) ?_
  obtain ⟨T33, h33, X33, e33, W33, st33⟩ := putF X19 hx hZ hown (host := "") (Or.inl (hw _ (List.mem_of_getElem? (i := 80) rfl))) Via.refl e19 f20 f21 (Or.inl (hw _ (List.mem_of_getElem? (i := 81) rfl))) (hw _ (List.mem_of_getElem? (i := 1) rfl)) (ty := .long) (by decide) rfl rfl (g := (mkF m 17 #[.val (.ref x0), .val (.long x1), .second] [(.long x1), (.ref x0)])) rfl rfl (hb hby d1_17)
  have F33 := f20.same W33
  have f34 := f21.wr W33
  have f35 := f22.wr W33
  have f36 := f23.other W33 (Or.inl (Ne.symm ne3))
  have f37 := f24.wr W33
  have f38 := f25.other W33 (Or.inl (Ne.symm ne11))
  have f39 := f26.other W33 (Or.inl (Ne.symm ne11))
  have f40 := f27.other W33 (Or.inl (Ne.symm ne11))
  have f41 := f28.other W33 (Or.inl (Ne.symm ne11))
  have f42 := f29.other W33 (Or.inl (Ne.symm ne11))
  have f43 := F19.other W33 (Or.inr (slot_ne (Or.inr (hw _ (List.mem_of_getElem? (i := 79) rfl))) (Or.inl (hw _ (List.mem_of_getElem? (i := 81) rfl))) (by decide) (t := (.object "java/util/Set")) (t' := .long) (by decide) (by decide)))
  have K44 : Keep h0 h33 [x0] := K30.wr W33 (Or.inl (List.mem_of_getElem? (i := 0) rfl))
  have Z45 : n0 ≤ h33.size := Nat.le_trans Z31 (Keep.of_wr W33).1
  have N46 := Fr.snoc X33 N32 p_3
  refine own_step (st' := T33.setTop (mkF m 20 #[.val (.ref x0), .val (.long x1), .second] [])) st33 ?_
  refine own_ret X33 Bd.notSynchronized (none) (fun _ => rfl) (fun fs hr => X33.returnOut hx Bd.returns (hb hby d1_20) hr) ?_ (by decide) (by decide)
  rw [e33]
  exact ⟨b2, b_10, rfl, N46, K44, sz_b2, sz_b_10, ne12, F33, f43, f35, f36, f37, f38, f39, f40, f41, f42⟩
theorem d13_0 : decode prog_56_method_2_code 0 = .ok (.lload_n 1, 1) := by decide +kernel
theorem d13_1 : decode prog_56_method_2_code 1 = .ok (.aload_n 0, 1) := by decide +kernel
theorem d13_2 : decode prog_56_method_2_code 2 = .ok (.getfield 16, 3) := by decide +kernel
theorem d13_5 : decode prog_56_method_2_code 5 = .ok (.lcmp, 1) := by decide +kernel
theorem d13_6 : decode prog_56_method_2_code 6 = .ok (.ifCond .gt 7, 3) := by decide +kernel
theorem d13_9 : decode prog_56_method_2_code 9 = .ok (.iconst 1, 1) := by decide +kernel
theorem d13_10 : decode prog_56_method_2_code 10 = .ok (.goto 4, 3) := by decide +kernel
theorem d13_13 : decode prog_56_method_2_code 13 = .ok (.iconst 0, 1) := by decide +kernel
theorem d13_14 : decode prog_56_method_2_code 14 = .ok (.ireturn, 1) := by decide +kernel
theorem ef_13_RJ (m : MethodId) (x0 : Addr) (x1 : Int64) : entryFrame m #[(.ref x0), (.long x1)] 3 = mkF m 0 #[.val (.ref x0), .val (.long x1), .second] [] := by first | (simp [entryFrame, mkF, argsToLocals, Value.category]; done) | rfl
def Q_rm13 (Z : State) (x0 : Addr) (x1 : Int64) (n : Int64) (h0 : Heap) (n0 : Nat) (v : Option Value) (h : Heap) (L : List Loc) : Prop := v = some (.int (if n < x1 then (0 : Int32) else (1 : Int32))) ∧ Fr n0 L ∧ h = h0
set_option maxRecDepth 65536 in
set_option maxHeartbeats 40000000 in
theorem rm13 (l : Launch) (Z : State) (a0 : Array Value) (hw : ∀ d ∈ tables_1, d.before a0 Z = true) (ws : List Jvm.Cond) (x0 : Addr) (x1 : Int64) (n : Int64) (h0 : Heap) (n0 : Nat) (Z0 : n0 ≤ h0.size) (p_0 : Fld Z h0 x0 "com/example/alert_tree/alerttree/server/OutputGate" "durableZxid" "J" (.long n)) :
    MetFree l (⟨"com/example/alert_tree/alerttree/server/OutputGate", "passes", "(J)Z"⟩ : MethodName) (head1 (Jvm.Cond.code (⟨"com/example/alert_tree/alerttree/server/OutputGate", "passes", "(J)Z"⟩ : MethodName) prog_56_method_2_code 3 (some .boolean) :: ws) ({ frames := 0, cells := 0, slots := 0, locals := 0 } : Room)) (fun a U => a = #[(.ref x0), (.long x1)] ∧ Z.Warmed39 U.vm ∧ U.heap = h0) (fun _ _ _ _ _ => True) (fun _ U o U' => ∃ v L, o = .returned v ∧ Q_rm13 Z x0 x1 n h0 n0 v U'.heap L ∧ FrameEnd U o U' L ({ frames := 0, cells := 0, slots := 0, locals := 0 } : Room).cells ({ frames := 0, cells := 0, slots := 0, locals := 0 } : Room).slots) := by
  refine MetFree.of_bodySF (plainFor_of_name pn_0) hisR ?_
  intro p e s m args below meth c s₁ Bd hml0 hP hK
  obtain ⟨rfl, hZ, hh⟩ := hP
  have hx := Bd.exec
  have hby := Bd.bytes
  have hml : c.maxLocals = 3 := hml0
  have hown : s.vm.findClass "com/example/alert_tree/alerttree/server/OutputGate" = some m.cls := findClass_of_methodNamed Bd.named
  have hnm := (name_of_methodNamed Bd.named Bd.method).1
  have X0 : Stand p l e ({ frames := 0, cells := 0, slots := 0, locals := 0 } : Room) s m #[(.ref x0), (.long x1)] below meth c s₁ [] 0 0 := Stand.of_body Bd
  have e0 : s₁.heap = h0 := by rw [← hh, Bd.state]; rfl
  have N0 := Fr.nil n0
  show own_Ends p e below s ({ frames := 0, cells := 0, slots := 0, locals := 0 } : Room).cells ({ frames := 0, cells := 0, slots := 0, locals := 0 } : Room).slots (Q_rm13 Z x0 x1 n h0 n0) (s₁.setTop (entryFrame m #[(.ref x0), (.long x1)] 3))
  rw [ef_13_RJ]
  refine own_step (st' := s₁.setTop (mkF m 1 #[.val (.ref x0), .val (.long x1), .second] [(.long x1)])) (fun t k => XS.lloadN X0.here hx rfl (hb hby d13_0) rfl k) ?_
  refine own_step (st' := s₁.setTop (mkF m 2 #[.val (.ref x0), .val (.long x1), .second] [(.ref x0), (.long x1)])) (fun t k => XS.aloadN X0.here hx rfl (hb hby d13_1) rfl rfl k) ?_
  obtain ⟨T1, X1, e1, st1⟩ := getF X0 hx hZ hown (host := "") (Or.inl (hw _ (List.mem_of_getElem? (i := 80) rfl))) Via.refl e0 p_0 (g := (mkF m 2 #[.val (.ref x0), .val (.long x1), .second] [(.ref x0), (.long x1)])) rfl rfl (hb hby d13_2)
  refine own_step (st' := T1.setTop (mkF m 5 #[.val (.ref x0), .val (.long x1), .second] [(.long n), (.long x1)])) st1 ?_
  refine own_step (st' := T1.setTop (mkF m 6 #[.val (.ref x0), .val (.long x1), .second] [(.int (lcmpW x1 n))])) (fun t k => XS.lcmp X1.here hx rfl (hb hby d13_5) rfl k) ?_
  refine own_step (st' := T1.setTop (mkF m 14 #[.val (.ref x0), .val (.long x1), .second] [(.int (if n < x1 then (0 : Int32) else (1 : Int32)))])) (fun t k => ?_) ?_
  · by_cases hc2 : n < x1
    · refine XS.ifYes X1.here hx rfl (pc0 := 6) (pc' := 13) rfl (hb hby d13_6) rfl ((if0 _ _).trans (tlt ((lw_gt _ _).mpr hc2)).2.2.1) (by decide) (by decide) (?_ : Steps p.tables e below (T1.setTop (mkF m 13 #[.val (.ref x0), .val (.long x1), .second] [])) _)
      refine XS.iconst X1.here hx rfl (hb hby d13_13) (?_ : Steps p.tables e below (T1.setTop (mkF m 14 #[.val (.ref x0), .val (.long x1), .second] [(.int (0 : Int32))])) _)
      simpa only [if_pos hc2] using k
    · refine XS.ifNo X1.here hx rfl (hb hby d13_6) rfl ((if0 _ _).trans (flt (fun q => hc2 ((lw_gt _ _).mp q))).2.2.1) (?_ : Steps p.tables e below (T1.setTop (mkF m 9 #[.val (.ref x0), .val (.long x1), .second] [])) _)
      refine XS.iconst X1.here hx rfl (hb hby d13_9) (?_ : Steps p.tables e below (T1.setTop (mkF m 10 #[.val (.ref x0), .val (.long x1), .second] [(.int (1 : Int32))])) _)
      refine XS.goto X1.here hx rfl (pc0 := 10) (pc' := 14) rfl (hb hby d13_10) (by decide) (by decide) (?_ : Steps p.tables e below (T1.setTop (mkF m 14 #[.val (.ref x0), .val (.long x1), .second] [(.int (1 : Int32))])) _)
      simpa only [if_neg hc2] using k
  refine own_ret X1 Bd.notSynchronized (some (.int (nar .boolean (if n < x1 then (0 : Int32) else (1 : Int32))))) (fun h => by rw [Bd.returns] at h; cases h) (fun fs hr => retN X1 hx (t := .boolean) Bd.returns (by simp) (hb hby d13_14) hr) ?_ (by decide) (by decide)
  rw [e1]
  exact ⟨(by rw [own_nar01]), N0, rfl⟩
theorem d18_0 : decode jdk_69_method_10_code 0 = .ok (.aload_n 0, 1) := by decide +kernel
theorem d18_1 : decode jdk_69_method_10_code 1 = .ok (.getfield 156, 3) := by decide +kernel
theorem d18_4 : decode jdk_69_method_10_code 4 = .ok (.ireturn, 1) := by decide +kernel
theorem ef_18_R (m : MethodId) (x0 : Addr) : entryFrame m #[(.ref x0)] 1 = mkF m 0 #[.val (.ref x0)] [] := by first | (simp [entryFrame, mkF, argsToLocals, Value.category]; done) | rfl
def Q_rm18 (Z : State) (x0 : Addr) (n : Int32) (h0 : Heap) (n0 : Nat) (v : Option Value) (h : Heap) (L : List Loc) : Prop := v = some (.int n) ∧ Fr n0 L ∧ h = h0
set_option maxRecDepth 65536 in
set_option maxHeartbeats 40000000 in
theorem rm18 (l : Launch) (Z : State) (a0 : Array Value) (hw : ∀ d ∈ tables_1, d.before a0 Z = true) (ws : List Jvm.Cond) (x0 : Addr) (n : Int32) (h0 : Heap) (n0 : Nat) (Z0 : n0 ≤ h0.size) (p_0 : Fld Z h0 x0 "java/util/HashMap" "size" "I" (.int n)) :
    MetFree l (⟨"java/util/HashMap", "size", "()I"⟩ : MethodName) (head1 (Jvm.Cond.code (⟨"java/util/HashMap", "size", "()I"⟩ : MethodName) jdk_69_method_10_code 1 (some .int) :: ws) ({ frames := 0, cells := 0, slots := 0, locals := 0 } : Room)) (fun a U => a = #[(.ref x0)] ∧ Z.Warmed39 U.vm ∧ U.heap = h0) (fun _ _ _ _ _ => True) (fun _ U o U' => ∃ v L, o = .returned v ∧ Q_rm18 Z x0 n h0 n0 v U'.heap L ∧ FrameEnd U o U' L ({ frames := 0, cells := 0, slots := 0, locals := 0 } : Room).cells ({ frames := 0, cells := 0, slots := 0, locals := 0 } : Room).slots) := by
  refine MetFree.of_bodySF (plainFor_of_name pn_11) hisR ?_
  intro p e s m args below meth c s₁ Bd hml0 hP hK
  obtain ⟨rfl, hZ, hh⟩ := hP
  have hx := Bd.exec
  have hby := Bd.bytes
  have hml : c.maxLocals = 1 := hml0
  have hown : s.vm.findClass "java/util/HashMap" = some m.cls := findClass_of_methodNamed Bd.named
  have hnm := (name_of_methodNamed Bd.named Bd.method).1
  have X0 : Stand p l e ({ frames := 0, cells := 0, slots := 0, locals := 0 } : Room) s m #[(.ref x0)] below meth c s₁ [] 0 0 := Stand.of_body Bd
  have e0 : s₁.heap = h0 := by rw [← hh, Bd.state]; rfl
  have N0 := Fr.nil n0
  show own_Ends p e below s ({ frames := 0, cells := 0, slots := 0, locals := 0 } : Room).cells ({ frames := 0, cells := 0, slots := 0, locals := 0 } : Room).slots (Q_rm18 Z x0 n h0 n0) (s₁.setTop (entryFrame m #[(.ref x0)] 1))
  rw [ef_18_R]
  refine own_step (st' := s₁.setTop (mkF m 1 #[.val (.ref x0)] [(.ref x0)])) (fun t k => XS.aloadN X0.here hx rfl (hb hby d18_0) rfl rfl k) ?_
  obtain ⟨T1, X1, e1, st1⟩ := getF X0 hx hZ hown (host := "") (Or.inl (hw _ (List.mem_of_getElem? (i := 122) rfl))) Via.refl e0 p_0 (g := (mkF m 1 #[.val (.ref x0)] [(.ref x0)])) rfl rfl (hb hby d18_1)
  refine own_step (st' := T1.setTop (mkF m 4 #[.val (.ref x0)] [(.int n)])) st1 ?_
  refine own_ret X1 Bd.notSynchronized (some (.int n)) (fun h => by rw [Bd.returns] at h; cases h) (fun fs hr => own_retI X1 hx Bd.returns (hb hby d18_4) hr) ?_ (by decide) (by decide)
  rw [e1]
  exact ⟨rfl, N0, rfl⟩
theorem d20_0 : decode jdk_94_method_28_code 0 = .ok (.aload_n 1, 1) := by decide +kernel
theorem d20_1 : decode jdk_94_method_28_code 1 = .ok (.astore_n 3, 1) := by decide +kernel
theorem d20_2 : decode jdk_94_method_28_code 2 = .ok (.iconst 0, 1) := by decide +kernel
theorem d20_3 : decode jdk_94_method_28_code 3 = .ok (.istore 4, 2) := by decide +kernel
theorem d20_5 : decode jdk_94_method_28_code 5 = .ok (.iload_n 2, 1) := by decide +kernel
theorem d20_6 : decode jdk_94_method_28_code 6 = .ok (.ifCond .eq 39, 3) := by decide +kernel
theorem d20_45 : decode jdk_94_method_28_code 45 = .ok (.aload_n 0, 1) := by decide +kernel
theorem d20_46 : decode jdk_94_method_28_code 46 = .ok (.getfield 7, 3) := by decide +kernel
theorem d20_49 : decode jdk_94_method_28_code 49 = .ok (.astore 5, 2) := by decide +kernel
theorem d20_51 : decode jdk_94_method_28_code 51 = .ok (.aload 5, 2) := by decide +kernel
theorem d20_53 : decode jdk_94_method_28_code 53 = .ok (.ifnull 25, 3) := by decide +kernel
theorem d20_78 : decode jdk_94_method_28_code 78 = .ok (.aload_n 1, 1) := by decide +kernel
theorem d20_79 : decode jdk_94_method_28_code 79 = .ok (.areturn, 1) := by decide +kernel
theorem ef_20_RRI (m : MethodId) (x0 : Addr) (x1 : Addr) (x2 : Int32) : entryFrame m #[(.ref x0), (.ref x1), (.int x2)] 6 = mkF m 0 #[.val (.ref x0), .val (.ref x1), .val (.int x2), .unset, .unset, .unset] [] := by first | (simp [entryFrame, mkF, argsToLocals, Value.category]; done) | rfl
def Q_rm20 (Z : State) (x0 : Addr) (x1 : Addr) (x2 : Int32) (h0 : Heap) (n0 : Nat) (v : Option Value) (h : Heap) (L : List Loc) : Prop := v = some (.ref x1) ∧ Fr n0 L ∧ h = h0
set_option maxRecDepth 65536 in
set_option maxHeartbeats 40000000 in
theorem rm20 (l : Launch) (Z : State) (a0 : Array Value) (hw : ∀ d ∈ tables_1, d.before a0 Z = true) (ws : List Jvm.Cond) (x0 : Addr) (x1 : Addr) (x2 : Int32) (h0 : Heap) (n0 : Nat) (Z0 : n0 ≤ h0.size) (p_0 : Fld Z h0 x0 "java/util/LinkedHashMap" "head" "Ljava/util/LinkedHashMap$Entry;" .null) (p_1 : x2 = (0 : Int32)) :
    MetFree l (⟨"java/util/LinkedHashMap", "keysToArray", "([Ljava/lang/Object;Z)[Ljava/lang/Object;"⟩ : MethodName) (head1 (Jvm.Cond.code (⟨"java/util/LinkedHashMap", "keysToArray", "([Ljava/lang/Object;Z)[Ljava/lang/Object;"⟩ : MethodName) jdk_94_method_28_code 6 (some (.array (.object "java/lang/Object"))) :: ws) ({ frames := 0, cells := 0, slots := 0, locals := 0 } : Room)) (fun a U => a = #[(.ref x0), (.ref x1), (.int x2)] ∧ Z.Warmed39 U.vm ∧ U.heap = h0) (fun _ _ _ _ _ => True) (fun _ U o U' => ∃ v L, o = .returned v ∧ Q_rm20 Z x0 x1 x2 h0 n0 v U'.heap L ∧ FrameEnd U o U' L ({ frames := 0, cells := 0, slots := 0, locals := 0 } : Room).cells ({ frames := 0, cells := 0, slots := 0, locals := 0 } : Room).slots) := by
  refine MetFree.of_bodySF (plainFor_of_name pn_13) hisR ?_
  intro p e s m args below meth c s₁ Bd hml0 hP hK
  obtain ⟨rfl, hZ, hh⟩ := hP
  have hx := Bd.exec
  have hby := Bd.bytes
  have hml : c.maxLocals = 6 := hml0
  have hown : s.vm.findClass "java/util/LinkedHashMap" = some m.cls := findClass_of_methodNamed Bd.named
  have hnm := (name_of_methodNamed Bd.named Bd.method).1
  have X0 : Stand p l e ({ frames := 0, cells := 0, slots := 0, locals := 0 } : Room) s m #[(.ref x0), (.ref x1), (.int x2)] below meth c s₁ [] 0 0 := Stand.of_body Bd
  have e0 : s₁.heap = h0 := by rw [← hh, Bd.state]; rfl
  have N0 := Fr.nil n0
  show own_Ends p e below s ({ frames := 0, cells := 0, slots := 0, locals := 0 } : Room).cells ({ frames := 0, cells := 0, slots := 0, locals := 0 } : Room).slots (Q_rm20 Z x0 x1 x2 h0 n0) (s₁.setTop (entryFrame m #[(.ref x0), (.ref x1), (.int x2)] 6))
  rw [ef_20_RRI]
  subst p_1
  refine own_step (st' := s₁.setTop (mkF m 1 #[.val (.ref x0), .val (.ref x1), .val (.int (0 : Int32)), .unset, .unset, .unset] [(.ref x1)])) (fun t k => XS.aloadN X0.here hx rfl (hb hby d20_0) rfl rfl k) ?_
  refine own_step (st' := s₁.setTop (mkF m 2 #[.val (.ref x0), .val (.ref x1), .val (.int (0 : Int32)), .val (.ref x1), .unset, .unset] [])) (fun t k => XS.astoreN X0.here hx rfl (hb hby d20_1) rfl rfl (l' := #[.val (.ref x0), .val (.ref x1), .val (.int (0 : Int32)), .val (.ref x1), .unset, .unset]) rfl k) ?_
  refine own_step (st' := s₁.setTop (mkF m 3 #[.val (.ref x0), .val (.ref x1), .val (.int (0 : Int32)), .val (.ref x1), .unset, .unset] [(.int (0 : Int32))])) (fun t k => XS.iconst X0.here hx rfl (hb hby d20_2) k) ?_
  refine own_step (st' := s₁.setTop (mkF m 5 #[.val (.ref x0), .val (.ref x1), .val (.int (0 : Int32)), .val (.ref x1), .val (.int (0 : Int32)), .unset] [])) (fun t k => XS.istore X0.here hx rfl (hb hby d20_3) rfl (l' := #[.val (.ref x0), .val (.ref x1), .val (.int (0 : Int32)), .val (.ref x1), .val (.int (0 : Int32)), .unset]) rfl k) ?_
  refine own_step (st' := s₁.setTop (mkF m 6 #[.val (.ref x0), .val (.ref x1), .val (.int (0 : Int32)), .val (.ref x1), .val (.int (0 : Int32)), .unset] [(.int (0 : Int32))])) (fun t k => XS.iloadN X0.here hx rfl (hb hby d20_5) rfl k) ?_
  refine own_step (st' := s₁.setTop (mkF m 45 #[.val (.ref x0), .val (.ref x1), .val (.int (0 : Int32)), .val (.ref x1), .val (.int (0 : Int32)), .unset] [])) (fun t k => XS.ifYes X0.here hx rfl (pc0 := 6) (pc' := 45) rfl (hb hby d20_6) rfl ((if0 _ _).trans (teq (by decide)).1) (by decide) (by decide) k) ?_
  refine own_step (st' := s₁.setTop (mkF m 46 #[.val (.ref x0), .val (.ref x1), .val (.int (0 : Int32)), .val (.ref x1), .val (.int (0 : Int32)), .unset] [(.ref x0)])) (fun t k => XS.aloadN X0.here hx rfl (hb hby d20_45) rfl rfl k) ?_
  obtain ⟨T1, X1, e1, st1⟩ := getF X0 hx hZ hown (host := "") (Or.inl (hw _ (List.mem_of_getElem? (i := 137) rfl))) Via.refl e0 p_0 (g := (mkF m 46 #[.val (.ref x0), .val (.ref x1), .val (.int (0 : Int32)), .val (.ref x1), .val (.int (0 : Int32)), .unset] [(.ref x0)])) rfl rfl (hb hby d20_46)
  refine own_step (st' := T1.setTop (mkF m 49 #[.val (.ref x0), .val (.ref x1), .val (.int (0 : Int32)), .val (.ref x1), .val (.int (0 : Int32)), .unset] [.null])) st1 ?_
  refine own_step (st' := T1.setTop (mkF m 51 #[.val (.ref x0), .val (.ref x1), .val (.int (0 : Int32)), .val (.ref x1), .val (.int (0 : Int32)), .val .null] [])) (fun t k => XS.astore X1.here hx rfl (hb hby d20_49) rfl rfl (l' := #[.val (.ref x0), .val (.ref x1), .val (.int (0 : Int32)), .val (.ref x1), .val (.int (0 : Int32)), .val .null]) rfl k) ?_
  refine own_step (st' := T1.setTop (mkF m 53 #[.val (.ref x0), .val (.ref x1), .val (.int (0 : Int32)), .val (.ref x1), .val (.int (0 : Int32)), .val .null] [.null])) (fun t k => XS.aload X1.here hx rfl (hb hby d20_51) rfl rfl k) ?_
  refine own_step (st' := T1.setTop (mkF m 78 #[.val (.ref x0), .val (.ref x1), .val (.int (0 : Int32)), .val (.ref x1), .val (.int (0 : Int32)), .val .null] [])) (fun t k => XS.ifnullYes X1.here hx rfl (pc0 := 53) (pc' := 78) rfl (hb hby d20_53) rfl (by decide) (by decide) k) ?_
  refine own_step (st' := T1.setTop (mkF m 79 #[.val (.ref x0), .val (.ref x1), .val (.int (0 : Int32)), .val (.ref x1), .val (.int (0 : Int32)), .val .null] [(.ref x1)])) (fun t k => XS.aloadN X1.here hx rfl (hb hby d20_78) rfl rfl k) ?_
  refine own_ret X1 Bd.notSynchronized (some (.ref x1)) (fun h => by rw [Bd.returns] at h; cases h) (fun fs hr => retOut X1 hx Bd.returns rfl (Or.inr (Or.inr (Or.inr (Or.inr ⟨rfl, rfl, rfl⟩)))) (hb hby d20_79) hr) ?_ (by decide) (by decide)
  rw [e1]
  exact ⟨rfl, N0, rfl⟩
theorem d19_0 : decode jdk_94_method_27_code 0 = .ok (.aload_n 0, 1) := by decide +kernel
theorem d19_1 : decode jdk_94_method_27_code 1 = .ok (.aload_n 1, 1) := by decide +kernel
theorem d19_2 : decode jdk_94_method_27_code 2 = .ok (.iconst 0, 1) := by decide +kernel
theorem d19_3 : decode jdk_94_method_27_code 3 = .ok (.invokevirtual 131, 3) := by decide +kernel
theorem d19_6 : decode jdk_94_method_27_code 6 = .ok (.areturn, 1) := by decide +kernel
theorem ef_19_RR (m : MethodId) (x0 : Addr) (x1 : Addr) : entryFrame m #[(.ref x0), (.ref x1)] 2 = mkF m 0 #[.val (.ref x0), .val (.ref x1)] [] := by first | (simp [entryFrame, mkF, argsToLocals, Value.category]; done) | rfl
def Q_rm19 (Z : State) (x0 : Addr) (x1 : Addr) (h0 : Heap) (n0 : Nat) (v : Option Value) (h : Heap) (L : List Loc) : Prop := v = some (.ref x1) ∧ Fr n0 L ∧ h = h0
set_option maxRecDepth 65536 in
set_option maxHeartbeats 40000000 in
theorem rm19 (l : Launch) (Z : State) (a0 : Array Value) (hw : ∀ d ∈ tables_1, d.before a0 Z = true) (ws : List Jvm.Cond) (x0 : Addr) (x1 : Addr) (h0 : Heap) (n0 : Nat) (Z0 : n0 ≤ h0.size) (p_0 : Fld Z h0 x0 "java/util/LinkedHashMap" "head" "Ljava/util/LinkedHashMap$Entry;" .null) (p_1 : Exa Z h0 x0 "java/util/LinkedHashMap") :
    MetFree l (⟨"java/util/LinkedHashMap", "keysToArray", "([Ljava/lang/Object;)[Ljava/lang/Object;"⟩ : MethodName) (head1 (Jvm.Cond.code (⟨"java/util/LinkedHashMap", "keysToArray", "([Ljava/lang/Object;)[Ljava/lang/Object;"⟩ : MethodName) jdk_94_method_27_code 2 (some (.array (.object "java/lang/Object"))) :: ws) ({ frames := 1, cells := 0, slots := 0, locals := 17 } : Room)) (fun a U => a = #[(.ref x0), (.ref x1)] ∧ Z.Warmed39 U.vm ∧ U.heap = h0) (fun _ _ _ _ _ => True) (fun _ U o U' => ∃ v L, o = .returned v ∧ Q_rm19 Z x0 x1 h0 n0 v U'.heap L ∧ FrameEnd U o U' L ({ frames := 1, cells := 0, slots := 0, locals := 17 } : Room).cells ({ frames := 1, cells := 0, slots := 0, locals := 17 } : Room).slots) := by
  refine MetFree.of_bodySF (plainFor_of_name pn_13) hisR ?_
  intro p e s m args below meth c s₁ Bd hml0 hP hK
  obtain ⟨rfl, hZ, hh⟩ := hP
  have hx := Bd.exec
  have hby := Bd.bytes
  have hml : c.maxLocals = 2 := hml0
  have hown : s.vm.findClass "java/util/LinkedHashMap" = some m.cls := findClass_of_methodNamed Bd.named
  have hnm := (name_of_methodNamed Bd.named Bd.method).1
  have X0 : Stand p l e ({ frames := 1, cells := 0, slots := 0, locals := 17 } : Room) s m #[(.ref x0), (.ref x1)] below meth c s₁ [] 0 0 := Stand.of_body Bd
  have e0 : s₁.heap = h0 := by rw [← hh, Bd.state]; rfl
  have N0 := Fr.nil n0
  show own_Ends p e below s ({ frames := 1, cells := 0, slots := 0, locals := 17 } : Room).cells ({ frames := 1, cells := 0, slots := 0, locals := 17 } : Room).slots (Q_rm19 Z x0 x1 h0 n0) (s₁.setTop (entryFrame m #[(.ref x0), (.ref x1)] 2))
  rw [ef_19_RR]
  refine own_step (st' := s₁.setTop (mkF m 1 #[.val (.ref x0), .val (.ref x1)] [(.ref x0)])) (fun t k => XS.aloadN X0.here hx rfl (hb hby d19_0) rfl rfl k) ?_
  refine own_step (st' := s₁.setTop (mkF m 2 #[.val (.ref x0), .val (.ref x1)] [(.ref x1), (.ref x0)])) (fun t k => XS.aloadN X0.here hx rfl (hb hby d19_1) rfl rfl k) ?_
  refine own_step (st' := s₁.setTop (mkF m 3 #[.val (.ref x0), .val (.ref x1)] [(.int (0 : Int32)), (.ref x1), (.ref x0)])) (fun t k => XS.iconst X0.here hx rfl (hb hby d19_2) k) ?_
  obtain ⟨cq1, kq1, q1a, q1b, q1c⟩ := isOf hZ e0 p_1
  obtain ⟨_, _, ⟨T1, L1, k1, n1⟩, -, X1, ⟨Lc1, hQ1, l1, y1, z1⟩, st1⟩ := X0.virtualBack hx (y := (⟨"java/util/LinkedHashMap", "keysToArray", "([Ljava/lang/Object;Z)[Ljava/lang/Object;"⟩ : MethodName)) (z := (⟨"java/util/LinkedHashMap", "keysToArray", "([Ljava/lang/Object;Z)[Ljava/lang/Object;"⟩ : MethodName)) hown (mvT hZ (hw _ (List.mem_of_getElem? (i := 132) rfl))) (mvT hZ (hw _ (List.mem_of_getElem? (i := 133) rfl))) (notFace_of_selects (args := #[]) (mvT hZ (hw _ (List.mem_of_getElem? (i := 135) rfl)))) (mvT hZ (hw _ (List.mem_of_getElem? (i := 135) rfl))) (mvT hZ (hw _ (List.mem_of_getElem? (i := 134) rfl))) (by decide) (backOf (W := 0) (rm20 l Z a0 hw [] x0 x1 (0 : Int32) h0 n0 Z0 p_0 rfl) hZ (hw _ (List.mem_of_getElem? (i := 136) rfl)) (hw _ (List.mem_of_getElem? (i := 37) rfl)) (by decide) (by decide)) q1a q1c (g := (mkF m 3 #[.val (.ref x0), .val (.ref x1)] [(.int (0 : Int32)), (.ref x1), (.ref x0)])) rfl (by rw [hml]; rfl) (Steps.refl _) (argsL := [(.ref x1), (.int (0 : Int32))]) (rest := []) (lenOf pd_11 rfl) rfl (by show 2 * 0 + _ ≤ _; exact Nat.le_of_eq rfl) (hb hby d19_3) (fun _ _ => ⟨rfl, e0, (by decide : 0 + 0 ≤ _), (by decide : 0 + 0 ≤ _)⟩)
  dsimp only [Pt.U, Pt.locs, Pt.cells, Pt.slots] at X1 l1 y1 z1 st1 hQ1
  subst l1 y1 z1
  obtain ⟨rfl, N1q, e1⟩ := hQ1
  have N1 := Fr.app N0 N1q
  refine own_step (st' := T1.setTop (mkF m 6 #[.val (.ref x0), .val (.ref x1)] [(.ref x1)])) (fun t k => st1.trans k) ?_
  refine own_ret X1 Bd.notSynchronized (some (.ref x1)) (fun h => by rw [Bd.returns] at h; cases h) (fun fs hr => retOut X1 hx Bd.returns rfl (Or.inr (Or.inr (Or.inr (Or.inr ⟨rfl, rfl, rfl⟩)))) (hb hby d19_6) hr) ?_ (by decide) (by decide)
  rw [e1]
  exact ⟨rfl, N1, rfl⟩
theorem d17_0 : decode jdk_93_method_17_code 0 = .ok (.aload_n 0, 1) := by decide +kernel
theorem d17_1 : decode jdk_93_method_17_code 1 = .ok (.getfield 10, 3) := by decide +kernel
theorem d17_4 : decode jdk_93_method_17_code 4 = .ok (.aload_n 0, 1) := by decide +kernel
theorem d17_5 : decode jdk_93_method_17_code 5 = .ok (.getfield 10, 3) := by decide +kernel
theorem d17_8 : decode jdk_93_method_17_code 8 = .ok (.invokevirtual 55, 3) := by decide +kernel
theorem d17_11 : decode jdk_93_method_17_code 11 = .ok (.anewarray 80, 3) := by decide +kernel
theorem d17_14 : decode jdk_93_method_17_code 14 = .ok (.invokevirtual 209, 3) := by decide +kernel
theorem d17_17 : decode jdk_93_method_17_code 17 = .ok (.areturn, 1) := by decide +kernel
theorem ef_17_R (m : MethodId) (x0 : Addr) : entryFrame m #[(.ref x0)] 1 = mkF m 0 #[.val (.ref x0)] [] := by first | (simp [entryFrame, mkF, argsToLocals, Value.category]; done) | rfl
def Q_rm17 (Z : State) (x0 : Addr) (b : Addr) (h0 : Heap) (n0 : Nat) (v : Option Value) (h : Heap) (L : List Loc) : Prop := ∃ a : Addr, ∃ k : ClassId, v = some (.ref a) ∧ Fr n0 L ∧ Keep h0 h [] ∧ h0.size ≤ a ∧ Arv Z h a k (.object "java/lang/Object") (0 : Int32) [] .null
set_option maxRecDepth 65536 in
set_option maxHeartbeats 40000000 in
theorem rm17 (l : Launch) (Z : State) (a0 : Array Value) (hw : ∀ d ∈ tables_1, d.before a0 Z = true) (ws : List Jvm.Cond) (x0 : Addr) (b : Addr) (h0 : Heap) (n0 : Nat) (Z0 : n0 ≤ h0.size) (p_0 : Fld Z h0 x0 "java/util/HashSet" "map" "Ljava/util/HashMap;" (.ref b)) (p_1 : Exa Z h0 b "java/util/LinkedHashMap") (p_2 : Fld Z h0 b "java/util/HashMap" "size" "I" (.int (0 : Int32))) (p_3 : Fld Z h0 b "java/util/LinkedHashMap" "head" "Ljava/util/LinkedHashMap$Entry;" .null) :
    MetFree l (⟨"java/util/HashSet", "toArray", "()[Ljava/lang/Object;"⟩ : MethodName) (head1 (Jvm.Cond.code (⟨"java/util/HashSet", "toArray", "()[Ljava/lang/Object;"⟩ : MethodName) jdk_93_method_17_code 1 (some (.array (.object "java/lang/Object"))) :: ws) ({ frames := 2, cells := 1, slots := 0, locals := 30 } : Room)) (fun a U => a = #[(.ref x0)] ∧ Z.Warmed39 U.vm ∧ U.heap = h0) (fun _ _ _ _ _ => True) (fun _ U o U' => ∃ v L, o = .returned v ∧ Q_rm17 Z x0 b h0 n0 v U'.heap L ∧ FrameEnd U o U' L ({ frames := 2, cells := 1, slots := 0, locals := 30 } : Room).cells ({ frames := 2, cells := 1, slots := 0, locals := 30 } : Room).slots) := by
  refine MetFree.of_bodySF (plainFor_of_name pn_12) hisR ?_
  intro p e s m args below meth c s₁ Bd hml0 hP hK
  obtain ⟨rfl, hZ, hh⟩ := hP
  have hx := Bd.exec
  have hby := Bd.bytes
  have hml : c.maxLocals = 1 := hml0
  have hown : s.vm.findClass "java/util/HashSet" = some m.cls := findClass_of_methodNamed Bd.named
  have hnm := (name_of_methodNamed Bd.named Bd.method).1
  have X0 : Stand p l e ({ frames := 2, cells := 1, slots := 0, locals := 30 } : Room) s m #[(.ref x0)] below meth c s₁ [] 0 0 := Stand.of_body Bd
  have e0 : s₁.heap = h0 := by rw [← hh, Bd.state]; rfl
  have N0 := Fr.nil n0
  show own_Ends p e below s ({ frames := 2, cells := 1, slots := 0, locals := 30 } : Room).cells ({ frames := 2, cells := 1, slots := 0, locals := 30 } : Room).slots (Q_rm17 Z x0 b h0 n0) (s₁.setTop (entryFrame m #[(.ref x0)] 1))
  rw [ef_17_R]
  refine own_step (st' := s₁.setTop (mkF m 1 #[.val (.ref x0)] [(.ref x0)])) (fun t k => XS.aloadN X0.here hx rfl (hb hby d17_0) rfl rfl k) ?_
  obtain ⟨T1, X1, e1, st1⟩ := getF X0 hx hZ hown (host := "") (Or.inl (hw _ (List.mem_of_getElem? (i := 76) rfl))) Via.refl e0 p_0 (g := (mkF m 1 #[.val (.ref x0)] [(.ref x0)])) rfl rfl (hb hby d17_1)
  refine own_step (st' := T1.setTop (mkF m 4 #[.val (.ref x0)] [(.ref b)])) st1 ?_
  refine own_step (st' := T1.setTop (mkF m 5 #[.val (.ref x0)] [(.ref x0), (.ref b)])) (fun t k => XS.aloadN X1.here hx rfl (hb hby d17_4) rfl rfl k) ?_
  obtain ⟨T2, X2, e2, st2⟩ := getF X1 hx hZ hown (host := "") (Or.inl (hw _ (List.mem_of_getElem? (i := 76) rfl))) Via.refl e1 p_0 (g := (mkF m 5 #[.val (.ref x0)] [(.ref x0), (.ref b)])) rfl rfl (hb hby d17_5)
  refine own_step (st' := T2.setTop (mkF m 8 #[.val (.ref x0)] [(.ref b), (.ref b)])) st2 ?_
  obtain ⟨cq3, kq3, q3a, q3b, q3c⟩ := isOf hZ e2 p_1
  obtain ⟨_, _, ⟨T3, L3, k3, n3⟩, -, X3, ⟨Lc3, hQ3, l3, y3, z3⟩, st3⟩ := X2.virtualBack hx (y := (⟨"java/util/HashMap", "size", "()I"⟩ : MethodName)) (z := (⟨"java/util/HashMap", "size", "()I"⟩ : MethodName)) hown (mvT hZ (hw _ (List.mem_of_getElem? (i := 117) rfl))) (mvT hZ (hw _ (List.mem_of_getElem? (i := 118) rfl))) (notFace_of_selects (args := #[]) (mvT hZ (hw _ (List.mem_of_getElem? (i := 120) rfl)))) (mvT hZ (hw _ (List.mem_of_getElem? (i := 120) rfl))) (mvT hZ (hw _ (List.mem_of_getElem? (i := 119) rfl))) (by decide) (backOf (W := 1) (rm18 l Z a0 hw [] b (0 : Int32) h0 n0 Z0 p_2) hZ (hw _ (List.mem_of_getElem? (i := 121) rfl)) (hw _ (List.mem_of_getElem? (i := 46) rfl)) (by decide) (by decide)) q3a q3c (g := (mkF m 8 #[.val (.ref x0)] [(.ref b), (.ref b)])) rfl (by rw [hml]; rfl) (Steps.refl _) (argsL := []) (rest := [(.ref b)]) (lenOf pd_9 rfl) rfl (by show 2 * 0 + _ ≤ _; exact Nat.le_of_eq rfl) (hb hby d17_8) (fun _ _ => ⟨rfl, e2, (by decide : 0 + 0 ≤ _), (by decide : 0 + 0 ≤ _)⟩)
  dsimp only [Pt.U, Pt.locs, Pt.cells, Pt.slots] at X3 l3 y3 z3 st3 hQ3
  subst l3 y3 z3
  obtain ⟨rfl, N3q, e3⟩ := hQ3
  have N3 := Fr.app N0 N3q
  refine own_step (st' := T3.setTop (mkF m 11 #[.val (.ref x0)] [(.int (0 : Int32)), (.ref b)])) (fun t k => st3.trans k) ?_
  obtain ⟨T4, h4, k4, X4, e4, E4, A4, Ex4, O4, st4⟩ := newRE X3 hx hZ hown (hw _ (List.mem_of_getElem? (i := 124) rfl)) (hw _ (List.mem_of_getElem? (i := 125) rfl)) e3 (g := (mkF m 11 #[.val (.ref x0)] [(.int (0 : Int32)), (.ref b)])) rfl (hb hby d17_11) rfl (by decide) (cap := 0) (by decide) (by decide) (by decide) (by decide) (ad := "[Ljava/lang/Object;") (by decide +kernel)
  obtain ⟨b4, g4⟩ : ∃ z, z = h0.size := ⟨_, rfl⟩
  rw [← g4] at A4 Ex4 st4
  have ne5 : x0 ≠ b4 := Nat.ne_of_lt (Nat.lt_of_lt_of_le p_0.lt (Nat.le_of_eq g4.symm))
  have ne6 : b ≠ b4 := Nat.ne_of_lt (Nat.lt_of_lt_of_le p_1.lt (Nat.le_of_eq g4.symm))
  have g_b4 : n0 ≤ b4 := Nat.le_trans Z0 (Nat.le_of_eq g4.symm)
  have sz_b4 : h0.size ≤ b4 := Nat.le_trans (Keep.refl h0 []).1 (Nat.le_of_eq g4.symm)
  have f7 := p_0.ext E4
  have f8 := p_1.ext E4
  have f9 := p_2.ext E4
  have f10 := p_3.ext E4
  have K11 : Keep h0 h4 [] := (Keep.refl h0 []).ext E4
  have Z12 : n0 ≤ h4.size := Nat.le_trans Z0 E4.1
  have V4 : Arv Z h4 b4 k4 (.object "java/lang/Object") (0 : Int32) [] .null := Arv.new A4 (by decide)
  refine own_step (st' := T4.setTop (mkF m 14 #[.val (.ref x0)] [(.ref b4), (.ref b)])) st4 ?_
  obtain ⟨cq13, kq13, q13a, q13b, q13c⟩ := isOf hZ e4 f8
  obtain ⟨_, _, ⟨T13, L13, k13, n13⟩, -, X13, ⟨Lc13, hQ13, l13, y13, z13⟩, st13⟩ := X4.virtualBack hx (y := (⟨"java/util/HashMap", "keysToArray", "([Ljava/lang/Object;)[Ljava/lang/Object;"⟩ : MethodName)) (z := (⟨"java/util/LinkedHashMap", "keysToArray", "([Ljava/lang/Object;)[Ljava/lang/Object;"⟩ : MethodName)) hown (mvT hZ (hw _ (List.mem_of_getElem? (i := 126) rfl))) (mvT hZ (hw _ (List.mem_of_getElem? (i := 127) rfl))) (own_nf (args := #[]) (y := (⟨"java/util/HashMap", "size", "()I"⟩ : MethodName)) rfl (mvT hZ (hw _ (List.mem_of_getElem? (i := 119) rfl))) (notFace_of_selects (args := #[]) (mvT hZ (hw _ (List.mem_of_getElem? (i := 120) rfl))))) (mvT hZ (hw _ (List.mem_of_getElem? (i := 129) rfl))) (mvT hZ (hw _ (List.mem_of_getElem? (i := 130) rfl))) (by decide) (backOf (W := 0) (rm19 l Z a0 hw [] b b4 h4 n0 Z12 f10 f8) hZ (hw _ (List.mem_of_getElem? (i := 131) rfl)) (hw _ (List.mem_of_getElem? (i := 37) rfl)) (by decide) (by decide)) q13a q13c (g := (mkF m 14 #[.val (.ref x0)] [(.ref b4), (.ref b)])) rfl (by rw [hml]; rfl) (Steps.refl _) (argsL := [(.ref b4)]) (rest := []) (lenOf pd_10 rfl) rfl (by show 2 * 0 + _ ≤ _; exact Nat.le_of_eq rfl) (hb hby d17_14) (fun _ _ => ⟨rfl, e4, (by decide : 1 + 0 ≤ _), (by decide : 0 + 0 ≤ _)⟩)
  dsimp only [Pt.U, Pt.locs, Pt.cells, Pt.slots] at X13 l13 y13 z13 st13 hQ13
  subst l13 y13 z13
  obtain ⟨rfl, N13q, e13⟩ := hQ13
  have N13 := Fr.app N3 N13q
  refine own_step (st' := T13.setTop (mkF m 17 #[.val (.ref x0)] [(.ref b4)])) (fun t k => st13.trans k) ?_
  refine own_ret X13 Bd.notSynchronized (some (.ref b4)) (fun h => by rw [Bd.returns] at h; cases h) (fun fs hr => retOut X13 hx Bd.returns rfl (Or.inr (Or.inr (Or.inr (Or.inr ⟨rfl, rfl, rfl⟩)))) (hb hby d17_17) hr) ?_ (by decide) (by decide)
  rw [e13]
  exact ⟨b4, k4, rfl, N13, K11, sz_b4, V4⟩
theorem d16_0 : decode jdk_39_method_1_code 0 = .ok (.aload_n 0, 1) := by decide +kernel
theorem d16_1 : decode jdk_39_method_1_code 1 = .ok (.invokespecial 1, 3) := by decide +kernel
theorem d16_4 : decode jdk_39_method_1_code 4 = .ok (.aload_n 0, 1) := by decide +kernel
theorem d16_5 : decode jdk_39_method_1_code 5 = .ok (.iconst 0, 1) := by decide +kernel
theorem d16_6 : decode jdk_39_method_1_code 6 = .ok (.putfield 7, 3) := by decide +kernel
theorem d16_9 : decode jdk_39_method_1_code 9 = .ok (.return_, 1) := by decide +kernel
theorem pn_6 : plainName "java/util/AbstractList" = true := by first | (simp [plainName, overriddenIn]; done) | decide +kernel
theorem ef_16_R (m : MethodId) (x0 : Addr) : entryFrame m #[(.ref x0)] 1 = mkF m 0 #[.val (.ref x0)] [] := by first | (simp [entryFrame, mkF, argsToLocals, Value.category]; done) | rfl
def Q_rm16 (Z : State) (x0 : Addr) (h0 : Heap) (n0 : Nat) (v : Option Value) (h : Heap) (L : List Loc) : Prop := v = none ∧ Fr n0 L ∧ Keep h0 h [x0] ∧ Fld Z h x0 "java/util/AbstractList" "modCount" "I" (.int (0 : Int32)) ∧ Fld Z h x0 "java/util/ArrayList" "size" "I" (.int (0 : Int32)) ∧ Fld Z h x0 "java/util/ArrayList" "elementData" "[Ljava/lang/Object;" .null
set_option maxRecDepth 65536 in
set_option maxHeartbeats 40000000 in
theorem rm16 (l : Launch) (Z : State) (a0 : Array Value) (hw : ∀ d ∈ tables_1, d.before a0 Z = true) (ws : List Jvm.Cond) (x0 : Addr) (h0 : Heap) (n0 : Nat) (Z0 : n0 ≤ h0.size) (p_0 : Fld Z h0 x0 "java/util/AbstractList" "modCount" "I" (.int (0 : Int32))) (p_1 : Fld Z h0 x0 "java/util/ArrayList" "size" "I" (.int (0 : Int32))) (p_2 : Fld Z h0 x0 "java/util/ArrayList" "elementData" "[Ljava/lang/Object;" .null) (p_3 : Exa Z h0 x0 "java/util/ArrayList") (p_4 : n0 ≤ x0) :
    MetFree l (⟨"java/util/AbstractList", "<init>", "()V"⟩ : MethodName) (head1 (Jvm.Cond.code (⟨"java/util/AbstractList", "<init>", "()V"⟩ : MethodName) jdk_39_method_1_code 1 none :: ws) ({ frames := 2, cells := 0, slots := 0, locals := 24 } : Room)) (fun a U => a = #[(.ref x0)] ∧ Z.Warmed39 U.vm ∧ U.heap = h0) (fun _ _ _ _ _ => True) (fun _ U o U' => ∃ v L, o = .returned v ∧ Q_rm16 Z x0 h0 n0 v U'.heap L ∧ FrameEnd U o U' L ({ frames := 2, cells := 0, slots := 0, locals := 24 } : Room).cells ({ frames := 2, cells := 0, slots := 0, locals := 24 } : Room).slots) := by
  refine MetFree.of_bodySF (plainFor_of_name pn_6) hisR ?_
  intro p e s m args below meth c s₁ Bd hml0 hP hK
  obtain ⟨rfl, hZ, hh⟩ := hP
  have hx := Bd.exec
  have hby := Bd.bytes
  have hml : c.maxLocals = 1 := hml0
  have hown : s.vm.findClass "java/util/AbstractList" = some m.cls := findClass_of_methodNamed Bd.named
  have hnm := (name_of_methodNamed Bd.named Bd.method).1
  have X0 : Stand p l e ({ frames := 2, cells := 0, slots := 0, locals := 24 } : Room) s m #[(.ref x0)] below meth c s₁ [] 0 0 := Stand.of_body Bd
  have e0 : s₁.heap = h0 := by rw [← hh, Bd.state]; rfl
  have N0 := Fr.nil n0
  show own_Ends p e below s ({ frames := 2, cells := 0, slots := 0, locals := 24 } : Room).cells ({ frames := 2, cells := 0, slots := 0, locals := 24 } : Room).slots (Q_rm16 Z x0 h0 n0) (s₁.setTop (entryFrame m #[(.ref x0)] 1))
  rw [ef_16_R]
  refine own_step (st' := s₁.setTop (mkF m 1 #[.val (.ref x0)] [(.ref x0)])) (fun t k => XS.aloadN X0.here hx rfl (hb hby d16_0) rfl rfl k) ?_
  obtain ⟨_, _, ⟨T1, L1, k1, n1⟩, -, X1, ⟨Lc1, hQ1, l1, y1, z1⟩, st1⟩ := X0.specialBack hx (y := (⟨"java/util/AbstractCollection", "<init>", "()V"⟩ : MethodName)) rfl hown (mvT hZ (hw _ (List.mem_of_getElem? (i := 104) rfl))) (mvT hZ (hw _ (List.mem_of_getElem? (i := 29) rfl))) (mvT hZ (hw _ (List.mem_of_getElem? (i := 33) rfl))) (by decide) (backOf (W := 0) (rm6 l Z a0 hw [] x0 h0 n0 Z0) hZ (hw _ (List.mem_of_getElem? (i := 33) rfl)) (hw _ (List.mem_of_getElem? (i := 32) rfl)) (by decide) (by decide)) (g := (mkF m 1 #[.val (.ref x0)] [(.ref x0)])) rfl (by rw [hml]; rfl) (Steps.refl _) (a := x0) (argsL := []) (rest := []) (lenOf pd_1 rfl) rfl (by show 2 * 0 + _ ≤ _; exact Nat.le_of_eq rfl) (hb hby d16_1) (fun _ _ => ⟨rfl, e0, (by decide : 0 + 0 ≤ _), (by decide : 0 + 0 ≤ _)⟩)
  dsimp only [Pt.U, Pt.locs, Pt.cells, Pt.slots] at X1 l1 y1 z1 st1 hQ1
  subst l1 y1 z1
  obtain ⟨rfl, N1q, e1⟩ := hQ1
  have N1 := Fr.app N0 N1q
  refine own_step (st' := T1.setTop (mkF m 4 #[.val (.ref x0)] [])) (fun t k => st1.trans k) ?_
  refine own_step (st' := T1.setTop (mkF m 5 #[.val (.ref x0)] [(.ref x0)])) (fun t k => XS.aloadN X1.here hx rfl (hb hby d16_4) rfl rfl k) ?_
  refine own_step (st' := T1.setTop (mkF m 6 #[.val (.ref x0)] [(.int (0 : Int32)), (.ref x0)])) (fun t k => XS.iconst X1.here hx rfl (hb hby d16_5) k) ?_
  obtain ⟨T2, h2, X2, e2, W2, st2⟩ := putF X1 hx hZ hown (host := "") (Or.inl (hw _ (List.mem_of_getElem? (i := 106) rfl))) Via.refl e1 p_0 p_3 (Or.inl (hw _ (List.mem_of_getElem? (i := 107) rfl))) (hw _ (List.mem_of_getElem? (i := 93) rfl)) (ty := .int) (by decide) rfl rfl (g := (mkF m 6 #[.val (.ref x0)] [(.int (0 : Int32)), (.ref x0)])) rfl rfl (hb hby d16_6)
  have F2 := p_0.same W2
  have f3 := p_1.other W2 (Or.inr (slot_ne (Or.inl (hw _ (List.mem_of_getElem? (i := 140) rfl))) (Or.inl (hw _ (List.mem_of_getElem? (i := 107) rfl))) (by decide) (t := .int) (t' := .int) (by decide) (by decide)))
  have f4 := p_2.other W2 (Or.inr (slot_ne (Or.inl (hw _ (List.mem_of_getElem? (i := 143) rfl))) (Or.inl (hw _ (List.mem_of_getElem? (i := 107) rfl))) (by decide) (t := (.array (.object "java/lang/Object"))) (t' := .int) (by decide) (by decide)))
  have f5 := p_3.wr W2
  have K6 : Keep h0 h2 [x0] := (Keep.refl h0 [x0]).wr W2 (Or.inl (List.mem_of_getElem? (i := 0) rfl))
  have Z7 : n0 ≤ h2.size := Nat.le_trans Z0 (Keep.of_wr W2).1
  have N8 := Fr.snoc X2 N1 p_4
  refine own_step (st' := T2.setTop (mkF m 9 #[.val (.ref x0)] [])) st2 ?_
  refine own_ret X2 Bd.notSynchronized (none) (fun _ => rfl) (fun fs hr => X2.returnOut hx Bd.returns (hb hby d16_9) hr) ?_ (by decide) (by decide)
  rw [e2]
  exact ⟨rfl, N8, K6, F2, f3, f4⟩
theorem d15_0 : decode jdk_38_method_3_code 0 = .ok (.aload_n 0, 1) := by decide +kernel
theorem d15_1 : decode jdk_38_method_3_code 1 = .ok (.invokespecial 1, 3) := by decide +kernel
theorem d15_4 : decode jdk_38_method_3_code 4 = .ok (.aload_n 1, 1) := by decide +kernel
theorem d15_5 : decode jdk_38_method_3_code 5 = .ok (.invokeinterface 42 1, 5) := by decide +kernel
theorem d15_10 : decode jdk_38_method_3_code 10 = .ok (.astore_n 2, 1) := by decide +kernel
theorem d15_11 : decode jdk_38_method_3_code 11 = .ok (.aload_n 0, 1) := by decide +kernel
theorem d15_12 : decode jdk_38_method_3_code 12 = .ok (.aload_n 2, 1) := by decide +kernel
theorem d15_13 : decode jdk_38_method_3_code 13 = .ok (.arraylength, 1) := by decide +kernel
theorem d15_14 : decode jdk_38_method_3_code 14 = .ok (.dup_x1, 1) := by decide +kernel
theorem d15_15 : decode jdk_38_method_3_code 15 = .ok (.putfield 48, 3) := by decide +kernel
theorem d15_18 : decode jdk_38_method_3_code 18 = .ok (.ifCond .eq 39, 3) := by decide +kernel
theorem d15_57 : decode jdk_38_method_3_code 57 = .ok (.aload_n 0, 1) := by decide +kernel
theorem d15_58 : decode jdk_38_method_3_code 58 = .ok (.getstatic 15, 3) := by decide +kernel
theorem d15_61 : decode jdk_38_method_3_code 61 = .ok (.putfield 9, 3) := by decide +kernel
theorem d15_64 : decode jdk_38_method_3_code 64 = .ok (.return_, 1) := by decide +kernel
theorem pn_9 : plainName "java/util/ArrayList" = true := by first | (simp [plainName, overriddenIn]; done) | decide +kernel
theorem ef_15_RR (m : MethodId) (x0 : Addr) (x1 : Addr) : entryFrame m #[(.ref x0), (.ref x1)] 3 = mkF m 0 #[.val (.ref x0), .val (.ref x1), .unset] [] := by first | (simp [entryFrame, mkF, argsToLocals, Value.category]; done) | rfl
def Q_rm15 (Z : State) (x0 : Addr) (x1 : Addr) (dd : Addr) (b : Addr) (h0 : Heap) (n0 : Nat) (v : Option Value) (h : Heap) (L : List Loc) : Prop := v = none ∧ Fr n0 L ∧ Keep h0 h [x0] ∧ Fld Z h x0 "java/util/ArrayList" "size" "I" (.int (0 : Int32)) ∧ Fld Z h x0 "java/util/AbstractList" "modCount" "I" (.int (0 : Int32))
set_option maxRecDepth 65536 in
set_option maxHeartbeats 40000000 in
theorem rm15 (l : Launch) (Z : State) (a0 : Array Value) (hw : ∀ d ∈ tables_1, d.before a0 Z = true) (ws : List Jvm.Cond) (x0 : Addr) (x1 : Addr) (dd : Addr) (b : Addr) (h0 : Heap) (n0 : Nat) (Z0 : n0 ≤ h0.size) (O0 : Old Z n0 h0) (p_0 : Fld Z h0 x0 "java/util/AbstractList" "modCount" "I" (.int (0 : Int32))) (p_1 : Fld Z h0 x0 "java/util/ArrayList" "size" "I" (.int (0 : Int32))) (p_2 : Fld Z h0 x0 "java/util/ArrayList" "elementData" "[Ljava/lang/Object;" .null) (p_3 : Exa Z h0 x0 "java/util/ArrayList") (p_4 : n0 ≤ x0) (p_5 : Sta Z Z.heap "java/util/ArrayList" "EMPTY_ELEMENTDATA" "[Ljava/lang/Object;" (.ref dd)) (p_6 : x1 ≠ x0) (p_7 : b ≠ x0) (p_8 : Exa Z h0 x1 "java/util/LinkedHashSet") (p_9 : Fld Z h0 x1 "java/util/HashSet" "map" "Ljava/util/HashMap;" (.ref b)) (p_10 : Exa Z h0 b "java/util/LinkedHashMap") (p_11 : Fld Z h0 b "java/util/HashMap" "size" "I" (.int (0 : Int32))) (p_12 : Fld Z h0 b "java/util/LinkedHashMap" "head" "Ljava/util/LinkedHashMap$Entry;" .null) :
    MetFree l (⟨"java/util/ArrayList", "<init>", "(Ljava/util/Collection;)V"⟩ : MethodName) (head1 (Jvm.Cond.code (⟨"java/util/ArrayList", "<init>", "(Ljava/util/Collection;)V"⟩ : MethodName) jdk_38_method_3_code 3 none :: ws) ({ frames := 3, cells := 1, slots := 0, locals := 42 } : Room)) (fun a U => a = #[(.ref x0), (.ref x1)] ∧ Z.Warmed39 U.vm ∧ U.heap = h0) (fun _ _ _ _ _ => True) (fun _ U o U' => ∃ v L, o = .returned v ∧ Q_rm15 Z x0 x1 dd b h0 n0 v U'.heap L ∧ FrameEnd U o U' L ({ frames := 3, cells := 1, slots := 0, locals := 42 } : Room).cells ({ frames := 3, cells := 1, slots := 0, locals := 42 } : Room).slots) := by
  refine MetFree.of_bodySF (plainFor_of_name pn_9) hisR ?_
  intro p e s m args below meth c s₁ Bd hml0 hP hK
  obtain ⟨rfl, hZ, hh⟩ := hP
  have hx := Bd.exec
  have hby := Bd.bytes
  have hml : c.maxLocals = 3 := hml0
  have hown : s.vm.findClass "java/util/ArrayList" = some m.cls := findClass_of_methodNamed Bd.named
  have hnm := (name_of_methodNamed Bd.named Bd.method).1
  have X0 : Stand p l e ({ frames := 3, cells := 1, slots := 0, locals := 42 } : Room) s m #[(.ref x0), (.ref x1)] below meth c s₁ [] 0 0 := Stand.of_body Bd
  have e0 : s₁.heap = h0 := by rw [← hh, Bd.state]; rfl
  have N0 := Fr.nil n0
  show own_Ends p e below s ({ frames := 3, cells := 1, slots := 0, locals := 42 } : Room).cells ({ frames := 3, cells := 1, slots := 0, locals := 42 } : Room).slots (Q_rm15 Z x0 x1 dd b h0 n0) (s₁.setTop (entryFrame m #[(.ref x0), (.ref x1)] 3))
  rw [ef_15_RR]
  refine own_step (st' := s₁.setTop (mkF m 1 #[.val (.ref x0), .val (.ref x1), .unset] [(.ref x0)])) (fun t k => XS.aloadN X0.here hx rfl (hb hby d15_0) rfl rfl k) ?_
  obtain ⟨_, _, ⟨T1, L1, k1, n1⟩, -, X1, ⟨Lc1, hQ1, l1, y1, z1⟩, st1⟩ := X0.specialBack hx (y := (⟨"java/util/AbstractList", "<init>", "()V"⟩ : MethodName)) rfl hown (mvT hZ (hw _ (List.mem_of_getElem? (i := 98) rfl))) (mvT hZ (hw _ (List.mem_of_getElem? (i := 99) rfl))) (mvT hZ (hw _ (List.mem_of_getElem? (i := 103) rfl))) (by decide) (backOf (W := 0) (rm16 l Z a0 hw [] x0 h0 n0 Z0 p_0 p_1 p_2 p_3 p_4) hZ (hw _ (List.mem_of_getElem? (i := 103) rfl)) (hw _ (List.mem_of_getElem? (i := 102) rfl)) (by decide) (by decide)) (g := (mkF m 1 #[.val (.ref x0), .val (.ref x1), .unset] [(.ref x0)])) rfl (by rw [hml]; rfl) (Steps.refl _) (a := x0) (argsL := []) (rest := []) (lenOf pd_1 rfl) rfl (by show 2 * 0 + _ ≤ _; exact Nat.le_of_eq rfl) (hb hby d15_1) (fun _ _ => ⟨rfl, e0, (by decide : 0 + 0 ≤ _), (by decide : 0 + 0 ≤ _)⟩)
  dsimp only [Pt.U, Pt.locs, Pt.cells, Pt.slots] at X1 l1 y1 z1 st1 hQ1
  subst l1 y1 z1
  obtain ⟨rfl, N1q, K1, pq1_0, pq1_1, pq1_2⟩ := hQ1
  have N1 := Fr.app N0 N1q
  obtain ⟨h1, e1⟩ : ∃ z, T1.heap = z := ⟨_, rfl⟩
  rw [e1] at K1 pq1_0 pq1_1 pq1_2
  have f2 := p_3.keep K1
  have f3 := p_8.keep K1
  have f4 := p_9.keep K1 (ninS p_6 nin0)
  have f5 := p_10.keep K1
  have f6 := p_11.keep K1 (ninS p_7 nin0)
  have f7 := p_12.keep K1 (ninS p_7 nin0)
  have O8 := O0.keep K1 (allS p_4 all0)
  have K9 : Keep h0 h1 [x0] := (Keep.refl h0 [x0]).trans K1 (allS (Or.inl (List.mem_of_getElem? (i := 0) rfl)) all0)
  have Z10 : n0 ≤ h1.size := Nat.le_trans Z0 K1.1
  refine own_step (st' := T1.setTop (mkF m 4 #[.val (.ref x0), .val (.ref x1), .unset] [])) (fun t k => st1.trans k) ?_
  refine own_step (st' := T1.setTop (mkF m 5 #[.val (.ref x0), .val (.ref x1), .unset] [(.ref x1)])) (fun t k => XS.aloadN X1.here hx rfl (hb hby d15_4) rfl rfl k) ?_
  obtain ⟨cq11, kq11, q11a, q11b, q11c⟩ := isOf hZ e1 f3
  obtain ⟨_, _, ⟨T11, L11, k11, n11⟩, -, X11, ⟨Lc11, hQ11, l11, y11, z11⟩, st11⟩ := X1.interfaceBack hx (xi := (⟨"java/util/Collection", "toArray", "()[Ljava/lang/Object;"⟩ : MethodName)) (y := (⟨"java/util/HashSet", "toArray", "()[Ljava/lang/Object;"⟩ : MethodName)) hown (mvT hZ (hw _ (List.mem_of_getElem? (i := 108) rfl))) (mvT hZ (hw _ (List.mem_of_getElem? (i := 109) rfl))) (mvT hZ (hw _ (List.mem_of_getElem? (i := 110) rfl))) (mvT hZ (hw _ (List.mem_of_getElem? (i := 111) rfl))) (mvT hZ (hw _ (List.mem_of_getElem? (i := 112) rfl))) (mvT hZ (hw _ (List.mem_of_getElem? (i := 113) rfl))) (mvT hZ (hw _ (List.mem_of_getElem? (i := 114) rfl))) (mvT hZ (hw _ (List.mem_of_getElem? (i := 115) rfl))) (by decide) (backOf (W := 0) (rm17 l Z a0 hw [] x1 b h1 n0 Z10 f4 f5 f6 f7) hZ (hw _ (List.mem_of_getElem? (i := 116) rfl)) (hw _ (List.mem_of_getElem? (i := 20) rfl)) (by decide) (by decide)) q11a q11b q11c (g := (mkF m 5 #[.val (.ref x0), .val (.ref x1), .unset] [(.ref x1)])) rfl (by rw [hml]; rfl) (Steps.refl _) (argsL := []) (rest := []) (lenOf pd_8 rfl) rfl (by show 2 * 0 + _ ≤ _; exact Nat.le_of_eq rfl) (hb hby d15_5) (fun _ _ => ⟨rfl, e1, (by decide : 0 + 1 ≤ _), (by decide : 0 + 0 ≤ _)⟩)
  dsimp only [Pt.U, Pt.locs, Pt.cells, Pt.slots] at X11 l11 y11 z11 st11 hQ11
  subst l11 y11 z11
  obtain ⟨a_11, k_11, rfl, N11q, K11, pq11_0, pq11_1⟩ := hQ11
  have N11 := Fr.app N1 N11q
  obtain ⟨h11, e11⟩ : ∃ z, T11.heap = z := ⟨_, rfl⟩
  rw [e11] at K11 pq11_1
  have ne12 : x0 ≠ a_11 := Nat.ne_of_lt (Nat.lt_of_lt_of_le f2.lt pq11_0)
  have ne13 : x1 ≠ a_11 := Nat.ne_of_lt (Nat.lt_of_lt_of_le f3.lt pq11_0)
  have ne14 : b ≠ a_11 := Nat.ne_of_lt (Nat.lt_of_lt_of_le f5.lt pq11_0)
  have g_a_11 : n0 ≤ a_11 := Nat.le_trans Z10 pq11_0
  have sz_a_11 : h0.size ≤ a_11 := Nat.le_trans K9.1 pq11_0
  have f15 := f2.keep K11
  have f16 := f3.keep K11
  have f17 := f4.keep K11 nin0
  have f18 := f5.keep K11
  have f19 := f6.keep K11 nin0
  have f20 := f7.keep K11 nin0
  have f21 := pq1_0.keep K11 nin0
  have f22 := pq1_1.keep K11 nin0
  have f23 := pq1_2.keep K11 nin0
  have O24 := O8.keep K11 all0
  have K25 : Keep h0 h11 [x0] := K9.trans K11 all0
  have Z26 : n0 ≤ h11.size := Nat.le_trans Z10 K11.1
  refine own_step (st' := T11.setTop (mkF m 10 #[.val (.ref x0), .val (.ref x1), .unset] [(.ref a_11)])) (fun t k => st11.trans k) ?_
  refine own_step (st' := T11.setTop (mkF m 11 #[.val (.ref x0), .val (.ref x1), .val (.ref a_11)] [])) (fun t k => XS.astoreN X11.here hx rfl (hb hby d15_10) rfl rfl (l' := #[.val (.ref x0), .val (.ref x1), .val (.ref a_11)]) rfl k) ?_
  refine own_step (st' := T11.setTop (mkF m 12 #[.val (.ref x0), .val (.ref x1), .val (.ref a_11)] [(.ref x0)])) (fun t k => XS.aloadN X11.here hx rfl (hb hby d15_11) rfl rfl k) ?_
  refine own_step (st' := T11.setTop (mkF m 13 #[.val (.ref x0), .val (.ref x1), .val (.ref a_11)] [(.ref a_11), (.ref x0)])) (fun t k => XS.aloadN X11.here hx rfl (hb hby d15_12) rfl rfl k) ?_
  refine own_step (st' := T11.setTop (mkF m 14 #[.val (.ref x0), .val (.ref x1), .val (.ref a_11)] [(.int (0 : Int32)), (.ref x0)])) (fun t k => own_len X11 hx hZ e11 pq11_1 (g := (mkF m 13 #[.val (.ref x0), .val (.ref x1), .val (.ref a_11)] [(.ref a_11), (.ref x0)])) rfl rfl (hb hby d15_13) t k) ?_
  refine own_step (st' := T11.setTop (mkF m 15 #[.val (.ref x0), .val (.ref x1), .val (.ref a_11)] [(.int (0 : Int32)), (.ref x0), (.int (0 : Int32))])) (fun t k => XS.dupX1 X11.here hx rfl (hb hby d15_14) rfl rfl rfl k) ?_
  obtain ⟨T27, h27, X27, e27, W27, st27⟩ := putF X11 hx hZ hown (host := "") (Or.inl (hw _ (List.mem_of_getElem? (i := 139) rfl))) Via.refl e11 f22 f15 (Or.inl (hw _ (List.mem_of_getElem? (i := 140) rfl))) (hw _ (List.mem_of_getElem? (i := 93) rfl)) (ty := .int) (by decide) rfl rfl (g := (mkF m 15 #[.val (.ref x0), .val (.ref x1), .val (.ref a_11)] [(.int (0 : Int32)), (.ref x0), (.int (0 : Int32))])) rfl rfl (hb hby d15_15)
  have F27 := f22.same W27
  have f28 := f15.wr W27
  have f29 := f16.wr W27
  have f30 := f17.other W27 (Or.inl p_6)
  have f31 := f18.wr W27
  have f32 := f19.other W27 (Or.inl p_7)
  have f33 := f20.other W27 (Or.inl p_7)
  have f34 := f21.other W27 (Or.inr (slot_ne (Or.inl (hw _ (List.mem_of_getElem? (i := 107) rfl))) (Or.inl (hw _ (List.mem_of_getElem? (i := 140) rfl))) (by decide) (t := .int) (t' := .int) (by decide) (by decide)))
  have f35 := f23.other W27 (Or.inr (slot_ne (Or.inl (hw _ (List.mem_of_getElem? (i := 143) rfl))) (Or.inl (hw _ (List.mem_of_getElem? (i := 140) rfl))) (by decide) (t := (.array (.object "java/lang/Object"))) (t' := .int) (by decide) (by decide)))
  have f36 := pq11_1.other W27 (Ne.symm ne12)
  have O37 := O24.wr W27 p_4
  have K38 : Keep h0 h27 [x0] := K25.wr W27 (Or.inl (List.mem_of_getElem? (i := 0) rfl))
  have Z39 : n0 ≤ h27.size := Nat.le_trans Z26 (Keep.of_wr W27).1
  have N40 := Fr.snoc X27 N11 p_4
  refine own_step (st' := T27.setTop (mkF m 18 #[.val (.ref x0), .val (.ref x1), .val (.ref a_11)] [(.int (0 : Int32))])) st27 ?_
  refine own_step (st' := T27.setTop (mkF m 57 #[.val (.ref x0), .val (.ref x1), .val (.ref a_11)] [])) (fun t k => XS.ifYes X27.here hx rfl (pc0 := 18) (pc' := 57) rfl (hb hby d15_18) rfl ((if0 _ _).trans (teq (by decide)).1) (by decide) (by decide) k) ?_
  refine own_step (st' := T27.setTop (mkF m 58 #[.val (.ref x0), .val (.ref x1), .val (.ref a_11)] [(.ref x0)])) (fun t k => XS.aloadN X27.here hx rfl (hb hby d15_57) rfl rfl k) ?_
  obtain ⟨T41, X41, e41, st41⟩ := getS2 X27 hx hZ hown (host := "") (Or.inl (hw _ (List.mem_of_getElem? (i := 141) rfl))) Via.refl e27 (p_5.ext O37.2) (g := (mkF m 58 #[.val (.ref x0), .val (.ref x1), .val (.ref a_11)] [(.ref x0)])) rfl (hb hby d15_58)
  refine own_step (st' := T41.setTop (mkF m 61 #[.val (.ref x0), .val (.ref x1), .val (.ref a_11)] [(.ref dd), (.ref x0)])) st41 ?_
  obtain ⟨T42, h42, X42, e42, W42, st42⟩ := putF X41 hx hZ hown (host := "") (Or.inl (hw _ (List.mem_of_getElem? (i := 142) rfl))) Via.refl e41 f35 f28 (Or.inl (hw _ (List.mem_of_getElem? (i := 143) rfl))) (hw _ (List.mem_of_getElem? (i := 93) rfl)) (ty := (.array (.object "java/lang/Object"))) (by decide) rfl rfl (g := (mkF m 61 #[.val (.ref x0), .val (.ref x1), .val (.ref a_11)] [(.ref dd), (.ref x0)])) rfl rfl (hb hby d15_61)
  have F42 := f35.same W42
  have f43 := f28.wr W42
  have f44 := f29.wr W42
  have f45 := f30.other W42 (Or.inl p_6)
  have f46 := f31.wr W42
  have f47 := f32.other W42 (Or.inl p_7)
  have f48 := f33.other W42 (Or.inl p_7)
  have f49 := f34.other W42 (Or.inr (slot_ne (Or.inl (hw _ (List.mem_of_getElem? (i := 107) rfl))) (Or.inl (hw _ (List.mem_of_getElem? (i := 143) rfl))) (by decide) (t := .int) (t' := (.array (.object "java/lang/Object"))) (by decide) (by decide)))
  have f50 := f36.other W42 (Ne.symm ne12)
  have f51 := F27.other W42 (Or.inr (slot_ne (Or.inl (hw _ (List.mem_of_getElem? (i := 140) rfl))) (Or.inl (hw _ (List.mem_of_getElem? (i := 143) rfl))) (by decide) (t := .int) (t' := (.array (.object "java/lang/Object"))) (by decide) (by decide)))
  have O52 := O37.wr W42 p_4
  have K53 : Keep h0 h42 [x0] := K38.wr W42 (Or.inl (List.mem_of_getElem? (i := 0) rfl))
  have Z54 : n0 ≤ h42.size := Nat.le_trans Z39 (Keep.of_wr W42).1
  have N55 := Fr.snoc X42 N40 p_4
  refine own_step (st' := T42.setTop (mkF m 64 #[.val (.ref x0), .val (.ref x1), .val (.ref a_11)] [])) st42 ?_
  refine own_ret X42 Bd.notSynchronized (none) (fun _ => rfl) (fun fs hr => X42.returnOut hx Bd.returns (hb hby d15_64) hr) ?_ (by decide) (by decide)
  rw [e42]
  exact ⟨rfl, N55, K53, f51, f49⟩
theorem d23_0 : decode jdk_69_method_22_code 0 = .ok (.aload_n 0, 1) := by decide +kernel
theorem d23_1 : decode jdk_69_method_22_code 1 = .ok (.dup, 1) := by decide +kernel
theorem d23_2 : decode jdk_69_method_22_code 2 = .ok (.getfield 202, 3) := by decide +kernel
theorem d23_5 : decode jdk_69_method_22_code 5 = .ok (.iconst 1, 1) := by decide +kernel
theorem d23_6 : decode jdk_69_method_22_code 6 = .ok (.iadd, 1) := by decide +kernel
theorem d23_7 : decode jdk_69_method_22_code 7 = .ok (.putfield 202, 3) := by decide +kernel
theorem d23_10 : decode jdk_69_method_22_code 10 = .ok (.aload_n 0, 1) := by decide +kernel
theorem d23_11 : decode jdk_69_method_22_code 11 = .ok (.getfield 105, 3) := by decide +kernel
theorem d23_14 : decode jdk_69_method_22_code 14 = .ok (.dup, 1) := by decide +kernel
theorem d23_15 : decode jdk_69_method_22_code 15 = .ok (.astore_n 1, 1) := by decide +kernel
theorem d23_16 : decode jdk_69_method_22_code 16 = .ok (.ifnull 33, 3) := by decide +kernel
theorem d23_49 : decode jdk_69_method_22_code 49 = .ok (.return_, 1) := by decide +kernel
theorem ef_23_R (m : MethodId) (x0 : Addr) : entryFrame m #[(.ref x0)] 3 = mkF m 0 #[.val (.ref x0), .unset, .unset] [] := by first | (simp [entryFrame, mkF, argsToLocals, Value.category]; done) | rfl
def Q_rm23 (Z : State) (x0 : Addr) (n : Int32) (h0 : Heap) (n0 : Nat) (v : Option Value) (h : Heap) (L : List Loc) : Prop := v = none ∧ Fr n0 L ∧ Keep h0 h [x0] ∧ Fld Z h x0 "java/util/LinkedHashMap" "head" "Ljava/util/LinkedHashMap$Entry;" .null ∧ Fld Z h x0 "java/util/LinkedHashMap" "tail" "Ljava/util/LinkedHashMap$Entry;" .null
set_option maxRecDepth 65536 in
set_option maxHeartbeats 40000000 in
theorem rm23 (l : Launch) (Z : State) (a0 : Array Value) (hw : ∀ d ∈ tables_1, d.before a0 Z = true) (ws : List Jvm.Cond) (x0 : Addr) (n : Int32) (h0 : Heap) (n0 : Nat) (Z0 : n0 ≤ h0.size) (p_0 : Fld Z h0 x0 "java/util/HashMap" "modCount" "I" (.int n)) (p_1 : Fld Z h0 x0 "java/util/HashMap" "table" "[Ljava/util/HashMap$Node;" .null) (p_2 : Fld Z h0 x0 "java/util/LinkedHashMap" "head" "Ljava/util/LinkedHashMap$Entry;" .null) (p_3 : Fld Z h0 x0 "java/util/LinkedHashMap" "tail" "Ljava/util/LinkedHashMap$Entry;" .null) (p_4 : Exa Z h0 x0 "java/util/LinkedHashMap") (p_5 : n0 ≤ x0) :
    MetFree l (⟨"java/util/HashMap", "clear", "()V"⟩ : MethodName) (head1 (Jvm.Cond.code (⟨"java/util/HashMap", "clear", "()V"⟩ : MethodName) jdk_69_method_22_code 3 none :: ws) ({ frames := 0, cells := 0, slots := 0, locals := 0 } : Room)) (fun a U => a = #[(.ref x0)] ∧ Z.Warmed39 U.vm ∧ U.heap = h0) (fun _ _ _ _ _ => True) (fun _ U o U' => ∃ v L, o = .returned v ∧ Q_rm23 Z x0 n h0 n0 v U'.heap L ∧ FrameEnd U o U' L ({ frames := 0, cells := 0, slots := 0, locals := 0 } : Room).cells ({ frames := 0, cells := 0, slots := 0, locals := 0 } : Room).slots) := by
  refine MetFree.of_bodySF (plainFor_of_name pn_11) hisR ?_
  intro p e s m args below meth c s₁ Bd hml0 hP hK
  obtain ⟨rfl, hZ, hh⟩ := hP
  have hx := Bd.exec
  have hby := Bd.bytes
  have hml : c.maxLocals = 3 := hml0
  have hown : s.vm.findClass "java/util/HashMap" = some m.cls := findClass_of_methodNamed Bd.named
  have hnm := (name_of_methodNamed Bd.named Bd.method).1
  have X0 : Stand p l e ({ frames := 0, cells := 0, slots := 0, locals := 0 } : Room) s m #[(.ref x0)] below meth c s₁ [] 0 0 := Stand.of_body Bd
  have e0 : s₁.heap = h0 := by rw [← hh, Bd.state]; rfl
  have N0 := Fr.nil n0
  show own_Ends p e below s ({ frames := 0, cells := 0, slots := 0, locals := 0 } : Room).cells ({ frames := 0, cells := 0, slots := 0, locals := 0 } : Room).slots (Q_rm23 Z x0 n h0 n0) (s₁.setTop (entryFrame m #[(.ref x0)] 3))
  rw [ef_23_R]
  refine own_step (st' := s₁.setTop (mkF m 1 #[.val (.ref x0), .unset, .unset] [(.ref x0)])) (fun t k => XS.aloadN X0.here hx rfl (hb hby d23_0) rfl rfl k) ?_
  refine own_step (st' := s₁.setTop (mkF m 2 #[.val (.ref x0), .unset, .unset] [(.ref x0), (.ref x0)])) (fun t k => XS.dup X0.here hx rfl (hb hby d23_1) rfl rfl k) ?_
  obtain ⟨T1, X1, e1, st1⟩ := getF X0 hx hZ hown (host := "") (Or.inl (hw _ (List.mem_of_getElem? (i := 162) rfl))) Via.refl e0 p_0 (g := (mkF m 2 #[.val (.ref x0), .unset, .unset] [(.ref x0), (.ref x0)])) rfl rfl (hb hby d23_2)
  refine own_step (st' := T1.setTop (mkF m 5 #[.val (.ref x0), .unset, .unset] [(.int n), (.ref x0)])) st1 ?_
  refine own_step (st' := T1.setTop (mkF m 6 #[.val (.ref x0), .unset, .unset] [(.int (1 : Int32)), (.int n), (.ref x0)])) (fun t k => XS.iconst X1.here hx rfl (hb hby d23_5) k) ?_
  refine own_step (st' := T1.setTop (mkF m 7 #[.val (.ref x0), .unset, .unset] [(.int (n + (1 : Int32))), (.ref x0)])) (fun t k => XS.iadd X1.here hx rfl (hb hby d23_6) rfl k) ?_
  obtain ⟨T2, h2, X2, e2, W2, st2⟩ := putF X1 hx hZ hown (host := "") (Or.inl (hw _ (List.mem_of_getElem? (i := 162) rfl))) Via.refl e1 p_0 p_4 (Or.inl (hw _ (List.mem_of_getElem? (i := 163) rfl))) (hw _ (List.mem_of_getElem? (i := 36) rfl)) (ty := .int) (by decide) rfl rfl (g := (mkF m 7 #[.val (.ref x0), .unset, .unset] [(.int (n + (1 : Int32))), (.ref x0)])) rfl rfl (hb hby d23_7)
  have F2 := p_0.same W2
  have f3 := p_1.other W2 (Or.inr (slot_ne (Or.inl (hw _ (List.mem_of_getElem? (i := 165) rfl))) (Or.inl (hw _ (List.mem_of_getElem? (i := 163) rfl))) (by decide) (t := (.array (.object "java/util/HashMap$Node"))) (t' := .int) (by decide) (by decide)))
  have f4 := p_2.other W2 (Or.inr (slot_ne (Or.inl (hw _ (List.mem_of_getElem? (i := 138) rfl))) (Or.inl (hw _ (List.mem_of_getElem? (i := 163) rfl))) (by decide) (t := (.object "java/util/LinkedHashMap$Entry")) (t' := .int) (by decide) (by decide)))
  have f5 := p_3.other W2 (Or.inr (slot_ne (Or.inl (hw _ (List.mem_of_getElem? (i := 167) rfl))) (Or.inl (hw _ (List.mem_of_getElem? (i := 163) rfl))) (by decide) (t := (.object "java/util/LinkedHashMap$Entry")) (t' := .int) (by decide) (by decide)))
  have f6 := p_4.wr W2
  have K7 : Keep h0 h2 [x0] := (Keep.refl h0 [x0]).wr W2 (Or.inl (List.mem_of_getElem? (i := 0) rfl))
  have Z8 : n0 ≤ h2.size := Nat.le_trans Z0 (Keep.of_wr W2).1
  have N9 := Fr.snoc X2 N0 p_5
  refine own_step (st' := T2.setTop (mkF m 10 #[.val (.ref x0), .unset, .unset] [])) st2 ?_
  refine own_step (st' := T2.setTop (mkF m 11 #[.val (.ref x0), .unset, .unset] [(.ref x0)])) (fun t k => XS.aloadN X2.here hx rfl (hb hby d23_10) rfl rfl k) ?_
  obtain ⟨T10, X10, e10, st10⟩ := getF X2 hx hZ hown (host := "") (Or.inl (hw _ (List.mem_of_getElem? (i := 164) rfl))) Via.refl e2 f3 (g := (mkF m 11 #[.val (.ref x0), .unset, .unset] [(.ref x0)])) rfl rfl (hb hby d23_11)
  refine own_step (st' := T10.setTop (mkF m 14 #[.val (.ref x0), .unset, .unset] [.null])) st10 ?_
  refine own_step (st' := T10.setTop (mkF m 15 #[.val (.ref x0), .unset, .unset] [.null, .null])) (fun t k => XS.dup X10.here hx rfl (hb hby d23_14) rfl rfl k) ?_
  refine own_step (st' := T10.setTop (mkF m 16 #[.val (.ref x0), .val .null, .unset] [.null])) (fun t k => XS.astoreN X10.here hx rfl (hb hby d23_15) rfl rfl (l' := #[.val (.ref x0), .val .null, .unset]) rfl k) ?_
  refine own_step (st' := T10.setTop (mkF m 49 #[.val (.ref x0), .val .null, .unset] [])) (fun t k => XS.ifnullYes X10.here hx rfl (pc0 := 16) (pc' := 49) rfl (hb hby d23_16) rfl (by decide) (by decide) k) ?_
  refine own_ret X10 Bd.notSynchronized (none) (fun _ => rfl) (fun fs hr => X10.returnOut hx Bd.returns (hb hby d23_49) hr) ?_ (by decide) (by decide)
  rw [e10]
  exact ⟨rfl, N9, K7, f4, f5⟩
theorem d22_0 : decode jdk_94_method_22_code 0 = .ok (.aload_n 0, 1) := by decide +kernel
theorem d22_1 : decode jdk_94_method_22_code 1 = .ok (.invokespecial 110, 3) := by decide +kernel
theorem d22_4 : decode jdk_94_method_22_code 4 = .ok (.aload_n 0, 1) := by decide +kernel
theorem d22_5 : decode jdk_94_method_22_code 5 = .ok (.aload_n 0, 1) := by decide +kernel
theorem d22_6 : decode jdk_94_method_22_code 6 = .ok (.aconst_null, 1) := by decide +kernel
theorem d22_7 : decode jdk_94_method_22_code 7 = .ok (.dup_x1, 1) := by decide +kernel
theorem d22_8 : decode jdk_94_method_22_code 8 = .ok (.putfield 11, 3) := by decide +kernel
theorem d22_11 : decode jdk_94_method_22_code 11 = .ok (.putfield 7, 3) := by decide +kernel
theorem d22_14 : decode jdk_94_method_22_code 14 = .ok (.return_, 1) := by decide +kernel
theorem ef_22_R (m : MethodId) (x0 : Addr) : entryFrame m #[(.ref x0)] 1 = mkF m 0 #[.val (.ref x0)] [] := by first | (simp [entryFrame, mkF, argsToLocals, Value.category]; done) | rfl
def Q_rm22 (Z : State) (x0 : Addr) (n : Int32) (h0 : Heap) (n0 : Nat) (v : Option Value) (h : Heap) (L : List Loc) : Prop := v = none ∧ Fr n0 L ∧ Keep h0 h [x0]
set_option maxRecDepth 65536 in
set_option maxHeartbeats 40000000 in
theorem rm22 (l : Launch) (Z : State) (a0 : Array Value) (hw : ∀ d ∈ tables_1, d.before a0 Z = true) (ws : List Jvm.Cond) (x0 : Addr) (n : Int32) (h0 : Heap) (n0 : Nat) (Z0 : n0 ≤ h0.size) (p_0 : Fld Z h0 x0 "java/util/HashMap" "modCount" "I" (.int n)) (p_1 : Fld Z h0 x0 "java/util/HashMap" "table" "[Ljava/util/HashMap$Node;" .null) (p_2 : Fld Z h0 x0 "java/util/LinkedHashMap" "head" "Ljava/util/LinkedHashMap$Entry;" .null) (p_3 : Fld Z h0 x0 "java/util/LinkedHashMap" "tail" "Ljava/util/LinkedHashMap$Entry;" .null) (p_4 : Exa Z h0 x0 "java/util/LinkedHashMap") (p_5 : n0 ≤ x0) :
    MetFree l (⟨"java/util/LinkedHashMap", "clear", "()V"⟩ : MethodName) (head1 (Jvm.Cond.code (⟨"java/util/LinkedHashMap", "clear", "()V"⟩ : MethodName) jdk_94_method_22_code 1 none :: ws) ({ frames := 1, cells := 0, slots := 0, locals := 14 } : Room)) (fun a U => a = #[(.ref x0)] ∧ Z.Warmed39 U.vm ∧ U.heap = h0) (fun _ _ _ _ _ => True) (fun _ U o U' => ∃ v L, o = .returned v ∧ Q_rm22 Z x0 n h0 n0 v U'.heap L ∧ FrameEnd U o U' L ({ frames := 1, cells := 0, slots := 0, locals := 14 } : Room).cells ({ frames := 1, cells := 0, slots := 0, locals := 14 } : Room).slots) := by
  refine MetFree.of_bodySF (plainFor_of_name pn_13) hisR ?_
  intro p e s m args below meth c s₁ Bd hml0 hP hK
  obtain ⟨rfl, hZ, hh⟩ := hP
  have hx := Bd.exec
  have hby := Bd.bytes
  have hml : c.maxLocals = 1 := hml0
  have hown : s.vm.findClass "java/util/LinkedHashMap" = some m.cls := findClass_of_methodNamed Bd.named
  have hnm := (name_of_methodNamed Bd.named Bd.method).1
  have X0 : Stand p l e ({ frames := 1, cells := 0, slots := 0, locals := 14 } : Room) s m #[(.ref x0)] below meth c s₁ [] 0 0 := Stand.of_body Bd
  have e0 : s₁.heap = h0 := by rw [← hh, Bd.state]; rfl
  have N0 := Fr.nil n0
  show own_Ends p e below s ({ frames := 1, cells := 0, slots := 0, locals := 14 } : Room).cells ({ frames := 1, cells := 0, slots := 0, locals := 14 } : Room).slots (Q_rm22 Z x0 n h0 n0) (s₁.setTop (entryFrame m #[(.ref x0)] 1))
  rw [ef_22_R]
  refine own_step (st' := s₁.setTop (mkF m 1 #[.val (.ref x0)] [(.ref x0)])) (fun t k => XS.aloadN X0.here hx rfl (hb hby d22_0) rfl rfl k) ?_
  obtain ⟨_, _, ⟨T1, L1, k1, n1⟩, -, X1, ⟨Lc1, hQ1, l1, y1, z1⟩, st1⟩ := superBack X0 hx hZ (y := (⟨"java/util/HashMap", "clear", "()V"⟩ : MethodName)) hown (hw _ (List.mem_of_getElem? (i := 159) rfl)) (own_same (y := (⟨"java/util/HashMap", "clear", "()V"⟩ : MethodName)) (hw _ (List.mem_of_getElem? (i := 155) rfl)) (own_nf  (y := (⟨"java/util/HashMap", "size", "()I"⟩ : MethodName)) rfl (id (hw _ (List.mem_of_getElem? (i := 119) rfl))) (notFace_of_selects  (id (hw _ (List.mem_of_getElem? (i := 120) rfl))))) (by decide)) (hw _ (List.mem_of_getElem? (i := 155) rfl)) (hw _ (List.mem_of_getElem? (i := 160) rfl)) (by decide) (backOf (W := 0) (rm23 l Z a0 hw [] x0 n h0 n0 Z0 p_0 p_1 p_2 p_3 p_4 p_5) hZ (hw _ (List.mem_of_getElem? (i := 161) rfl)) (hw _ (List.mem_of_getElem? (i := 46) rfl)) (by decide) (by decide)) e0 (Ins.self p_4) (g := (mkF m 1 #[.val (.ref x0)] [(.ref x0)])) rfl (by rw [hml]; rfl) (hw _ (List.mem_of_getElem? (i := 161) rfl)) (argsL := []) (rest := []) (lenOf pd_1 rfl) rfl (by show 2 * 0 + _ ≤ _; exact Nat.le_of_eq rfl) (hb hby d22_1) (fun _ _ => ⟨rfl, e0, (by decide : 0 + 0 ≤ _), (by decide : 0 + 0 ≤ _)⟩)
  dsimp only [Pt.U, Pt.locs, Pt.cells, Pt.slots] at X1 l1 y1 z1 st1 hQ1
  subst l1 y1 z1
  obtain ⟨rfl, N1q, K1, pq1_0, pq1_1⟩ := hQ1
  have N1 := Fr.app N0 N1q
  obtain ⟨h1, e1⟩ : ∃ z, T1.heap = z := ⟨_, rfl⟩
  rw [e1] at K1 pq1_0 pq1_1
  have f2 := p_4.keep K1
  have K3 : Keep h0 h1 [x0] := (Keep.refl h0 [x0]).trans K1 (allS (Or.inl (List.mem_of_getElem? (i := 0) rfl)) all0)
  have Z4 : n0 ≤ h1.size := Nat.le_trans Z0 K1.1
  refine own_step (st' := T1.setTop (mkF m 4 #[.val (.ref x0)] [])) (fun t k => st1.trans k) ?_
  refine own_step (st' := T1.setTop (mkF m 5 #[.val (.ref x0)] [(.ref x0)])) (fun t k => XS.aloadN X1.here hx rfl (hb hby d22_4) rfl rfl k) ?_
  refine own_step (st' := T1.setTop (mkF m 6 #[.val (.ref x0)] [(.ref x0), (.ref x0)])) (fun t k => XS.aloadN X1.here hx rfl (hb hby d22_5) rfl rfl k) ?_
  refine own_step (st' := T1.setTop (mkF m 7 #[.val (.ref x0)] [.null, (.ref x0), (.ref x0)])) (fun t k => XS.aconstNull X1.here hx rfl (hb hby d22_6) k) ?_
  refine own_step (st' := T1.setTop (mkF m 8 #[.val (.ref x0)] [.null, (.ref x0), .null, (.ref x0)])) (fun t k => XS.dupX1 X1.here hx rfl (hb hby d22_7) rfl rfl rfl k) ?_
  obtain ⟨T5, h5, X5, e5, W5, st5⟩ := putF X1 hx hZ hown (host := "") (Or.inl (hw _ (List.mem_of_getElem? (i := 166) rfl))) Via.refl e1 pq1_1 f2 (Or.inl (hw _ (List.mem_of_getElem? (i := 167) rfl))) (hw _ (List.mem_of_getElem? (i := 36) rfl)) (ty := (.object "java/util/LinkedHashMap$Entry")) (by decide) rfl rfl (g := (mkF m 8 #[.val (.ref x0)] [.null, (.ref x0), .null, (.ref x0)])) rfl rfl (hb hby d22_8)
  have F5 := pq1_1.same W5
  have f6 := f2.wr W5
  have f7 := pq1_0.other W5 (Or.inr (slot_ne (Or.inl (hw _ (List.mem_of_getElem? (i := 138) rfl))) (Or.inl (hw _ (List.mem_of_getElem? (i := 167) rfl))) (by decide) (t := (.object "java/util/LinkedHashMap$Entry")) (t' := (.object "java/util/LinkedHashMap$Entry")) (by decide) (by decide)))
  have K8 : Keep h0 h5 [x0] := K3.wr W5 (Or.inl (List.mem_of_getElem? (i := 0) rfl))
  have Z9 : n0 ≤ h5.size := Nat.le_trans Z4 (Keep.of_wr W5).1
  have N10 := Fr.snoc X5 N1 p_5
  refine own_step (st' := T5.setTop (mkF m 11 #[.val (.ref x0)] [.null, (.ref x0)])) st5 ?_
  obtain ⟨T11, h11, X11, e11, W11, st11⟩ := putF X5 hx hZ hown (host := "") (Or.inl (hw _ (List.mem_of_getElem? (i := 137) rfl))) Via.refl e5 f7 f6 (Or.inl (hw _ (List.mem_of_getElem? (i := 138) rfl))) (hw _ (List.mem_of_getElem? (i := 36) rfl)) (ty := (.object "java/util/LinkedHashMap$Entry")) (by decide) rfl rfl (g := (mkF m 11 #[.val (.ref x0)] [.null, (.ref x0)])) rfl rfl (hb hby d22_11)
  have F11 := f7.same W11
  have f12 := f6.wr W11
  have f13 := F5.other W11 (Or.inr (slot_ne (Or.inl (hw _ (List.mem_of_getElem? (i := 167) rfl))) (Or.inl (hw _ (List.mem_of_getElem? (i := 138) rfl))) (by decide) (t := (.object "java/util/LinkedHashMap$Entry")) (t' := (.object "java/util/LinkedHashMap$Entry")) (by decide) (by decide)))
  have K14 : Keep h0 h11 [x0] := K8.wr W11 (Or.inl (List.mem_of_getElem? (i := 0) rfl))
  have Z15 : n0 ≤ h11.size := Nat.le_trans Z9 (Keep.of_wr W11).1
  have N16 := Fr.snoc X11 N10 p_5
  refine own_step (st' := T11.setTop (mkF m 14 #[.val (.ref x0)] [])) st11 ?_
  refine own_ret X11 Bd.notSynchronized (none) (fun _ => rfl) (fun fs hr => X11.returnOut hx Bd.returns (hb hby d22_14) hr) ?_ (by decide) (by decide)
  rw [e11]
  exact ⟨rfl, N16, K14⟩
theorem d21_0 : decode jdk_93_method_12_code 0 = .ok (.aload_n 0, 1) := by decide +kernel
theorem d21_1 : decode jdk_93_method_12_code 1 = .ok (.getfield 10, 3) := by decide +kernel
theorem d21_4 : decode jdk_93_method_12_code 4 = .ok (.invokevirtual 76, 3) := by decide +kernel
theorem d21_7 : decode jdk_93_method_12_code 7 = .ok (.return_, 1) := by decide +kernel
theorem ef_21_R (m : MethodId) (x0 : Addr) : entryFrame m #[(.ref x0)] 1 = mkF m 0 #[.val (.ref x0)] [] := by first | (simp [entryFrame, mkF, argsToLocals, Value.category]; done) | rfl
def Q_rm21 (Z : State) (x0 : Addr) (b : Addr) (n : Int32) (h0 : Heap) (n0 : Nat) (v : Option Value) (h : Heap) (L : List Loc) : Prop := v = none ∧ Fr n0 L ∧ Keep h0 h [b]
set_option maxRecDepth 65536 in
set_option maxHeartbeats 40000000 in
theorem rm21 (l : Launch) (Z : State) (a0 : Array Value) (hw : ∀ d ∈ tables_1, d.before a0 Z = true) (ws : List Jvm.Cond) (x0 : Addr) (b : Addr) (n : Int32) (h0 : Heap) (n0 : Nat) (Z0 : n0 ≤ h0.size) (p_0 : Fld Z h0 x0 "java/util/HashSet" "map" "Ljava/util/HashMap;" (.ref b)) (p_1 : Fld Z h0 b "java/util/HashMap" "modCount" "I" (.int n)) (p_2 : Fld Z h0 b "java/util/HashMap" "table" "[Ljava/util/HashMap$Node;" .null) (p_3 : Fld Z h0 b "java/util/LinkedHashMap" "head" "Ljava/util/LinkedHashMap$Entry;" .null) (p_4 : Fld Z h0 b "java/util/LinkedHashMap" "tail" "Ljava/util/LinkedHashMap$Entry;" .null) (p_5 : Exa Z h0 b "java/util/LinkedHashMap") (p_6 : n0 ≤ b) :
    MetFree l (⟨"java/util/HashSet", "clear", "()V"⟩ : MethodName) (head1 (Jvm.Cond.code (⟨"java/util/HashSet", "clear", "()V"⟩ : MethodName) jdk_93_method_12_code 1 none :: ws) ({ frames := 2, cells := 0, slots := 0, locals := 26 } : Room)) (fun a U => a = #[(.ref x0)] ∧ Z.Warmed39 U.vm ∧ U.heap = h0) (fun _ _ _ _ _ => True) (fun _ U o U' => ∃ v L, o = .returned v ∧ Q_rm21 Z x0 b n h0 n0 v U'.heap L ∧ FrameEnd U o U' L ({ frames := 2, cells := 0, slots := 0, locals := 26 } : Room).cells ({ frames := 2, cells := 0, slots := 0, locals := 26 } : Room).slots) := by
  refine MetFree.of_bodySF (plainFor_of_name pn_12) hisR ?_
  intro p e s m args below meth c s₁ Bd hml0 hP hK
  obtain ⟨rfl, hZ, hh⟩ := hP
  have hx := Bd.exec
  have hby := Bd.bytes
  have hml : c.maxLocals = 1 := hml0
  have hown : s.vm.findClass "java/util/HashSet" = some m.cls := findClass_of_methodNamed Bd.named
  have hnm := (name_of_methodNamed Bd.named Bd.method).1
  have X0 : Stand p l e ({ frames := 2, cells := 0, slots := 0, locals := 26 } : Room) s m #[(.ref x0)] below meth c s₁ [] 0 0 := Stand.of_body Bd
  have e0 : s₁.heap = h0 := by rw [← hh, Bd.state]; rfl
  have N0 := Fr.nil n0
  show own_Ends p e below s ({ frames := 2, cells := 0, slots := 0, locals := 26 } : Room).cells ({ frames := 2, cells := 0, slots := 0, locals := 26 } : Room).slots (Q_rm21 Z x0 b n h0 n0) (s₁.setTop (entryFrame m #[(.ref x0)] 1))
  rw [ef_21_R]
  refine own_step (st' := s₁.setTop (mkF m 1 #[.val (.ref x0)] [(.ref x0)])) (fun t k => XS.aloadN X0.here hx rfl (hb hby d21_0) rfl rfl k) ?_
  obtain ⟨T1, X1, e1, st1⟩ := getF X0 hx hZ hown (host := "") (Or.inl (hw _ (List.mem_of_getElem? (i := 76) rfl))) Via.refl e0 p_0 (g := (mkF m 1 #[.val (.ref x0)] [(.ref x0)])) rfl rfl (hb hby d21_1)
  refine own_step (st' := T1.setTop (mkF m 4 #[.val (.ref x0)] [(.ref b)])) st1 ?_
  obtain ⟨cq2, kq2, q2a, q2b, q2c⟩ := isOf hZ e1 p_5
  obtain ⟨_, _, ⟨T2, L2, k2, n2⟩, -, X2, ⟨Lc2, hQ2, l2, y2, z2⟩, st2⟩ := X1.virtualBack hx (y := (⟨"java/util/HashMap", "clear", "()V"⟩ : MethodName)) (z := (⟨"java/util/LinkedHashMap", "clear", "()V"⟩ : MethodName)) hown (mvT hZ (hw _ (List.mem_of_getElem? (i := 153) rfl))) (mvT hZ (hw _ (List.mem_of_getElem? (i := 154) rfl))) (own_nf (args := #[]) (y := (⟨"java/util/HashMap", "size", "()I"⟩ : MethodName)) rfl (mvT hZ (hw _ (List.mem_of_getElem? (i := 119) rfl))) (notFace_of_selects (args := #[]) (mvT hZ (hw _ (List.mem_of_getElem? (i := 120) rfl))))) (mvT hZ (hw _ (List.mem_of_getElem? (i := 156) rfl))) (mvT hZ (hw _ (List.mem_of_getElem? (i := 157) rfl))) (by decide) (backOf (W := 0) (rm22 l Z a0 hw [] b n h0 n0 Z0 p_1 p_2 p_3 p_4 p_5 p_6) hZ (hw _ (List.mem_of_getElem? (i := 158) rfl)) (hw _ (List.mem_of_getElem? (i := 37) rfl)) (by decide) (by decide)) q2a q2c (g := (mkF m 4 #[.val (.ref x0)] [(.ref b)])) rfl (by rw [hml]; rfl) (Steps.refl _) (argsL := []) (rest := []) (lenOf pd_1 rfl) rfl (by show 2 * 0 + _ ≤ _; exact Nat.le_of_eq rfl) (hb hby d21_4) (fun _ _ => ⟨rfl, e1, (by decide : 0 + 0 ≤ _), (by decide : 0 + 0 ≤ _)⟩)
  dsimp only [Pt.U, Pt.locs, Pt.cells, Pt.slots] at X2 l2 y2 z2 st2 hQ2
  subst l2 y2 z2
  obtain ⟨rfl, N2q, K2⟩ := hQ2
  have N2 := Fr.app N0 N2q
  obtain ⟨h2, e2⟩ : ∃ z, T2.heap = z := ⟨_, rfl⟩
  rw [e2] at K2
  have f3 := p_5.keep K2
  have K4 : Keep h0 h2 [b] := (Keep.refl h0 [b]).trans K2 (allS (Or.inl (List.mem_of_getElem? (i := 0) rfl)) all0)
  have Z5 : n0 ≤ h2.size := Nat.le_trans Z0 K2.1
  refine own_step (st' := T2.setTop (mkF m 7 #[.val (.ref x0)] [])) (fun t k => st2.trans k) ?_
  refine own_ret X2 Bd.notSynchronized (none) (fun _ => rfl) (fun fs hr => X2.returnOut hx Bd.returns (hb hby d21_7) hr) ?_ (by decide) (by decide)
  rw [e2]
  exact ⟨rfl, N2, K4⟩
theorem d25_0 : decode jdk_49_method_1_code 0 = .ok (.aload_n 0, 1) := by decide +kernel
theorem d25_1 : decode jdk_49_method_1_code 1 = .ok (.aload_n 1, 1) := by decide +kernel
theorem d25_2 : decode jdk_49_method_1_code 2 = .ok (.putfield 1, 3) := by decide +kernel
theorem d25_5 : decode jdk_49_method_1_code 5 = .ok (.aload_n 0, 1) := by decide +kernel
theorem d25_6 : decode jdk_49_method_1_code 6 = .ok (.invokespecial 7, 3) := by decide +kernel
theorem d25_9 : decode jdk_49_method_1_code 9 = .ok (.aload_n 0, 1) := by decide +kernel
theorem d25_10 : decode jdk_49_method_1_code 10 = .ok (.iconst (-1), 1) := by decide +kernel
theorem d25_11 : decode jdk_49_method_1_code 11 = .ok (.putfield 13, 3) := by decide +kernel
theorem d25_14 : decode jdk_49_method_1_code 14 = .ok (.aload_n 0, 1) := by decide +kernel
theorem d25_15 : decode jdk_49_method_1_code 15 = .ok (.aload_n 0, 1) := by decide +kernel
theorem d25_16 : decode jdk_49_method_1_code 16 = .ok (.getfield 1, 3) := by decide +kernel
theorem d25_19 : decode jdk_49_method_1_code 19 = .ok (.getfield 17, 3) := by decide +kernel
theorem d25_22 : decode jdk_49_method_1_code 22 = .ok (.putfield 22, 3) := by decide +kernel
theorem d25_25 : decode jdk_49_method_1_code 25 = .ok (.return_, 1) := by decide +kernel
theorem pn_10 : plainName "java/util/ArrayList$Itr" = true := by first | (simp [plainName, overriddenIn]; done) | decide +kernel
theorem ef_25_RR (m : MethodId) (x0 : Addr) (x1 : Addr) : entryFrame m #[(.ref x0), (.ref x1)] 2 = mkF m 0 #[.val (.ref x0), .val (.ref x1)] [] := by first | (simp [entryFrame, mkF, argsToLocals, Value.category]; done) | rfl
def Q_rm25 (Z : State) (x0 : Addr) (x1 : Addr) (h0 : Heap) (n0 : Nat) (v : Option Value) (h : Heap) (L : List Loc) : Prop := v = none ∧ Fr n0 L ∧ Keep h0 h [x0] ∧ Fld Z h x0 "java/util/ArrayList$Itr" "this$0" "Ljava/util/ArrayList;" (.ref x1) ∧ Fld Z h x0 "java/util/ArrayList$Itr" "cursor" "I" (.int (0 : Int32))
set_option maxRecDepth 65536 in
set_option maxHeartbeats 40000000 in
theorem rm25 (l : Launch) (Z : State) (a0 : Array Value) (hw : ∀ d ∈ tables_1, d.before a0 Z = true) (ws : List Jvm.Cond) (x0 : Addr) (x1 : Addr) (h0 : Heap) (n0 : Nat) (Z0 : n0 ≤ h0.size) (p_0 : Fld Z h0 x0 "java/util/ArrayList$Itr" "this$0" "Ljava/util/ArrayList;" .null) (p_1 : Fld Z h0 x0 "java/util/ArrayList$Itr" "lastRet" "I" (.int (0 : Int32))) (p_2 : Fld Z h0 x0 "java/util/ArrayList$Itr" "expectedModCount" "I" (.int (0 : Int32))) (p_3 : Fld Z h0 x0 "java/util/ArrayList$Itr" "cursor" "I" (.int (0 : Int32))) (p_4 : Exa Z h0 x0 "java/util/ArrayList$Itr") (p_5 : n0 ≤ x0) (p_6 : x1 ≠ x0) (p_7 : Fld Z h0 x1 "java/util/AbstractList" "modCount" "I" (.int (0 : Int32))) :
    MetFree l (⟨"java/util/ArrayList$Itr", "<init>", "(Ljava/util/ArrayList;)V"⟩ : MethodName) (head1 (Jvm.Cond.code (⟨"java/util/ArrayList$Itr", "<init>", "(Ljava/util/ArrayList;)V"⟩ : MethodName) jdk_49_method_1_code 2 none :: ws) ({ frames := 1, cells := 0, slots := 0, locals := 12 } : Room)) (fun a U => a = #[(.ref x0), (.ref x1)] ∧ Z.Warmed39 U.vm ∧ U.heap = h0) (fun _ _ _ _ _ => True) (fun _ U o U' => ∃ v L, o = .returned v ∧ Q_rm25 Z x0 x1 h0 n0 v U'.heap L ∧ FrameEnd U o U' L ({ frames := 1, cells := 0, slots := 0, locals := 12 } : Room).cells ({ frames := 1, cells := 0, slots := 0, locals := 12 } : Room).slots) := by
  refine MetFree.of_bodySF (plainFor_of_name pn_10) hisR ?_
  intro p e s m args below meth c s₁ Bd hml0 hP hK
  obtain ⟨rfl, hZ, hh⟩ := hP
  have hx := Bd.exec
  have hby := Bd.bytes
  have hml : c.maxLocals = 2 := hml0
  have hown : s.vm.findClass "java/util/ArrayList$Itr" = some m.cls := findClass_of_methodNamed Bd.named
  have hnm := (name_of_methodNamed Bd.named Bd.method).1
  have X0 : Stand p l e ({ frames := 1, cells := 0, slots := 0, locals := 12 } : Room) s m #[(.ref x0), (.ref x1)] below meth c s₁ [] 0 0 := Stand.of_body Bd
  have e0 : s₁.heap = h0 := by rw [← hh, Bd.state]; rfl
  have N0 := Fr.nil n0
  show own_Ends p e below s ({ frames := 1, cells := 0, slots := 0, locals := 12 } : Room).cells ({ frames := 1, cells := 0, slots := 0, locals := 12 } : Room).slots (Q_rm25 Z x0 x1 h0 n0) (s₁.setTop (entryFrame m #[(.ref x0), (.ref x1)] 2))
  rw [ef_25_RR]
  refine own_step (st' := s₁.setTop (mkF m 1 #[.val (.ref x0), .val (.ref x1)] [(.ref x0)])) (fun t k => XS.aloadN X0.here hx rfl (hb hby d25_0) rfl rfl k) ?_
  refine own_step (st' := s₁.setTop (mkF m 2 #[.val (.ref x0), .val (.ref x1)] [(.ref x1), (.ref x0)])) (fun t k => XS.aloadN X0.here hx rfl (hb hby d25_1) rfl rfl k) ?_
  obtain ⟨T1, h1, X1, e1, W1, st1⟩ := putF X0 hx hZ hown (host := "") (Or.inl (hw _ (List.mem_of_getElem? (i := 184) rfl))) Via.refl e0 p_0 p_4 (Or.inr ⟨(hw _ (List.mem_of_getElem? (i := 185) rfl)), rfl, hnm⟩) (hw _ (List.mem_of_getElem? (i := 178) rfl)) (ty := (.object "java/util/ArrayList")) (by decide) rfl rfl (g := (mkF m 2 #[.val (.ref x0), .val (.ref x1)] [(.ref x1), (.ref x0)])) rfl rfl (hb hby d25_2)
  have F1 := p_0.same W1
  have f2 := p_1.other W1 (Or.inr (slot_ne (Or.inl (hw _ (List.mem_of_getElem? (i := 188) rfl))) (Or.inr (hw _ (List.mem_of_getElem? (i := 185) rfl))) (by decide) (t := .int) (t' := (.object "java/util/ArrayList")) (by decide) (by decide)))
  have f3 := p_2.other W1 (Or.inr (slot_ne (Or.inl (hw _ (List.mem_of_getElem? (i := 192) rfl))) (Or.inr (hw _ (List.mem_of_getElem? (i := 185) rfl))) (by decide) (t := .int) (t' := (.object "java/util/ArrayList")) (by decide) (by decide)))
  have f4 := p_3.other W1 (Or.inr (slot_ne (Or.inl (hw _ (List.mem_of_getElem? (i := 203) rfl))) (Or.inr (hw _ (List.mem_of_getElem? (i := 185) rfl))) (by decide) (t := .int) (t' := (.object "java/util/ArrayList")) (by decide) (by decide)))
  have f5 := p_4.wr W1
  have f6 := p_7.other W1 (Or.inl p_6)
  have K7 : Keep h0 h1 [x0] := (Keep.refl h0 [x0]).wr W1 (Or.inl (List.mem_of_getElem? (i := 0) rfl))
  have Z8 : n0 ≤ h1.size := Nat.le_trans Z0 (Keep.of_wr W1).1
  have N9 := Fr.snoc X1 N0 p_5
  refine own_step (st' := T1.setTop (mkF m 5 #[.val (.ref x0), .val (.ref x1)] [])) st1 ?_
  refine own_step (st' := T1.setTop (mkF m 6 #[.val (.ref x0), .val (.ref x1)] [(.ref x0)])) (fun t k => XS.aloadN X1.here hx rfl (hb hby d25_5) rfl rfl k) ?_
  obtain ⟨T10, X10, e10, st10⟩ := initO X1 hx hZ hown (hw _ (List.mem_of_getElem? (i := 186) rfl)) (hw _ (List.mem_of_getElem? (i := 7) rfl)) (hw _ (List.mem_of_getElem? (i := 8) rfl)) e1 (g := (mkF m 6 #[.val (.ref x0), .val (.ref x1)] [(.ref x0)])) rfl (by rw [hml]; rfl) rfl (hb hby d25_6) (by decide) (W := 0) (by show 2 * 0 + _ ≤ _; exact Nat.le_of_eq rfl) (by decide)
  refine own_step (st' := T10.setTop (mkF m 9 #[.val (.ref x0), .val (.ref x1)] [])) st10 ?_
  refine own_step (st' := T10.setTop (mkF m 10 #[.val (.ref x0), .val (.ref x1)] [(.ref x0)])) (fun t k => XS.aloadN X10.here hx rfl (hb hby d25_9) rfl rfl k) ?_
  refine own_step (st' := T10.setTop (mkF m 11 #[.val (.ref x0), .val (.ref x1)] [(.int (-1 : Int32)), (.ref x0)])) (fun t k => XS.iconst X10.here hx rfl (hb hby d25_10) k) ?_
  obtain ⟨T11, h11, X11, e11, W11, st11⟩ := putF X10 hx hZ hown (host := "") (Or.inl (hw _ (List.mem_of_getElem? (i := 187) rfl))) Via.refl e10 f2 f5 (Or.inl (hw _ (List.mem_of_getElem? (i := 188) rfl))) (hw _ (List.mem_of_getElem? (i := 178) rfl)) (ty := .int) (by decide) rfl rfl (g := (mkF m 11 #[.val (.ref x0), .val (.ref x1)] [(.int (-1 : Int32)), (.ref x0)])) rfl rfl (hb hby d25_11)
  have F11 := f2.same W11
  have f12 := f3.other W11 (Or.inr (slot_ne (Or.inl (hw _ (List.mem_of_getElem? (i := 192) rfl))) (Or.inl (hw _ (List.mem_of_getElem? (i := 188) rfl))) (by decide) (t := .int) (t' := .int) (by decide) (by decide)))
  have f13 := f4.other W11 (Or.inr (slot_ne (Or.inl (hw _ (List.mem_of_getElem? (i := 203) rfl))) (Or.inl (hw _ (List.mem_of_getElem? (i := 188) rfl))) (by decide) (t := .int) (t' := .int) (by decide) (by decide)))
  have f14 := f5.wr W11
  have f15 := f6.other W11 (Or.inl p_6)
  have f16 := F1.other W11 (Or.inr (slot_ne (Or.inr (hw _ (List.mem_of_getElem? (i := 185) rfl))) (Or.inl (hw _ (List.mem_of_getElem? (i := 188) rfl))) (by decide) (t := (.object "java/util/ArrayList")) (t' := .int) (by decide) (by decide)))
  have K17 : Keep h0 h11 [x0] := K7.wr W11 (Or.inl (List.mem_of_getElem? (i := 0) rfl))
  have Z18 : n0 ≤ h11.size := Nat.le_trans Z8 (Keep.of_wr W11).1
  have N19 := Fr.snoc X11 N9 p_5
  refine own_step (st' := T11.setTop (mkF m 14 #[.val (.ref x0), .val (.ref x1)] [])) st11 ?_
  refine own_step (st' := T11.setTop (mkF m 15 #[.val (.ref x0), .val (.ref x1)] [(.ref x0)])) (fun t k => XS.aloadN X11.here hx rfl (hb hby d25_14) rfl rfl k) ?_
  refine own_step (st' := T11.setTop (mkF m 16 #[.val (.ref x0), .val (.ref x1)] [(.ref x0), (.ref x0)])) (fun t k => XS.aloadN X11.here hx rfl (hb hby d25_15) rfl rfl k) ?_
  obtain ⟨T20, X20, e20, st20⟩ := getF X11 hx hZ hown (host := "") (Or.inl (hw _ (List.mem_of_getElem? (i := 184) rfl))) Via.refl e11 f16 (g := (mkF m 16 #[.val (.ref x0), .val (.ref x1)] [(.ref x0), (.ref x0)])) rfl rfl (hb hby d25_16)
  refine own_step (st' := T20.setTop (mkF m 19 #[.val (.ref x0), .val (.ref x1)] [(.ref x1), (.ref x0)])) st20 ?_
  obtain ⟨T21, X21, e21, st21⟩ := getF X20 hx hZ hown (host := "") (Or.inl (hw _ (List.mem_of_getElem? (i := 189) rfl))) (Via.of (hw _ (List.mem_of_getElem? (i := 190) rfl))) e20 f15 (g := (mkF m 19 #[.val (.ref x0), .val (.ref x1)] [(.ref x1), (.ref x0)])) rfl rfl (hb hby d25_19)
  refine own_step (st' := T21.setTop (mkF m 22 #[.val (.ref x0), .val (.ref x1)] [(.int (0 : Int32)), (.ref x0)])) st21 ?_
  obtain ⟨T22, h22, X22, e22, W22, st22⟩ := putF X21 hx hZ hown (host := "") (Or.inl (hw _ (List.mem_of_getElem? (i := 191) rfl))) Via.refl e21 f12 f14 (Or.inl (hw _ (List.mem_of_getElem? (i := 192) rfl))) (hw _ (List.mem_of_getElem? (i := 178) rfl)) (ty := .int) (by decide) rfl rfl (g := (mkF m 22 #[.val (.ref x0), .val (.ref x1)] [(.int (0 : Int32)), (.ref x0)])) rfl rfl (hb hby d25_22)
  have F22 := f12.same W22
  have f23 := f13.other W22 (Or.inr (slot_ne (Or.inl (hw _ (List.mem_of_getElem? (i := 203) rfl))) (Or.inl (hw _ (List.mem_of_getElem? (i := 192) rfl))) (by decide) (t := .int) (t' := .int) (by decide) (by decide)))
  have f24 := f14.wr W22
  have f25 := f15.other W22 (Or.inl p_6)
  have f26 := f16.other W22 (Or.inr (slot_ne (Or.inr (hw _ (List.mem_of_getElem? (i := 185) rfl))) (Or.inl (hw _ (List.mem_of_getElem? (i := 192) rfl))) (by decide) (t := (.object "java/util/ArrayList")) (t' := .int) (by decide) (by decide)))
  have f27 := F11.other W22 (Or.inr (slot_ne (Or.inl (hw _ (List.mem_of_getElem? (i := 188) rfl))) (Or.inl (hw _ (List.mem_of_getElem? (i := 192) rfl))) (by decide) (t := .int) (t' := .int) (by decide) (by decide)))
  have K28 : Keep h0 h22 [x0] := K17.wr W22 (Or.inl (List.mem_of_getElem? (i := 0) rfl))
  have Z29 : n0 ≤ h22.size := Nat.le_trans Z18 (Keep.of_wr W22).1
  have N30 := Fr.snoc X22 N19 p_5
  refine own_step (st' := T22.setTop (mkF m 25 #[.val (.ref x0), .val (.ref x1)] [])) st22 ?_
  refine own_ret X22 Bd.notSynchronized (none) (fun _ => rfl) (fun fs hr => X22.returnOut hx Bd.returns (hb hby d25_25) hr) ?_ (by decide) (by decide)
  rw [e22]
  exact ⟨rfl, N30, K28, f26, f23⟩
theorem d24_0 : decode jdk_38_method_55_code 0 = .ok (.new 267, 3) := by decide +kernel
theorem d24_3 : decode jdk_38_method_55_code 3 = .ok (.dup, 1) := by decide +kernel
theorem d24_4 : decode jdk_38_method_55_code 4 = .ok (.aload_n 0, 1) := by decide +kernel
theorem d24_5 : decode jdk_38_method_55_code 5 = .ok (.invokespecial 269, 3) := by decide +kernel
theorem d24_8 : decode jdk_38_method_55_code 8 = .ok (.areturn, 1) := by decide +kernel
theorem ef_24_R (m : MethodId) (x0 : Addr) : entryFrame m #[(.ref x0)] 1 = mkF m 0 #[.val (.ref x0)] [] := by first | (simp [entryFrame, mkF, argsToLocals, Value.category]; done) | rfl
def Q_rm24 (Z : State) (x0 : Addr) (h0 : Heap) (n0 : Nat) (v : Option Value) (h : Heap) (L : List Loc) : Prop := ∃ b : Addr, v = some (.ref b) ∧ Fr n0 L ∧ Keep h0 h [] ∧ h0.size ≤ b ∧ Exa Z h b "java/util/ArrayList$Itr" ∧ Fld Z h b "java/util/ArrayList$Itr" "this$0" "Ljava/util/ArrayList;" (.ref x0) ∧ Fld Z h b "java/util/ArrayList$Itr" "cursor" "I" (.int (0 : Int32))
set_option maxRecDepth 65536 in
set_option maxHeartbeats 40000000 in
theorem rm24 (l : Launch) (Z : State) (a0 : Array Value) (hw : ∀ d ∈ tables_1, d.before a0 Z = true) (ws : List Jvm.Cond) (x0 : Addr) (h0 : Heap) (n0 : Nat) (Z0 : n0 ≤ h0.size) (p_0 : Fld Z h0 x0 "java/util/AbstractList" "modCount" "I" (.int (0 : Int32))) :
    MetFree l (⟨"java/util/ArrayList", "iterator", "()Ljava/util/Iterator;"⟩ : MethodName) (head1 (Jvm.Cond.code (⟨"java/util/ArrayList", "iterator", "()Ljava/util/Iterator;"⟩ : MethodName) jdk_38_method_55_code 1 (some (.object "java/util/Iterator")) :: ws) ({ frames := 2, cells := 1, slots := 4, locals := 26 } : Room)) (fun a U => a = #[(.ref x0)] ∧ Z.Warmed39 U.vm ∧ U.heap = h0) (fun _ _ _ _ _ => True) (fun _ U o U' => ∃ v L, o = .returned v ∧ Q_rm24 Z x0 h0 n0 v U'.heap L ∧ FrameEnd U o U' L ({ frames := 2, cells := 1, slots := 4, locals := 26 } : Room).cells ({ frames := 2, cells := 1, slots := 4, locals := 26 } : Room).slots) := by
  refine MetFree.of_bodySF (plainFor_of_name pn_9) hisR ?_
  intro p e s m args below meth c s₁ Bd hml0 hP hK
  obtain ⟨rfl, hZ, hh⟩ := hP
  have hx := Bd.exec
  have hby := Bd.bytes
  have hml : c.maxLocals = 1 := hml0
  have hown : s.vm.findClass "java/util/ArrayList" = some m.cls := findClass_of_methodNamed Bd.named
  have hnm := (name_of_methodNamed Bd.named Bd.method).1
  have X0 : Stand p l e ({ frames := 2, cells := 1, slots := 4, locals := 26 } : Room) s m #[(.ref x0)] below meth c s₁ [] 0 0 := Stand.of_body Bd
  have e0 : s₁.heap = h0 := by rw [← hh, Bd.state]; rfl
  have N0 := Fr.nil n0
  show own_Ends p e below s ({ frames := 2, cells := 1, slots := 4, locals := 26 } : Room).cells ({ frames := 2, cells := 1, slots := 4, locals := 26 } : Room).slots (Q_rm24 Z x0 h0 n0) (s₁.setTop (entryFrame m #[(.ref x0)] 1))
  rw [ef_24_R]
  obtain ⟨T1, h1, X1, e1, E1, A1, D1, -, st1⟩ := newO X0 hx hZ hown (hw _ (List.mem_of_getElem? (i := 177) rfl)) (hw _ (List.mem_of_getElem? (i := 178) rfl)) (hw _ (List.mem_of_getElem? (i := 179) rfl)) e0 (g := (mkF m 0 #[.val (.ref x0)] [])) rfl (hb hby d24_0) (by decide) (by decide)
  obtain ⟨b1, g1⟩ : ∃ z, z = h0.size := ⟨_, rfl⟩
  rw [← g1] at A1 D1 st1
  have ne2 : x0 ≠ b1 := Nat.ne_of_lt (Nat.lt_of_lt_of_le p_0.lt (Nat.le_of_eq g1.symm))
  have g_b1 : n0 ≤ b1 := Nat.le_trans Z0 (Nat.le_of_eq g1.symm)
  have sz_b1 : h0.size ≤ b1 := Nat.le_trans (Keep.refl h0 []).1 (Nat.le_of_eq g1.symm)
  have f3 := p_0.ext E1
  have K4 : Keep h0 h1 [] := (Keep.refl h0 []).ext E1
  have Z5 : n0 ≤ h1.size := Nat.le_trans Z0 E1.1
  have f6 : Fld Z h1 b1 "java/util/ArrayList$Itr" "this$0" "Ljava/util/ArrayList;" .null := D1 (Or.inr (hw _ (List.mem_of_getElem? (i := 185) rfl))) (ty := (.object "java/util/ArrayList")) (by decide)
  have f7 : Fld Z h1 b1 "java/util/ArrayList$Itr" "lastRet" "I" (.int (0 : Int32)) := D1 (Or.inl (hw _ (List.mem_of_getElem? (i := 188) rfl))) (ty := .int) (by decide)
  have f8 : Fld Z h1 b1 "java/util/ArrayList$Itr" "expectedModCount" "I" (.int (0 : Int32)) := D1 (Or.inl (hw _ (List.mem_of_getElem? (i := 192) rfl))) (ty := .int) (by decide)
  have f9 : Fld Z h1 b1 "java/util/ArrayList$Itr" "cursor" "I" (.int (0 : Int32)) := D1 (Or.inl (hw _ (List.mem_of_getElem? (i := 203) rfl))) (ty := .int) (by decide)
  refine own_step (st' := T1.setTop (mkF m 3 #[.val (.ref x0)] [(.ref b1)])) st1 ?_
  refine own_step (st' := T1.setTop (mkF m 4 #[.val (.ref x0)] [(.ref b1), (.ref b1)])) (fun t k => XS.dup X1.here hx rfl (hb hby d24_3) rfl rfl k) ?_
  refine own_step (st' := T1.setTop (mkF m 5 #[.val (.ref x0)] [(.ref x0), (.ref b1), (.ref b1)])) (fun t k => XS.aloadN X1.here hx rfl (hb hby d24_4) rfl rfl k) ?_
  obtain ⟨_, _, ⟨T10, L10, k10, n10⟩, -, X10, ⟨Lc10, hQ10, l10, y10, z10⟩, st10⟩ := X1.specialBack hx (y := (⟨"java/util/ArrayList$Itr", "<init>", "(Ljava/util/ArrayList;)V"⟩ : MethodName)) rfl hown (mvT hZ (hw _ (List.mem_of_getElem? (i := 180) rfl))) (mvT hZ (hw _ (List.mem_of_getElem? (i := 181) rfl))) (mvT hZ (hw _ (List.mem_of_getElem? (i := 183) rfl))) (by decide) (backOf (W := 1) (rm25 l Z a0 hw [] b1 x0 h1 n0 Z5 f6 f7 f8 f9 A1 g_b1 ne2 f3) hZ (hw _ (List.mem_of_getElem? (i := 183) rfl)) (hw _ (List.mem_of_getElem? (i := 179) rfl)) (by decide) (by decide)) (g := (mkF m 5 #[.val (.ref x0)] [(.ref x0), (.ref b1), (.ref b1)])) rfl (by rw [hml]; rfl) (Steps.refl _) (a := b1) (argsL := [(.ref x0)]) (rest := [(.ref b1)]) (lenOf pd_13 rfl) rfl (by show 2 * 0 + _ ≤ _; exact Nat.le_of_eq rfl) (hb hby d24_5) (fun _ _ => ⟨rfl, e1, (by decide : 1 + 0 ≤ _), (by decide : 4 + 0 ≤ _)⟩)
  dsimp only [Pt.U, Pt.locs, Pt.cells, Pt.slots] at X10 l10 y10 z10 st10 hQ10
  subst l10 y10 z10
  obtain ⟨rfl, N10q, K10, pq10_0, pq10_1⟩ := hQ10
  have N10 := Fr.app N0 N10q
  obtain ⟨h10, e10⟩ : ∃ z, T10.heap = z := ⟨_, rfl⟩
  rw [e10] at K10 pq10_0 pq10_1
  have f11 := f3.keep K10 (ninS ne2 nin0)
  have f12 := A1.keep K10
  have K13 : Keep h0 h10 [] := K4.trans K10 (allS (Or.inr sz_b1) all0)
  have Z14 : n0 ≤ h10.size := Nat.le_trans Z5 K10.1
  refine own_step (st' := T10.setTop (mkF m 8 #[.val (.ref x0)] [(.ref b1)])) (fun t k => st10.trans k) ?_
  refine own_ret X10 Bd.notSynchronized (some (.ref b1)) (fun h => by rw [Bd.returns] at h; cases h) (fun fs hr => retOut X10 hx Bd.returns rfl (Or.inr (Or.inr (Or.inr (Or.inr ⟨rfl, rfl, rfl⟩)))) (hb hby d24_8) hr) ?_ (by decide) (by decide)
  rw [e10]
  exact ⟨b1, rfl, N10, K13, sz_b1, f12, pq10_0, pq10_1⟩
theorem d26_0 : decode jdk_49_method_2_code 0 = .ok (.aload_n 0, 1) := by decide +kernel
theorem d26_1 : decode jdk_49_method_2_code 1 = .ok (.getfield 25, 3) := by decide +kernel
theorem d26_4 : decode jdk_49_method_2_code 4 = .ok (.aload_n 0, 1) := by decide +kernel
theorem d26_5 : decode jdk_49_method_2_code 5 = .ok (.getfield 1, 3) := by decide +kernel
theorem d26_8 : decode jdk_49_method_2_code 8 = .ok (.getfield 28, 3) := by decide +kernel
theorem d26_11 : decode jdk_49_method_2_code 11 = .ok (.if_icmp .eq 7, 3) := by decide +kernel
theorem d26_18 : decode jdk_49_method_2_code 18 = .ok (.iconst 0, 1) := by decide +kernel
theorem d26_19 : decode jdk_49_method_2_code 19 = .ok (.ireturn, 1) := by decide +kernel
theorem ef_26_R (m : MethodId) (x0 : Addr) : entryFrame m #[(.ref x0)] 1 = mkF m 0 #[.val (.ref x0)] [] := by first | (simp [entryFrame, mkF, argsToLocals, Value.category]; done) | rfl
def Q_rm26 (Z : State) (x0 : Addr) (y : Addr) (h0 : Heap) (n0 : Nat) (v : Option Value) (h : Heap) (L : List Loc) : Prop := v = some (.int (0 : Int32)) ∧ Fr n0 L ∧ h = h0
set_option maxRecDepth 65536 in
set_option maxHeartbeats 40000000 in
theorem rm26 (l : Launch) (Z : State) (a0 : Array Value) (hw : ∀ d ∈ tables_1, d.before a0 Z = true) (ws : List Jvm.Cond) (x0 : Addr) (y : Addr) (h0 : Heap) (n0 : Nat) (Z0 : n0 ≤ h0.size) (p_0 : Fld Z h0 x0 "java/util/ArrayList$Itr" "this$0" "Ljava/util/ArrayList;" (.ref y)) (p_1 : Fld Z h0 x0 "java/util/ArrayList$Itr" "cursor" "I" (.int (0 : Int32))) (p_2 : Fld Z h0 y "java/util/ArrayList" "size" "I" (.int (0 : Int32))) :
    MetFree l (⟨"java/util/ArrayList$Itr", "hasNext", "()Z"⟩ : MethodName) (head1 (Jvm.Cond.code (⟨"java/util/ArrayList$Itr", "hasNext", "()Z"⟩ : MethodName) jdk_49_method_2_code 1 (some .boolean) :: ws) ({ frames := 0, cells := 0, slots := 0, locals := 0 } : Room)) (fun a U => a = #[(.ref x0)] ∧ Z.Warmed39 U.vm ∧ U.heap = h0) (fun _ _ _ _ _ => True) (fun _ U o U' => ∃ v L, o = .returned v ∧ Q_rm26 Z x0 y h0 n0 v U'.heap L ∧ FrameEnd U o U' L ({ frames := 0, cells := 0, slots := 0, locals := 0 } : Room).cells ({ frames := 0, cells := 0, slots := 0, locals := 0 } : Room).slots) := by
  refine MetFree.of_bodySF (plainFor_of_name pn_10) hisR ?_
  intro p e s m args below meth c s₁ Bd hml0 hP hK
  obtain ⟨rfl, hZ, hh⟩ := hP
  have hx := Bd.exec
  have hby := Bd.bytes
  have hml : c.maxLocals = 1 := hml0
  have hown : s.vm.findClass "java/util/ArrayList$Itr" = some m.cls := findClass_of_methodNamed Bd.named
  have hnm := (name_of_methodNamed Bd.named Bd.method).1
  have X0 : Stand p l e ({ frames := 0, cells := 0, slots := 0, locals := 0 } : Room) s m #[(.ref x0)] below meth c s₁ [] 0 0 := Stand.of_body Bd
  have e0 : s₁.heap = h0 := by rw [← hh, Bd.state]; rfl
  have N0 := Fr.nil n0
  show own_Ends p e below s ({ frames := 0, cells := 0, slots := 0, locals := 0 } : Room).cells ({ frames := 0, cells := 0, slots := 0, locals := 0 } : Room).slots (Q_rm26 Z x0 y h0 n0) (s₁.setTop (entryFrame m #[(.ref x0)] 1))
  rw [ef_26_R]
  refine own_step (st' := s₁.setTop (mkF m 1 #[.val (.ref x0)] [(.ref x0)])) (fun t k => XS.aloadN X0.here hx rfl (hb hby d26_0) rfl rfl k) ?_
  obtain ⟨T1, X1, e1, st1⟩ := getF X0 hx hZ hown (host := "") (Or.inl (hw _ (List.mem_of_getElem? (i := 202) rfl))) Via.refl e0 p_1 (g := (mkF m 1 #[.val (.ref x0)] [(.ref x0)])) rfl rfl (hb hby d26_1)
  refine own_step (st' := T1.setTop (mkF m 4 #[.val (.ref x0)] [(.int (0 : Int32))])) st1 ?_
  refine own_step (st' := T1.setTop (mkF m 5 #[.val (.ref x0)] [(.ref x0), (.int (0 : Int32))])) (fun t k => XS.aloadN X1.here hx rfl (hb hby d26_4) rfl rfl k) ?_
  obtain ⟨T2, X2, e2, st2⟩ := getF X1 hx hZ hown (host := "") (Or.inl (hw _ (List.mem_of_getElem? (i := 184) rfl))) Via.refl e1 p_0 (g := (mkF m 5 #[.val (.ref x0)] [(.ref x0), (.int (0 : Int32))])) rfl rfl (hb hby d26_5)
  refine own_step (st' := T2.setTop (mkF m 8 #[.val (.ref x0)] [(.ref y), (.int (0 : Int32))])) st2 ?_
  obtain ⟨T3, X3, e3, st3⟩ := getF X2 hx hZ hown (Or.inr (hw _ (List.mem_of_getElem? (i := 204) rfl))) Via.refl e2 p_2 (g := (mkF m 8 #[.val (.ref x0)] [(.ref y), (.int (0 : Int32))])) rfl rfl (hb hby d26_8)
  refine own_step (st' := T3.setTop (mkF m 11 #[.val (.ref x0)] [(.int (0 : Int32)), (.int (0 : Int32))])) st3 ?_
  refine own_step (st' := T3.setTop (mkF m 18 #[.val (.ref x0)] [])) (fun t k => XS.icmpYes X3.here hx rfl (pc0 := 11) (pc' := 18) rfl (hb hby d26_11) rfl (teq (by decide)).1 (by decide) (by decide) k) ?_
  refine own_step (st' := T3.setTop (mkF m 19 #[.val (.ref x0)] [(.int (0 : Int32))])) (fun t k => XS.iconst X3.here hx rfl (hb hby d26_18) k) ?_
  refine own_ret X3 Bd.notSynchronized (some (.int (0 : Int32))) (fun h => by rw [Bd.returns] at h; cases h) (fun fs hr => retN X3 hx (t := .boolean) Bd.returns (by simp) (hb hby d26_19) hr) ?_ (by decide) (by decide)
  rw [e3]
  exact ⟨rfl, N0, rfl⟩
theorem d14_0 : decode prog_56_method_5_code 0 = .ok (.lload_n 1, 1) := by decide +kernel
theorem d14_1 : decode prog_56_method_5_code 1 = .ok (.aload_n 0, 1) := by decide +kernel
theorem d14_2 : decode prog_56_method_5_code 2 = .ok (.getfield 16, 3) := by decide +kernel
theorem d14_5 : decode prog_56_method_5_code 5 = .ok (.lcmp, 1) := by decide +kernel
theorem d14_6 : decode prog_56_method_5_code 6 = .ok (.ifCond .gt 4, 3) := by decide +kernel
theorem d14_9 : decode prog_56_method_5_code 9 = .ok (.return_, 1) := by decide +kernel
theorem d14_10 : decode prog_56_method_5_code 10 = .ok (.aload_n 0, 1) := by decide +kernel
theorem d14_11 : decode prog_56_method_5_code 11 = .ok (.lload_n 1, 1) := by decide +kernel
theorem d14_12 : decode prog_56_method_5_code 12 = .ok (.putfield 16, 3) := by decide +kernel
theorem d14_15 : decode prog_56_method_5_code 15 = .ok (.new 29, 3) := by decide +kernel
theorem d14_18 : decode prog_56_method_5_code 18 = .ok (.dup, 1) := by decide +kernel
theorem d14_19 : decode prog_56_method_5_code 19 = .ok (.aload_n 0, 1) := by decide +kernel
theorem d14_20 : decode prog_56_method_5_code 20 = .ok (.getfield 10, 3) := by decide +kernel
theorem d14_23 : decode prog_56_method_5_code 23 = .ok (.invokespecial 31, 3) := by decide +kernel
theorem d14_26 : decode prog_56_method_5_code 26 = .ok (.astore_n 3, 1) := by decide +kernel
theorem d14_27 : decode prog_56_method_5_code 27 = .ok (.aload_n 0, 1) := by decide +kernel
theorem d14_28 : decode prog_56_method_5_code 28 = .ok (.getfield 10, 3) := by decide +kernel
theorem d14_31 : decode prog_56_method_5_code 31 = .ok (.invokeinterface 34 1, 5) := by decide +kernel
theorem d14_36 : decode prog_56_method_5_code 36 = .ok (.aload_n 3, 1) := by decide +kernel
theorem d14_37 : decode prog_56_method_5_code 37 = .ok (.invokeinterface 37 1, 5) := by decide +kernel
theorem d14_42 : decode prog_56_method_5_code 42 = .ok (.astore 4, 2) := by decide +kernel
theorem d14_44 : decode prog_56_method_5_code 44 = .ok (.aload 4, 2) := by decide +kernel
theorem d14_46 : decode prog_56_method_5_code 46 = .ok (.invokeinterface 43 1, 5) := by decide +kernel
theorem d14_51 : decode prog_56_method_5_code 51 = .ok (.ifCond .eq 23, 3) := by decide +kernel
theorem d14_74 : decode prog_56_method_5_code 74 = .ok (.return_, 1) := by decide +kernel
theorem ef_14_RJ (m : MethodId) (x0 : Addr) (x1 : Int64) : entryFrame m #[(.ref x0), (.long x1)] 6 = mkF m 0 #[.val (.ref x0), .val (.long x1), .second, .unset, .unset, .unset] [] := by first | (simp [entryFrame, mkF, argsToLocals, Value.category]; done) | rfl
def Q_rm14 (Z : State) (x0 : Addr) (x1 : Int64) (n : Int64) (q : Addr) (b : Addr) (dd : Addr) (h0 : Heap) (n0 : Nat) (v : Option Value) (h : Heap) (L : List Loc) : Prop := v = none ∧ Fr n0 L ∧ Keep h0 h [x0, b] ∧ Fld Z h x0 "com/example/alert_tree/alerttree/server/OutputGate" "durableZxid" "J" (.long (if n < x1 then x1 else n))
set_option maxRecDepth 65536 in
set_option maxHeartbeats 40000000 in
theorem rm14 (l : Launch) (Z : State) (a0 : Array Value) (hw : ∀ d ∈ tables_1, d.before a0 Z = true) (ws : List Jvm.Cond) (x0 : Addr) (x1 : Int64) (n : Int64) (q : Addr) (b : Addr) (dd : Addr) (h0 : Heap) (n0 : Nat) (Z0 : n0 ≤ h0.size) (O0 : Old Z n0 h0) (p_0 : Fld Z h0 x0 "com/example/alert_tree/alerttree/server/OutputGate" "durableZxid" "J" (.long n)) (p_1 : Exa Z h0 x0 "com/example/alert_tree/alerttree/server/OutputGate") (p_2 : n0 ≤ x0) (p_3 : Sta Z Z.heap "java/util/ArrayList" "EMPTY_ELEMENTDATA" "[Ljava/lang/Object;" (.ref dd)) (p_4 : q ≠ x0) (p_5 : b ≠ x0) (p_6 : q ≠ b) (p_7 : n0 ≤ b) (p_8 : Fld Z h0 x0 "com/example/alert_tree/alerttree/server/OutputGate" "waiting" "Ljava/util/Set;" (.ref q)) (p_9 : Exa Z h0 q "java/util/LinkedHashSet") (p_10 : Fld Z h0 q "java/util/HashSet" "map" "Ljava/util/HashMap;" (.ref b)) (p_11 : Exa Z h0 b "java/util/LinkedHashMap") (p_12 : Fld Z h0 b "java/util/HashMap" "size" "I" (.int (0 : Int32))) (p_13 : Fld Z h0 b "java/util/LinkedHashMap" "head" "Ljava/util/LinkedHashMap$Entry;" .null) (p_14 : Fld Z h0 b "java/util/LinkedHashMap" "tail" "Ljava/util/LinkedHashMap$Entry;" .null) (p_15 : Fld Z h0 b "java/util/HashMap" "modCount" "I" (.int (0 : Int32))) (p_16 : Fld Z h0 b "java/util/HashMap" "table" "[Ljava/util/HashMap$Node;" .null) :
    MetFree l (⟨"com/example/alert_tree/alerttree/server/OutputGate", "open", "(J)V"⟩ : MethodName) (head1 (Jvm.Cond.code (⟨"com/example/alert_tree/alerttree/server/OutputGate", "open", "(J)V"⟩ : MethodName) prog_56_method_5_code 6 none :: ws) ({ frames := 4, cells := 3, slots := 7, locals := 57 } : Room)) (fun a U => a = #[(.ref x0), (.long x1)] ∧ Z.Warmed39 U.vm ∧ U.heap = h0) (fun _ _ _ _ _ => True) (fun _ U o U' => ∃ v L, o = .returned v ∧ Q_rm14 Z x0 x1 n q b dd h0 n0 v U'.heap L ∧ FrameEnd U o U' L ({ frames := 4, cells := 3, slots := 7, locals := 57 } : Room).cells ({ frames := 4, cells := 3, slots := 7, locals := 57 } : Room).slots) := by
  refine MetFree.of_bodySF (plainFor_of_name pn_0) hisR ?_
  intro p e s m args below meth c s₁ Bd hml0 hP hK
  obtain ⟨rfl, hZ, hh⟩ := hP
  have hx := Bd.exec
  have hby := Bd.bytes
  have hml : c.maxLocals = 6 := hml0
  have hown : s.vm.findClass "com/example/alert_tree/alerttree/server/OutputGate" = some m.cls := findClass_of_methodNamed Bd.named
  have hnm := (name_of_methodNamed Bd.named Bd.method).1
  have X0 : Stand p l e ({ frames := 4, cells := 3, slots := 7, locals := 57 } : Room) s m #[(.ref x0), (.long x1)] below meth c s₁ [] 0 0 := Stand.of_body Bd
  have e0 : s₁.heap = h0 := by rw [← hh, Bd.state]; rfl
  have N0 := Fr.nil n0
  show own_Ends p e below s ({ frames := 4, cells := 3, slots := 7, locals := 57 } : Room).cells ({ frames := 4, cells := 3, slots := 7, locals := 57 } : Room).slots (Q_rm14 Z x0 x1 n q b dd h0 n0) (s₁.setTop (entryFrame m #[(.ref x0), (.long x1)] 6))
  rw [ef_14_RJ]
  refine own_step (st' := s₁.setTop (mkF m 1 #[.val (.ref x0), .val (.long x1), .second, .unset, .unset, .unset] [(.long x1)])) (fun t k => XS.lloadN X0.here hx rfl (hb hby d14_0) rfl k) ?_
  refine own_step (st' := s₁.setTop (mkF m 2 #[.val (.ref x0), .val (.long x1), .second, .unset, .unset, .unset] [(.ref x0), (.long x1)])) (fun t k => XS.aloadN X0.here hx rfl (hb hby d14_1) rfl rfl k) ?_
  obtain ⟨T1, X1, e1, st1⟩ := getF X0 hx hZ hown (host := "") (Or.inl (hw _ (List.mem_of_getElem? (i := 80) rfl))) Via.refl e0 p_0 (g := (mkF m 2 #[.val (.ref x0), .val (.long x1), .second, .unset, .unset, .unset] [(.ref x0), (.long x1)])) rfl rfl (hb hby d14_2)
  refine own_step (st' := T1.setTop (mkF m 5 #[.val (.ref x0), .val (.long x1), .second, .unset, .unset, .unset] [(.long n), (.long x1)])) st1 ?_
  refine own_step (st' := T1.setTop (mkF m 6 #[.val (.ref x0), .val (.long x1), .second, .unset, .unset, .unset] [(.int (lcmpW x1 n))])) (fun t k => XS.lcmp X1.here hx rfl (hb hby d14_5) rfl k) ?_
  by_cases hc2 : n < x1
  · refine own_step (st' := T1.setTop (mkF m 10 #[.val (.ref x0), .val (.long x1), .second, .unset, .unset, .unset] [])) (fun t k => XS.ifYes X1.here hx rfl (pc0 := 6) (pc' := 10) rfl (hb hby d14_6) rfl ((if0 _ _).trans (tlt ((lw_gt _ _).mpr hc2)).2.2.1) (by decide) (by decide) k) ?_
    refine own_step (st' := T1.setTop (mkF m 11 #[.val (.ref x0), .val (.long x1), .second, .unset, .unset, .unset] [(.ref x0)])) (fun t k => XS.aloadN X1.here hx rfl (hb hby d14_10) rfl rfl k) ?_
    refine own_step (st' := T1.setTop (mkF m 12 #[.val (.ref x0), .val (.long x1), .second, .unset, .unset, .unset] [(.long x1), (.ref x0)])) (fun t k => XS.lloadN X1.here hx rfl (hb hby d14_11) rfl k) ?_
    obtain ⟨T3, h3, X3, e3, W3, st3⟩ := putF X1 hx hZ hown (host := "") (Or.inl (hw _ (List.mem_of_getElem? (i := 80) rfl))) Via.refl e1 p_0 p_1 (Or.inl (hw _ (List.mem_of_getElem? (i := 81) rfl))) (hw _ (List.mem_of_getElem? (i := 1) rfl)) (ty := .long) (by decide) rfl rfl (g := (mkF m 12 #[.val (.ref x0), .val (.long x1), .second, .unset, .unset, .unset] [(.long x1), (.ref x0)])) rfl rfl (hb hby d14_12)
    have F3 := p_0.same W3
    have f4 := p_1.wr W3
    have f5 := p_8.other W3 (Or.inr (slot_ne (Or.inr (hw _ (List.mem_of_getElem? (i := 79) rfl))) (Or.inl (hw _ (List.mem_of_getElem? (i := 81) rfl))) (by decide) (t := (.object "java/util/Set")) (t' := .long) (by decide) (by decide)))
    have f6 := p_9.wr W3
    have f7 := p_10.other W3 (Or.inl p_4)
    have f8 := p_11.wr W3
    have f9 := p_12.other W3 (Or.inl p_5)
    have f10 := p_13.other W3 (Or.inl p_5)
    have f11 := p_14.other W3 (Or.inl p_5)
    have f12 := p_15.other W3 (Or.inl p_5)
    have f13 := p_16.other W3 (Or.inl p_5)
    have O14 := O0.wr W3 p_2
    have K15 : Keep h0 h3 [x0, b] := (Keep.refl h0 [x0, b]).wr W3 (Or.inl (List.mem_of_getElem? (i := 0) rfl))
    have Z16 : n0 ≤ h3.size := Nat.le_trans Z0 (Keep.of_wr W3).1
    have N17 := Fr.snoc X3 N0 p_2
    refine own_step (st' := T3.setTop (mkF m 15 #[.val (.ref x0), .val (.long x1), .second, .unset, .unset, .unset] [])) st3 ?_
    obtain ⟨T18, h18, X18, e18, E18, A18, D18, -, st18⟩ := newO X3 hx hZ hown (hw _ (List.mem_of_getElem? (i := 92) rfl)) (hw _ (List.mem_of_getElem? (i := 93) rfl)) (hw _ (List.mem_of_getElem? (i := 94) rfl)) e3 (g := (mkF m 15 #[.val (.ref x0), .val (.long x1), .second, .unset, .unset, .unset] [])) rfl (hb hby d14_15) (by decide) (by decide)
    obtain ⟨b18, g18⟩ : ∃ z, z = h3.size := ⟨_, rfl⟩
    rw [← g18] at A18 D18 st18
    have ne19 : x0 ≠ b18 := Nat.ne_of_lt (Nat.lt_of_lt_of_le f4.lt (Nat.le_of_eq g18.symm))
    have ne20 : q ≠ b18 := Nat.ne_of_lt (Nat.lt_of_lt_of_le f6.lt (Nat.le_of_eq g18.symm))
    have ne21 : b ≠ b18 := Nat.ne_of_lt (Nat.lt_of_lt_of_le f8.lt (Nat.le_of_eq g18.symm))
    have g_b18 : n0 ≤ b18 := Nat.le_trans Z16 (Nat.le_of_eq g18.symm)
    have sz_b18 : h0.size ≤ b18 := Nat.le_trans K15.1 (Nat.le_of_eq g18.symm)
    have f22 := f4.ext E18
    have f23 := f5.ext E18
    have f24 := f6.ext E18
    have f25 := f7.ext E18
    have f26 := f8.ext E18
    have f27 := f9.ext E18
    have f28 := f10.ext E18
    have f29 := f11.ext E18
    have f30 := f12.ext E18
    have f31 := f13.ext E18
    have f32 := F3.ext E18
    have O33 := O14.ext E18
    have K34 : Keep h0 h18 [x0, b] := K15.ext E18
    have Z35 : n0 ≤ h18.size := Nat.le_trans Z16 E18.1
    have f36 : Fld Z h18 b18 "java/util/AbstractList" "modCount" "I" (.int (0 : Int32)) := D18 (Or.inl (hw _ (List.mem_of_getElem? (i := 107) rfl))) (ty := .int) (by decide)
    have f37 : Fld Z h18 b18 "java/util/ArrayList" "size" "I" (.int (0 : Int32)) := D18 (Or.inl (hw _ (List.mem_of_getElem? (i := 140) rfl))) (ty := .int) (by decide)
    have f38 : Fld Z h18 b18 "java/util/ArrayList" "elementData" "[Ljava/lang/Object;" .null := D18 (Or.inl (hw _ (List.mem_of_getElem? (i := 143) rfl))) (ty := (.array (.object "java/lang/Object"))) (by decide)
    refine own_step (st' := T18.setTop (mkF m 18 #[.val (.ref x0), .val (.long x1), .second, .unset, .unset, .unset] [(.ref b18)])) st18 ?_
    refine own_step (st' := T18.setTop (mkF m 19 #[.val (.ref x0), .val (.long x1), .second, .unset, .unset, .unset] [(.ref b18), (.ref b18)])) (fun t k => XS.dup X18.here hx rfl (hb hby d14_18) rfl rfl k) ?_
    refine own_step (st' := T18.setTop (mkF m 20 #[.val (.ref x0), .val (.long x1), .second, .unset, .unset, .unset] [(.ref x0), (.ref b18), (.ref b18)])) (fun t k => XS.aloadN X18.here hx rfl (hb hby d14_19) rfl rfl k) ?_
    obtain ⟨T39, X39, e39, st39⟩ := getF X18 hx hZ hown (host := "") (Or.inl (hw _ (List.mem_of_getElem? (i := 78) rfl))) Via.refl e18 f23 (g := (mkF m 20 #[.val (.ref x0), .val (.long x1), .second, .unset, .unset, .unset] [(.ref x0), (.ref b18), (.ref b18)])) rfl rfl (hb hby d14_20)
    refine own_step (st' := T39.setTop (mkF m 23 #[.val (.ref x0), .val (.long x1), .second, .unset, .unset, .unset] [(.ref q), (.ref b18), (.ref b18)])) st39 ?_
    obtain ⟨_, _, ⟨T40, L40, k40, n40⟩, -, X40, ⟨Lc40, hQ40, l40, y40, z40⟩, st40⟩ := X39.specialBack hx (y := (⟨"java/util/ArrayList", "<init>", "(Ljava/util/Collection;)V"⟩ : MethodName)) rfl hown (mvT hZ (hw _ (List.mem_of_getElem? (i := 95) rfl))) (mvT hZ (hw _ (List.mem_of_getElem? (i := 96) rfl))) (mvT hZ (hw _ (List.mem_of_getElem? (i := 97) rfl))) (by decide) (backOf (W := 1) (rm15 l Z a0 hw [] b18 q dd b h18 n0 Z35 O33 f36 f37 f38 A18 g_b18 p_3 ne20 ne21 f24 f25 f26 f27 f28) hZ (hw _ (List.mem_of_getElem? (i := 97) rfl)) (hw _ (List.mem_of_getElem? (i := 94) rfl)) (by decide) (by decide)) (g := (mkF m 23 #[.val (.ref x0), .val (.long x1), .second, .unset, .unset, .unset] [(.ref q), (.ref b18), (.ref b18)])) rfl (by rw [hml]; rfl) (Steps.refl _) (a := b18) (argsL := [(.ref q)]) (rest := [(.ref b18)]) (lenOf pd_7 rfl) rfl (by show 2 * 0 + _ ≤ _; exact Nat.le_of_eq rfl) (hb hby d14_23) (fun _ _ => ⟨rfl, e39, (by decide : 1 + 1 ≤ _), (by decide : 3 + 0 ≤ _)⟩)
    dsimp only [Pt.U, Pt.locs, Pt.cells, Pt.slots] at X40 l40 y40 z40 st40 hQ40
    subst l40 y40 z40
    obtain ⟨rfl, N40q, K40, pq40_0, pq40_1⟩ := hQ40
    have N40 := Fr.app N17 N40q
    obtain ⟨h40, e40⟩ : ∃ z, T40.heap = z := ⟨_, rfl⟩
    rw [e40] at K40 pq40_0 pq40_1
    have f41 := f22.keep K40
    have f42 := f23.keep K40 (ninS ne19 nin0)
    have f43 := f24.keep K40
    have f44 := f25.keep K40 (ninS ne20 nin0)
    have f45 := f26.keep K40
    have f46 := f27.keep K40 (ninS ne21 nin0)
    have f47 := f28.keep K40 (ninS ne21 nin0)
    have f48 := f29.keep K40 (ninS ne21 nin0)
    have f49 := f30.keep K40 (ninS ne21 nin0)
    have f50 := f31.keep K40 (ninS ne21 nin0)
    have f51 := f32.keep K40 (ninS ne19 nin0)
    have f52 := A18.keep K40
    have O53 := O33.keep K40 (allS g_b18 all0)
    have K54 : Keep h0 h40 [x0, b] := K34.trans K40 (allS (Or.inr sz_b18) all0)
    have Z55 : n0 ≤ h40.size := Nat.le_trans Z35 K40.1
    refine own_step (st' := T40.setTop (mkF m 26 #[.val (.ref x0), .val (.long x1), .second, .unset, .unset, .unset] [(.ref b18)])) (fun t k => st40.trans k) ?_
    refine own_step (st' := T40.setTop (mkF m 27 #[.val (.ref x0), .val (.long x1), .second, .val (.ref b18), .unset, .unset] [])) (fun t k => XS.astoreN X40.here hx rfl (hb hby d14_26) rfl rfl (l' := #[.val (.ref x0), .val (.long x1), .second, .val (.ref b18), .unset, .unset]) rfl k) ?_
    refine own_step (st' := T40.setTop (mkF m 28 #[.val (.ref x0), .val (.long x1), .second, .val (.ref b18), .unset, .unset] [(.ref x0)])) (fun t k => XS.aloadN X40.here hx rfl (hb hby d14_27) rfl rfl k) ?_
    obtain ⟨T56, X56, e56, st56⟩ := getF X40 hx hZ hown (host := "") (Or.inl (hw _ (List.mem_of_getElem? (i := 78) rfl))) Via.refl e40 f42 (g := (mkF m 28 #[.val (.ref x0), .val (.long x1), .second, .val (.ref b18), .unset, .unset] [(.ref x0)])) rfl rfl (hb hby d14_28)
    refine own_step (st' := T56.setTop (mkF m 31 #[.val (.ref x0), .val (.long x1), .second, .val (.ref b18), .unset, .unset] [(.ref q)])) st56 ?_
    obtain ⟨cq57, kq57, q57a, q57b, q57c⟩ := isOf hZ e56 f43
    obtain ⟨_, _, ⟨T57, L57, k57, n57⟩, -, X57, ⟨Lc57, hQ57, l57, y57, z57⟩, st57⟩ := X56.interfaceBack hx (xi := (⟨"java/util/Set", "clear", "()V"⟩ : MethodName)) (y := (⟨"java/util/HashSet", "clear", "()V"⟩ : MethodName)) hown (mvT hZ (hw _ (List.mem_of_getElem? (i := 144) rfl))) (mvT hZ (hw _ (List.mem_of_getElem? (i := 145) rfl))) (mvT hZ (hw _ (List.mem_of_getElem? (i := 146) rfl))) (mvT hZ (hw _ (List.mem_of_getElem? (i := 147) rfl))) (mvT hZ (hw _ (List.mem_of_getElem? (i := 148) rfl))) (mvT hZ (hw _ (List.mem_of_getElem? (i := 149) rfl))) (mvT hZ (hw _ (List.mem_of_getElem? (i := 150) rfl))) (mvT hZ (hw _ (List.mem_of_getElem? (i := 151) rfl))) (by decide) (backOf (W := 0) (rm21 l Z a0 hw [] q b (0 : Int32) h40 n0 Z55 f44 f49 f50 f47 f48 f45 p_7) hZ (hw _ (List.mem_of_getElem? (i := 152) rfl)) (hw _ (List.mem_of_getElem? (i := 20) rfl)) (by decide) (by decide)) q57a q57b q57c (g := (mkF m 31 #[.val (.ref x0), .val (.long x1), .second, .val (.ref b18), .unset, .unset] [(.ref q)])) rfl (by rw [hml]; rfl) (Steps.refl _) (argsL := []) (rest := []) (lenOf pd_1 rfl) rfl (by show 2 * 0 + _ ≤ _; exact Nat.le_of_eq rfl) (hb hby d14_31) (fun _ _ => ⟨rfl, e56, (by decide : 2 + 0 ≤ _), (by decide : 3 + 0 ≤ _)⟩)
    dsimp only [Pt.U, Pt.locs, Pt.cells, Pt.slots] at X57 l57 y57 z57 st57 hQ57
    subst l57 y57 z57
    obtain ⟨rfl, N57q, K57⟩ := hQ57
    have N57 := Fr.app N40 N57q
    obtain ⟨h57, e57⟩ : ∃ z, T57.heap = z := ⟨_, rfl⟩
    rw [e57] at K57
    have f58 := f41.keep K57
    have f59 := f42.keep K57 (ninS (Ne.symm p_5) nin0)
    have f60 := f43.keep K57
    have f61 := f44.keep K57 (ninS p_6 nin0)
    have f62 := f45.keep K57
    have f63 := f51.keep K57 (ninS (Ne.symm p_5) nin0)
    have f64 := f52.keep K57
    have f65 := pq40_0.keep K57 (ninS (Ne.symm ne21) nin0)
    have f66 := pq40_1.keep K57 (ninS (Ne.symm ne21) nin0)
    have O67 := O53.keep K57 (allS p_7 all0)
    have K68 : Keep h0 h57 [x0, b] := K54.trans K57 (allS (Or.inl (List.mem_of_getElem? (i := 1) rfl)) all0)
    have Z69 : n0 ≤ h57.size := Nat.le_trans Z55 K57.1
    refine own_step (st' := T57.setTop (mkF m 36 #[.val (.ref x0), .val (.long x1), .second, .val (.ref b18), .unset, .unset] [])) (fun t k => st57.trans k) ?_
    refine own_step (st' := T57.setTop (mkF m 37 #[.val (.ref x0), .val (.long x1), .second, .val (.ref b18), .unset, .unset] [(.ref b18)])) (fun t k => XS.aloadN X57.here hx rfl (hb hby d14_36) rfl rfl k) ?_
    obtain ⟨cq70, kq70, q70a, q70b, q70c⟩ := isOf hZ e57 f64
    obtain ⟨_, _, ⟨T70, L70, k70, n70⟩, -, X70, ⟨Lc70, hQ70, l70, y70, z70⟩, st70⟩ := X57.interfaceBack hx (xi := (⟨"java/util/List", "iterator", "()Ljava/util/Iterator;"⟩ : MethodName)) (y := (⟨"java/util/ArrayList", "iterator", "()Ljava/util/Iterator;"⟩ : MethodName)) hown (mvT hZ (hw _ (List.mem_of_getElem? (i := 168) rfl))) (mvT hZ (hw _ (List.mem_of_getElem? (i := 169) rfl))) (mvT hZ (hw _ (List.mem_of_getElem? (i := 170) rfl))) (mvT hZ (hw _ (List.mem_of_getElem? (i := 171) rfl))) (mvT hZ (hw _ (List.mem_of_getElem? (i := 172) rfl))) (mvT hZ (hw _ (List.mem_of_getElem? (i := 173) rfl))) (mvT hZ (hw _ (List.mem_of_getElem? (i := 174) rfl))) (mvT hZ (hw _ (List.mem_of_getElem? (i := 175) rfl))) (by decide) (backOf (W := 0) (rm24 l Z a0 hw [] b18 h57 n0 Z69 f66) hZ (hw _ (List.mem_of_getElem? (i := 176) rfl)) (hw _ (List.mem_of_getElem? (i := 94) rfl)) (by decide) (by decide)) q70a q70b q70c (g := (mkF m 37 #[.val (.ref x0), .val (.long x1), .second, .val (.ref b18), .unset, .unset] [(.ref b18)])) rfl (by rw [hml]; rfl) (Steps.refl _) (argsL := []) (rest := []) (lenOf pd_12 rfl) rfl (by show 2 * 0 + _ ≤ _; exact Nat.le_of_eq rfl) (hb hby d14_37) (fun _ _ => ⟨rfl, e57, (by decide : 2 + 1 ≤ _), (by decide : 3 + 4 ≤ _)⟩)
    dsimp only [Pt.U, Pt.locs, Pt.cells, Pt.slots] at X70 l70 y70 z70 st70 hQ70
    subst l70 y70 z70
    obtain ⟨b_70, rfl, N70q, K70, pq70_0, pq70_1, pq70_2, pq70_3⟩ := hQ70
    have N70 := Fr.app N57 N70q
    obtain ⟨h70, e70⟩ : ∃ z, T70.heap = z := ⟨_, rfl⟩
    rw [e70] at K70 pq70_1 pq70_2 pq70_3
    have ne71 : x0 ≠ b_70 := Nat.ne_of_lt (Nat.lt_of_lt_of_le f58.lt pq70_0)
    have ne72 : q ≠ b_70 := Nat.ne_of_lt (Nat.lt_of_lt_of_le f60.lt pq70_0)
    have ne73 : b ≠ b_70 := Nat.ne_of_lt (Nat.lt_of_lt_of_le f62.lt pq70_0)
    have ne74 : b18 ≠ b_70 := Nat.ne_of_lt (Nat.lt_of_lt_of_le f64.lt pq70_0)
    have g_b_70 : n0 ≤ b_70 := Nat.le_trans Z69 pq70_0
    have sz_b_70 : h0.size ≤ b_70 := Nat.le_trans K68.1 pq70_0
    have f75 := f58.keep K70
    have f76 := f59.keep K70 nin0
    have f77 := f60.keep K70
    have f78 := f61.keep K70 nin0
    have f79 := f62.keep K70
    have f80 := f63.keep K70 nin0
    have f81 := f64.keep K70
    have f82 := f65.keep K70 nin0
    have f83 := f66.keep K70 nin0
    have O84 := O67.keep K70 all0
    have K85 : Keep h0 h70 [x0, b] := K68.trans K70 all0
    have Z86 : n0 ≤ h70.size := Nat.le_trans Z69 K70.1
    refine own_step (st' := T70.setTop (mkF m 42 #[.val (.ref x0), .val (.long x1), .second, .val (.ref b18), .unset, .unset] [(.ref b_70)])) (fun t k => st70.trans k) ?_
    refine own_step (st' := T70.setTop (mkF m 44 #[.val (.ref x0), .val (.long x1), .second, .val (.ref b18), .val (.ref b_70), .unset] [])) (fun t k => XS.astore X70.here hx rfl (hb hby d14_42) rfl rfl (l' := #[.val (.ref x0), .val (.long x1), .second, .val (.ref b18), .val (.ref b_70), .unset]) rfl k) ?_
    refine own_step (st' := T70.setTop (mkF m 46 #[.val (.ref x0), .val (.long x1), .second, .val (.ref b18), .val (.ref b_70), .unset] [(.ref b_70)])) (fun t k => XS.aload X70.here hx rfl (hb hby d14_44) rfl rfl k) ?_
    obtain ⟨cq87, kq87, q87a, q87b, q87c⟩ := isOf hZ e70 pq70_1
    obtain ⟨_, _, ⟨T87, L87, k87, n87⟩, -, X87, ⟨Lc87, hQ87, l87, y87, z87⟩, st87⟩ := X70.interfaceBack hx (xi := (⟨"java/util/Iterator", "hasNext", "()Z"⟩ : MethodName)) (y := (⟨"java/util/ArrayList$Itr", "hasNext", "()Z"⟩ : MethodName)) hown (mvT hZ (hw _ (List.mem_of_getElem? (i := 193) rfl))) (mvT hZ (hw _ (List.mem_of_getElem? (i := 194) rfl))) (mvT hZ (hw _ (List.mem_of_getElem? (i := 195) rfl))) (mvT hZ (hw _ (List.mem_of_getElem? (i := 196) rfl))) (mvT hZ (hw _ (List.mem_of_getElem? (i := 197) rfl))) (mvT hZ (hw _ (List.mem_of_getElem? (i := 198) rfl))) (mvT hZ (hw _ (List.mem_of_getElem? (i := 199) rfl))) (mvT hZ (hw _ (List.mem_of_getElem? (i := 200) rfl))) (by decide) (backOf (W := 0) (rm26 l Z a0 hw [] b_70 b18 h70 n0 Z86 pq70_2 pq70_3 f82) hZ (hw _ (List.mem_of_getElem? (i := 201) rfl)) (hw _ (List.mem_of_getElem? (i := 179) rfl)) (by decide) (by decide)) q87a q87b q87c (g := (mkF m 46 #[.val (.ref x0), .val (.long x1), .second, .val (.ref b18), .val (.ref b_70), .unset] [(.ref b_70)])) rfl (by rw [hml]; rfl) (Steps.refl _) (argsL := []) (rest := []) (lenOf pd_14 rfl) rfl (by show 2 * 0 + _ ≤ _; exact Nat.le_of_eq rfl) (hb hby d14_46) (fun _ _ => ⟨rfl, e70, (by decide : 3 + 0 ≤ _), (by decide : 7 + 0 ≤ _)⟩)
    dsimp only [Pt.U, Pt.locs, Pt.cells, Pt.slots] at X87 l87 y87 z87 st87 hQ87
    subst l87 y87 z87
    obtain ⟨rfl, N87q, e87⟩ := hQ87
    have N87 := Fr.app N70 N87q
    refine own_step (st' := T87.setTop (mkF m 51 #[.val (.ref x0), .val (.long x1), .second, .val (.ref b18), .val (.ref b_70), .unset] [(.int (0 : Int32))])) (fun t k => st87.trans k) ?_
    refine own_step (st' := T87.setTop (mkF m 74 #[.val (.ref x0), .val (.long x1), .second, .val (.ref b18), .val (.ref b_70), .unset] [])) (fun t k => XS.ifYes X87.here hx rfl (pc0 := 51) (pc' := 74) rfl (hb hby d14_51) rfl ((if0 _ _).trans (teq (by decide)).1) (by decide) (by decide) k) ?_
    refine own_ret X87 Bd.notSynchronized (none) (fun _ => rfl) (fun fs hr => X87.returnOut hx Bd.returns (hb hby d14_74) hr) ?_ (by decide) (by decide)
    rw [e87]
    exact ⟨rfl, N87, K85, (by simpa only [if_pos hc2] using f80)⟩
  · refine own_step (st' := T1.setTop (mkF m 9 #[.val (.ref x0), .val (.long x1), .second, .unset, .unset, .unset] [])) (fun t k => XS.ifNo X1.here hx rfl (hb hby d14_6) rfl ((if0 _ _).trans (flt (fun q => hc2 ((lw_gt _ _).mp q))).2.2.1) k) ?_
    refine own_ret X1 Bd.notSynchronized (none) (fun _ => rfl) (fun fs hr => X1.returnOut hx Bd.returns (hb hby d14_9) hr) ?_ (by decide) (by decide)
    rw [e1]
    exact ⟨rfl, N0, (Keep.refl h0 [x0, b]), (by simpa only [if_neg hc2] using p_0)⟩
theorem pn_1 : plainName "com/example/alert_tree/alerttree/server/OutputGatePassesPinLaw" = true := by first | (simp [plainName, overriddenIn]; done) | decide +kernel
theorem ef_0_JJJ (m : MethodId) (x0 : Int64) (x1 : Int64) (x2 : Int64) : entryFrame m #[(.long x0), (.long x1), (.long x2)] maxLocals = mkF m 0 #[.val (.long x0), .second, .val (.long x1), .second, .val (.long x2), .second, .unset, .unset, .unset, .unset, .unset, .unset, .unset] [] := by first | (simp [entryFrame, mkF, argsToLocals, Value.category, maxLocals]; done) | rfl
def Q_rm0 (Z : State) (x0 : Int64) (x1 : Int64) (x2 : Int64) (dd : Addr) (h0 : Heap) (n0 : Nat) (v : Option Value) (h : Heap) (L : List Loc) : Prop := v = some (.int (1 : Int32)) ∧ Fr n0 L
set_option maxRecDepth 65536 in
set_option maxHeartbeats 40000000 in
theorem rm0 (l : Launch) (Z : State) (a0 : Array Value) (hw : ∀ d ∈ tables_1, d.before a0 Z = true) (ws : List Jvm.Cond) (x0 : Int64) (x1 : Int64) (x2 : Int64) (dd : Addr) (h0 : Heap) (n0 : Nat) (Z0 : n0 ≤ h0.size) (O0 : Old Z n0 h0) (p_0 : Sta Z Z.heap "java/util/ArrayList" "EMPTY_ELEMENTDATA" "[Ljava/lang/Object;" (.ref dd)) :
    MetFree l x (head1 (Jvm.Cond.code x code maxLocals ret :: ws) room_1) (fun a U => a = #[(.long x0), (.long x1), (.long x2)] ∧ Z.Warmed39 U.vm ∧ U.heap = h0) (fun _ _ _ _ _ => True) (fun _ U o U' => ∃ v L, o = .returned v ∧ Q_rm0 Z x0 x1 x2 dd h0 n0 v U'.heap L ∧ FrameEnd U o U' L room_1.cells room_1.slots) := by
  refine MetFree.of_bodySF (plainFor_of_name pn_1) hisR ?_
  intro p e s m args below meth c s₁ Bd hml0 hP hK
  obtain ⟨rfl, hZ, hh⟩ := hP
  have hx := Bd.exec
  have hby := Bd.bytes
  have hml : c.maxLocals = 13 := hml0
  have hown : s.vm.findClass "com/example/alert_tree/alerttree/server/OutputGatePassesPinLaw" = some m.cls := findClass_of_methodNamed Bd.named
  have hnm := (name_of_methodNamed Bd.named Bd.method).1
  have X0 : Stand p l e room_1 s m #[(.long x0), (.long x1), (.long x2)] below meth c s₁ [] 0 0 := Stand.of_body Bd
  have e0 : s₁.heap = h0 := by rw [← hh, Bd.state]; rfl
  have N0 := Fr.nil n0
  show own_Ends p e below s room_1.cells room_1.slots (Q_rm0 Z x0 x1 x2 dd h0 n0) (s₁.setTop (entryFrame m #[(.long x0), (.long x1), (.long x2)] maxLocals))
  rw [ef_0_JJJ]
  obtain ⟨T1, h1, X1, e1, E1, A1, D1, -, st1⟩ := newO X0 hx hZ hown (hw _ (List.mem_of_getElem? (i := 0) rfl)) (hw _ (List.mem_of_getElem? (i := 1) rfl)) (hw _ (List.mem_of_getElem? (i := 2) rfl)) e0 (g := (mkF m 0 #[.val (.long x0), .second, .val (.long x1), .second, .val (.long x2), .second, .unset, .unset, .unset, .unset, .unset, .unset, .unset] [])) rfl (hb hby at_0) (by decide) (by decide)
  obtain ⟨b1, g1⟩ : ∃ z, z = h0.size := ⟨_, rfl⟩
  rw [← g1] at A1 D1 st1
  have g_b1 : n0 ≤ b1 := Nat.le_trans Z0 (Nat.le_of_eq g1.symm)
  have O2 := O0.ext E1
  have Z3 : n0 ≤ h1.size := Nat.le_trans Z0 E1.1
  have f4 : Fld Z h1 b1 "com/example/alert_tree/alerttree/server/OutputGate" "waiting" "Ljava/util/Set;" .null := D1 (Or.inr (hw _ (List.mem_of_getElem? (i := 79) rfl))) (ty := (.object "java/util/Set")) (by decide)
  have f5 : Fld Z h1 b1 "com/example/alert_tree/alerttree/server/OutputGate" "durableZxid" "J" (.long (0 : Int64)) := D1 (Or.inl (hw _ (List.mem_of_getElem? (i := 81) rfl))) (ty := .long) (by decide)
  refine own_step (st' := T1.setTop (mkF m 3 #[.val (.long x0), .second, .val (.long x1), .second, .val (.long x2), .second, .unset, .unset, .unset, .unset, .unset, .unset, .unset] [(.ref b1)])) st1 ?_
  refine own_step (st' := T1.setTop (mkF m 4 #[.val (.long x0), .second, .val (.long x1), .second, .val (.long x2), .second, .unset, .unset, .unset, .unset, .unset, .unset, .unset] [(.ref b1), (.ref b1)])) (fun t k => XS.dup X1.here hx rfl (hb hby at_3) rfl rfl k) ?_
  refine own_step (st' := T1.setTop (mkF m 5 #[.val (.long x0), .second, .val (.long x1), .second, .val (.long x2), .second, .unset, .unset, .unset, .unset, .unset, .unset, .unset] [(.long x0), (.ref b1), (.ref b1)])) (fun t k => XS.lloadN X1.here hx rfl (hb hby at_4) rfl k) ?_
  obtain ⟨_, _, ⟨T6, L6, k6, n6⟩, -, X6, ⟨Lc6, hQ6, l6, y6, z6⟩, st6⟩ := X1.specialBack hx (y := (⟨"com/example/alert_tree/alerttree/server/OutputGate", "<init>", "(J)V"⟩ : MethodName)) rfl hown (mvT hZ (hw _ (List.mem_of_getElem? (i := 3) rfl))) (mvT hZ (hw _ (List.mem_of_getElem? (i := 4) rfl))) (mvT hZ (hw _ (List.mem_of_getElem? (i := 5) rfl))) (by decide) (backOf (W := 1) (rm1 l Z a0 hw [] b1 x0 h1 n0 Z3 f4 f5 A1 g_b1) hZ (hw _ (List.mem_of_getElem? (i := 5) rfl)) (hw _ (List.mem_of_getElem? (i := 2) rfl)) (by decide) (by decide)) (g := (mkF m 5 #[.val (.long x0), .second, .val (.long x1), .second, .val (.long x2), .second, .unset, .unset, .unset, .unset, .unset, .unset, .unset] [(.long x0), (.ref b1), (.ref b1)])) rfl (by rw [hml]; rfl) (Steps.refl _) (a := b1) (argsL := [(.long x0)]) (rest := [(.ref b1)]) (lenOf pd_0 rfl) rfl (by show 2 * 0 + _ ≤ _; exact Nat.le_of_eq rfl) (hb hby at_5) (fun _ _ => ⟨rfl, e1, (by decide : 1 + 2 ≤ _), (by decide : 2 + 13 ≤ _)⟩)
  dsimp only [Pt.U, Pt.locs, Pt.cells, Pt.slots] at X6 l6 y6 z6 st6 hQ6
  subst l6 y6 z6
  obtain ⟨q_6, b_6, rfl, N6q, K6, pq6_0, pq6_1, pq6_2, pq6_3, pq6_4, pq6_5, pq6_6, pq6_7, pq6_8, pq6_9, pq6_10, pq6_11, pq6_12⟩ := hQ6
  have N6 := Fr.app N0 N6q
  obtain ⟨h6, e6⟩ : ∃ z, T6.heap = z := ⟨_, rfl⟩
  rw [e6] at K6 pq6_3 pq6_4 pq6_5 pq6_6 pq6_7 pq6_8 pq6_9 pq6_10 pq6_11 pq6_12
  have ne7 : b1 ≠ q_6 := Nat.ne_of_lt (Nat.lt_of_lt_of_le A1.lt pq6_0)
  have g_q_6 : n0 ≤ q_6 := Nat.le_trans Z3 pq6_0
  have ne8 : b1 ≠ b_6 := Nat.ne_of_lt (Nat.lt_of_lt_of_le A1.lt pq6_1)
  have g_b_6 : n0 ≤ b_6 := Nat.le_trans Z3 pq6_1
  have f9 := A1.keep K6
  have O10 := O2.keep K6 (allS g_b1 all0)
  have Z11 : n0 ≤ h6.size := Nat.le_trans Z3 K6.1
  refine own_step (st' := T6.setTop (mkF m 8 #[.val (.long x0), .second, .val (.long x1), .second, .val (.long x2), .second, .unset, .unset, .unset, .unset, .unset, .unset, .unset] [(.ref b1)])) (fun t k => st6.trans k) ?_
  refine own_step (st' := T6.setTop (mkF m 10 #[.val (.long x0), .second, .val (.long x1), .second, .val (.long x2), .second, .val (.ref b1), .unset, .unset, .unset, .unset, .unset, .unset] [])) (fun t k => XS.astore X6.here hx rfl (hb hby at_8) rfl rfl (l' := #[.val (.long x0), .second, .val (.long x1), .second, .val (.long x2), .second, .val (.ref b1), .unset, .unset, .unset, .unset, .unset, .unset]) rfl k) ?_
  refine own_step (st' := T6.setTop (mkF m 12 #[.val (.long x0), .second, .val (.long x1), .second, .val (.long x2), .second, .val (.ref b1), .unset, .unset, .unset, .unset, .unset, .unset] [(.ref b1)])) (fun t k => XS.aload X6.here hx rfl (hb hby at_10) rfl rfl k) ?_
  refine own_step (st' := T6.setTop (mkF m 13 #[.val (.long x0), .second, .val (.long x1), .second, .val (.long x2), .second, .val (.ref b1), .unset, .unset, .unset, .unset, .unset, .unset] [(.long x1), (.ref b1)])) (fun t k => XS.lloadN X6.here hx rfl (hb hby at_12) rfl k) ?_
  obtain ⟨cq12, kq12, q12a, q12b, q12c⟩ := isOf hZ e6 f9
  obtain ⟨_, _, ⟨T12, L12, k12, n12⟩, -, X12, ⟨Lc12, hQ12, l12, y12, z12⟩, st12⟩ := X6.virtualBack hx (y := (⟨"com/example/alert_tree/alerttree/server/OutputGate", "passes", "(J)Z"⟩ : MethodName)) (z := (⟨"com/example/alert_tree/alerttree/server/OutputGate", "passes", "(J)Z"⟩ : MethodName)) hown (mvT hZ (hw _ (List.mem_of_getElem? (i := 82) rfl))) (mvT hZ (hw _ (List.mem_of_getElem? (i := 83) rfl))) (notFace_of_selects (args := #[]) (mvT hZ (hw _ (List.mem_of_getElem? (i := 85) rfl)))) (mvT hZ (hw _ (List.mem_of_getElem? (i := 85) rfl))) (mvT hZ (hw _ (List.mem_of_getElem? (i := 84) rfl))) (by decide) (backOf (W := 0) (rm13 l Z a0 hw [] b1 x1 x0 h6 n0 Z11 pq6_3) hZ (hw _ (List.mem_of_getElem? (i := 86) rfl)) (hw _ (List.mem_of_getElem? (i := 2) rfl)) (by decide) (by decide)) q12a q12c (g := (mkF m 13 #[.val (.long x0), .second, .val (.long x1), .second, .val (.long x2), .second, .val (.ref b1), .unset, .unset, .unset, .unset, .unset, .unset] [(.long x1), (.ref b1)])) rfl (by rw [hml]; rfl) (Steps.refl _) (argsL := [(.long x1)]) (rest := []) (lenOf pd_6 rfl) rfl (by show 2 * 0 + _ ≤ _; exact Nat.le_of_eq rfl) (hb hby at_13) (fun _ _ => ⟨rfl, e6, (by decide : 3 + 0 ≤ _), (by decide : 15 + 0 ≤ _)⟩)
  dsimp only [Pt.U, Pt.locs, Pt.cells, Pt.slots] at X12 l12 y12 z12 st12 hQ12
  subst l12 y12 z12
  obtain ⟨rfl, N12q, e12⟩ := hQ12
  have N12 := Fr.app N6 N12q
  refine own_step (st' := T12.setTop (mkF m 16 #[.val (.long x0), .second, .val (.long x1), .second, .val (.long x2), .second, .val (.ref b1), .unset, .unset, .unset, .unset, .unset, .unset] [(.int (if x0 < x1 then (0 : Int32) else (1 : Int32)))])) (fun t k => st12.trans k) ?_
  refine own_step (st' := T12.setTop (mkF m 17 #[.val (.long x0), .second, .val (.long x1), .second, .val (.long x2), .second, .val (.ref b1), .unset, .unset, .unset, .unset, .unset, .unset] [(.long x1), (.int (if x0 < x1 then (0 : Int32) else (1 : Int32)))])) (fun t k => XS.lloadN X12.here hx rfl (hb hby at_16) rfl k) ?_
  refine own_step (st' := T12.setTop (mkF m 18 #[.val (.long x0), .second, .val (.long x1), .second, .val (.long x2), .second, .val (.ref b1), .unset, .unset, .unset, .unset, .unset, .unset] [(.long x0), (.long x1), (.int (if x0 < x1 then (0 : Int32) else (1 : Int32)))])) (fun t k => XS.lloadN X12.here hx rfl (hb hby at_17) rfl k) ?_
  refine own_step (st' := T12.setTop (mkF m 19 #[.val (.long x0), .second, .val (.long x1), .second, .val (.long x2), .second, .val (.ref b1), .unset, .unset, .unset, .unset, .unset, .unset] [(.int (lcmpW x1 x0)), (.int (if x0 < x1 then (0 : Int32) else (1 : Int32)))])) (fun t k => XS.lcmp X12.here hx rfl (hb hby at_18) rfl k) ?_
  refine own_step (st' := T12.setTop (mkF m 27 #[.val (.long x0), .second, .val (.long x1), .second, .val (.long x2), .second, .val (.ref b1), .unset, .unset, .unset, .unset, .unset, .unset] [(.int (if x0 < x1 then (0 : Int32) else (1 : Int32))), (.int (if x0 < x1 then (0 : Int32) else (1 : Int32)))])) (fun t k => ?_) ?_
  · by_cases hc13 : x0 < x1
    · refine XS.ifYes X12.here hx rfl (pc0 := 19) (pc' := 26) rfl (hb hby at_19) rfl ((if0 _ _).trans (tlt ((lw_gt _ _).mpr hc13)).2.2.1) (by decide) (by decide) (?_ : Steps p.tables e below (T12.setTop (mkF m 26 #[.val (.long x0), .second, .val (.long x1), .second, .val (.long x2), .second, .val (.ref b1), .unset, .unset, .unset, .unset, .unset, .unset] [(.int (if x0 < x1 then (0 : Int32) else (1 : Int32)))])) _)
      refine XS.iconst X12.here hx rfl (hb hby at_26) (?_ : Steps p.tables e below (T12.setTop (mkF m 27 #[.val (.long x0), .second, .val (.long x1), .second, .val (.long x2), .second, .val (.ref b1), .unset, .unset, .unset, .unset, .unset, .unset] [(.int (0 : Int32)), (.int (if x0 < x1 then (0 : Int32) else (1 : Int32)))])) _)
      simpa only [if_pos hc13] using k
    · refine XS.ifNo X12.here hx rfl (hb hby at_19) rfl ((if0 _ _).trans (flt (fun q => hc13 ((lw_gt _ _).mp q))).2.2.1) (?_ : Steps p.tables e below (T12.setTop (mkF m 22 #[.val (.long x0), .second, .val (.long x1), .second, .val (.long x2), .second, .val (.ref b1), .unset, .unset, .unset, .unset, .unset, .unset] [(.int (if x0 < x1 then (0 : Int32) else (1 : Int32)))])) _)
      refine XS.iconst X12.here hx rfl (hb hby at_22) (?_ : Steps p.tables e below (T12.setTop (mkF m 23 #[.val (.long x0), .second, .val (.long x1), .second, .val (.long x2), .second, .val (.ref b1), .unset, .unset, .unset, .unset, .unset, .unset] [(.int (1 : Int32)), (.int (if x0 < x1 then (0 : Int32) else (1 : Int32)))])) _)
      refine XS.goto X12.here hx rfl (pc0 := 23) (pc' := 27) rfl (hb hby at_23) (by decide) (by decide) (?_ : Steps p.tables e below (T12.setTop (mkF m 27 #[.val (.long x0), .second, .val (.long x1), .second, .val (.long x2), .second, .val (.ref b1), .unset, .unset, .unset, .unset, .unset, .unset] [(.int (1 : Int32)), (.int (if x0 < x1 then (0 : Int32) else (1 : Int32)))])) _)
      simpa only [if_neg hc13] using k
  refine own_step (st' := T12.setTop (mkF m 30 #[.val (.long x0), .second, .val (.long x1), .second, .val (.long x2), .second, .val (.ref b1), .unset, .unset, .unset, .unset, .unset, .unset] [])) (fun t k => XS.icmpNo X12.here hx rfl (hb hby at_27) rfl (teq rfl).2 k) ?_
  refine own_step (st' := T12.setTop (mkF m 31 #[.val (.long x0), .second, .val (.long x1), .second, .val (.long x2), .second, .val (.ref b1), .unset, .unset, .unset, .unset, .unset, .unset] [(.int (1 : Int32))])) (fun t k => XS.iconst X12.here hx rfl (hb hby at_30) k) ?_
  refine own_step (st' := T12.setTop (mkF m 35 #[.val (.long x0), .second, .val (.long x1), .second, .val (.long x2), .second, .val (.ref b1), .unset, .unset, .unset, .unset, .unset, .unset] [(.int (1 : Int32))])) (fun t k => XS.goto X12.here hx rfl (pc0 := 31) (pc' := 35) rfl (hb hby at_31) (by decide) (by decide) k) ?_
  refine own_step (st' := T12.setTop (mkF m 37 #[.val (.long x0), .second, .val (.long x1), .second, .val (.long x2), .second, .val (.ref b1), .val (.int (1 : Int32)), .unset, .unset, .unset, .unset, .unset] [])) (fun t k => XS.istore X12.here hx rfl (hb hby at_35) rfl (l' := #[.val (.long x0), .second, .val (.long x1), .second, .val (.long x2), .second, .val (.ref b1), .val (.int (1 : Int32)), .unset, .unset, .unset, .unset, .unset]) rfl k) ?_
  refine own_step (st' := T12.setTop (mkF m 39 #[.val (.long x0), .second, .val (.long x1), .second, .val (.long x2), .second, .val (.ref b1), .val (.int (1 : Int32)), .unset, .unset, .unset, .unset, .unset] [(.ref b1)])) (fun t k => XS.aload X12.here hx rfl (hb hby at_37) rfl rfl k) ?_
  refine own_step (st' := T12.setTop (mkF m 40 #[.val (.long x0), .second, .val (.long x1), .second, .val (.long x2), .second, .val (.ref b1), .val (.int (1 : Int32)), .unset, .unset, .unset, .unset, .unset] [(.long x0), (.ref b1)])) (fun t k => XS.lloadN X12.here hx rfl (hb hby at_39) rfl k) ?_
  obtain ⟨cq14, kq14, q14a, q14b, q14c⟩ := isOf hZ e12 f9
  obtain ⟨_, _, ⟨T14, L14, k14, n14⟩, -, X14, ⟨Lc14, hQ14, l14, y14, z14⟩, st14⟩ := X12.virtualBack hx (y := (⟨"com/example/alert_tree/alerttree/server/OutputGate", "passes", "(J)Z"⟩ : MethodName)) (z := (⟨"com/example/alert_tree/alerttree/server/OutputGate", "passes", "(J)Z"⟩ : MethodName)) hown (mvT hZ (hw _ (List.mem_of_getElem? (i := 82) rfl))) (mvT hZ (hw _ (List.mem_of_getElem? (i := 83) rfl))) (notFace_of_selects (args := #[]) (mvT hZ (hw _ (List.mem_of_getElem? (i := 85) rfl)))) (mvT hZ (hw _ (List.mem_of_getElem? (i := 85) rfl))) (mvT hZ (hw _ (List.mem_of_getElem? (i := 84) rfl))) (by decide) (backOf (W := 0) (rm13 l Z a0 hw [] b1 x0 x0 h6 n0 Z11 pq6_3) hZ (hw _ (List.mem_of_getElem? (i := 86) rfl)) (hw _ (List.mem_of_getElem? (i := 2) rfl)) (by decide) (by decide)) q14a q14c (g := (mkF m 40 #[.val (.long x0), .second, .val (.long x1), .second, .val (.long x2), .second, .val (.ref b1), .val (.int (1 : Int32)), .unset, .unset, .unset, .unset, .unset] [(.long x0), (.ref b1)])) rfl (by rw [hml]; rfl) (Steps.refl _) (argsL := [(.long x0)]) (rest := []) (lenOf pd_6 rfl) rfl (by show 2 * 0 + _ ≤ _; exact Nat.le_of_eq rfl) (hb hby at_40) (fun _ _ => ⟨rfl, e12, (by decide : 3 + 0 ≤ _), (by decide : 15 + 0 ≤ _)⟩)
  dsimp only [Pt.U, Pt.locs, Pt.cells, Pt.slots] at X14 l14 y14 z14 st14 hQ14
  subst l14 y14 z14
  obtain ⟨rfl, N14q, e14⟩ := hQ14
  have N14 := Fr.app N12 N14q
  refine own_step (st' := T14.setTop (mkF m 43 #[.val (.long x0), .second, .val (.long x1), .second, .val (.long x2), .second, .val (.ref b1), .val (.int (1 : Int32)), .unset, .unset, .unset, .unset, .unset] [(.int (if x0 < x0 then (0 : Int32) else (1 : Int32)))])) (fun t k => st14.trans k) ?_
  refine own_step (st' := T14.setTop (mkF m 45 #[.val (.long x0), .second, .val (.long x1), .second, .val (.long x2), .second, .val (.ref b1), .val (.int (1 : Int32)), .val (.int (if x0 < x0 then (0 : Int32) else (1 : Int32))), .unset, .unset, .unset, .unset] [])) (fun t k => XS.istore X14.here hx rfl (hb hby at_43) rfl (l' := #[.val (.long x0), .second, .val (.long x1), .second, .val (.long x2), .second, .val (.ref b1), .val (.int (1 : Int32)), .val (.int (if x0 < x0 then (0 : Int32) else (1 : Int32))), .unset, .unset, .unset, .unset]) rfl k) ?_
  refine own_step (st' := T14.setTop (mkF m 47 #[.val (.long x0), .second, .val (.long x1), .second, .val (.long x2), .second, .val (.ref b1), .val (.int (1 : Int32)), .val (.int (if x0 < x0 then (0 : Int32) else (1 : Int32))), .unset, .unset, .unset, .unset] [(.ref b1)])) (fun t k => XS.aload X14.here hx rfl (hb hby at_45) rfl rfl k) ?_
  refine own_step (st' := T14.setTop (mkF m 49 #[.val (.long x0), .second, .val (.long x1), .second, .val (.long x2), .second, .val (.ref b1), .val (.int (1 : Int32)), .val (.int (if x0 < x0 then (0 : Int32) else (1 : Int32))), .unset, .unset, .unset, .unset] [(.long x2), (.ref b1)])) (fun t k => XS.lload X14.here hx rfl (hb hby at_47) rfl k) ?_
  obtain ⟨cq15, kq15, q15a, q15b, q15c⟩ := isOf hZ e14 f9
  obtain ⟨_, _, ⟨T15, L15, k15, n15⟩, -, X15, ⟨Lc15, hQ15, l15, y15, z15⟩, st15⟩ := X14.virtualBack hx (y := (⟨"com/example/alert_tree/alerttree/server/OutputGate", "open", "(J)V"⟩ : MethodName)) (z := (⟨"com/example/alert_tree/alerttree/server/OutputGate", "open", "(J)V"⟩ : MethodName)) hown (mvT hZ (hw _ (List.mem_of_getElem? (i := 87) rfl))) (mvT hZ (hw _ (List.mem_of_getElem? (i := 88) rfl))) (notFace_of_selects (args := #[]) (mvT hZ (hw _ (List.mem_of_getElem? (i := 90) rfl)))) (mvT hZ (hw _ (List.mem_of_getElem? (i := 90) rfl))) (mvT hZ (hw _ (List.mem_of_getElem? (i := 89) rfl))) (by decide) (backOf (W := 0) (rm14 l Z a0 hw [] b1 x2 x0 q_6 b_6 dd h6 n0 Z11 O10 pq6_3 f9 g_b1 p_0 (Ne.symm ne7) (Ne.symm ne8) pq6_2 g_b_6 pq6_4 pq6_5 pq6_6 pq6_7 pq6_8 pq6_9 pq6_10 pq6_11 pq6_12) hZ (hw _ (List.mem_of_getElem? (i := 91) rfl)) (hw _ (List.mem_of_getElem? (i := 2) rfl)) (by decide) (by decide)) q15a q15c (g := (mkF m 49 #[.val (.long x0), .second, .val (.long x1), .second, .val (.long x2), .second, .val (.ref b1), .val (.int (1 : Int32)), .val (.int (if x0 < x0 then (0 : Int32) else (1 : Int32))), .unset, .unset, .unset, .unset] [(.long x2), (.ref b1)])) rfl (by rw [hml]; rfl) (Steps.refl _) (argsL := [(.long x2)]) (rest := []) (lenOf pd_0 rfl) rfl (by show 2 * 0 + _ ≤ _; exact Nat.le_of_eq rfl) (hb hby at_49) (fun _ _ => ⟨rfl, e14, (by decide : 3 + 3 ≤ _), (by decide : 15 + 7 ≤ _)⟩)
  dsimp only [Pt.U, Pt.locs, Pt.cells, Pt.slots] at X15 l15 y15 z15 st15 hQ15
  subst l15 y15 z15
  obtain ⟨rfl, N15q, K15, pq15_0⟩ := hQ15
  have N15 := Fr.app N14 N15q
  obtain ⟨h15, e15⟩ : ∃ z, T15.heap = z := ⟨_, rfl⟩
  rw [e15] at K15 pq15_0
  have f16 := f9.keep K15
  have f17 := pq6_5.keep K15
  have f18 := pq6_6.keep K15 (ninS (Ne.symm ne7) (ninS pq6_2 nin0))
  have f19 := pq6_7.keep K15
  have O20 := O10.keep K15 (allS g_b1 (allS g_b_6 all0))
  have Z21 : n0 ≤ h15.size := Nat.le_trans Z11 K15.1
  refine own_step (st' := T15.setTop (mkF m 52 #[.val (.long x0), .second, .val (.long x1), .second, .val (.long x2), .second, .val (.ref b1), .val (.int (1 : Int32)), .val (.int (if x0 < x0 then (0 : Int32) else (1 : Int32))), .unset, .unset, .unset, .unset] [])) (fun t k => st15.trans k) ?_
  refine own_step (st' := T15.setTop (mkF m 54 #[.val (.long x0), .second, .val (.long x1), .second, .val (.long x2), .second, .val (.ref b1), .val (.int (1 : Int32)), .val (.int (if x0 < x0 then (0 : Int32) else (1 : Int32))), .unset, .unset, .unset, .unset] [(.long x2)])) (fun t k => XS.lload X15.here hx rfl (hb hby at_52) rfl k) ?_
  refine own_step (st' := T15.setTop (mkF m 55 #[.val (.long x0), .second, .val (.long x1), .second, .val (.long x2), .second, .val (.ref b1), .val (.int (1 : Int32)), .val (.int (if x0 < x0 then (0 : Int32) else (1 : Int32))), .unset, .unset, .unset, .unset] [(.long x0), (.long x2)])) (fun t k => XS.lloadN X15.here hx rfl (hb hby at_54) rfl k) ?_
  refine own_step (st' := T15.setTop (mkF m 56 #[.val (.long x0), .second, .val (.long x1), .second, .val (.long x2), .second, .val (.ref b1), .val (.int (1 : Int32)), .val (.int (if x0 < x0 then (0 : Int32) else (1 : Int32))), .unset, .unset, .unset, .unset] [(.int (lcmpW x2 x0))])) (fun t k => XS.lcmp X15.here hx rfl (hb hby at_55) rfl k) ?_
  refine own_step (st' := T15.setTop (mkF m 65 #[.val (.long x0), .second, .val (.long x1), .second, .val (.long x2), .second, .val (.ref b1), .val (.int (1 : Int32)), .val (.int (if x0 < x0 then (0 : Int32) else (1 : Int32))), .unset, .unset, .unset, .unset] [(.long (if x0 < x2 then x2 else x0))])) (fun t k => ?_) ?_
  · by_cases hc22 : x0 < x2
    · refine XS.ifNo X15.here hx rfl (hb hby at_56) rfl ((if0 _ _).trans (tlt ((lw_gt _ _).mpr hc22)).2.2.2) (?_ : Steps p.tables e below (T15.setTop (mkF m 59 #[.val (.long x0), .second, .val (.long x1), .second, .val (.long x2), .second, .val (.ref b1), .val (.int (1 : Int32)), .val (.int (if x0 < x0 then (0 : Int32) else (1 : Int32))), .unset, .unset, .unset, .unset] [])) _)
      refine XS.lload X15.here hx rfl (hb hby at_59) rfl (?_ : Steps p.tables e below (T15.setTop (mkF m 61 #[.val (.long x0), .second, .val (.long x1), .second, .val (.long x2), .second, .val (.ref b1), .val (.int (1 : Int32)), .val (.int (if x0 < x0 then (0 : Int32) else (1 : Int32))), .unset, .unset, .unset, .unset] [(.long x2)])) _)
      refine XS.goto X15.here hx rfl (pc0 := 61) (pc' := 65) rfl (hb hby at_61) (by decide) (by decide) (?_ : Steps p.tables e below (T15.setTop (mkF m 65 #[.val (.long x0), .second, .val (.long x1), .second, .val (.long x2), .second, .val (.ref b1), .val (.int (1 : Int32)), .val (.int (if x0 < x0 then (0 : Int32) else (1 : Int32))), .unset, .unset, .unset, .unset] [(.long x2)])) _)
      simpa only [if_pos hc22] using k
    · refine XS.ifYes X15.here hx rfl (pc0 := 56) (pc' := 64) rfl (hb hby at_56) rfl ((if0 _ _).trans (flt (fun q => hc22 ((lw_gt _ _).mp q))).2.2.2) (by decide) (by decide) (?_ : Steps p.tables e below (T15.setTop (mkF m 64 #[.val (.long x0), .second, .val (.long x1), .second, .val (.long x2), .second, .val (.ref b1), .val (.int (1 : Int32)), .val (.int (if x0 < x0 then (0 : Int32) else (1 : Int32))), .unset, .unset, .unset, .unset] [])) _)
      refine XS.lloadN X15.here hx rfl (hb hby at_64) rfl (?_ : Steps p.tables e below (T15.setTop (mkF m 65 #[.val (.long x0), .second, .val (.long x1), .second, .val (.long x2), .second, .val (.ref b1), .val (.int (1 : Int32)), .val (.int (if x0 < x0 then (0 : Int32) else (1 : Int32))), .unset, .unset, .unset, .unset] [(.long x0)])) _)
      simpa only [if_neg hc22] using k
  obtain ⟨af, e_af⟩ : ∃ z : Int64, z = (if x0 < x2 then x2 else x0) := ⟨_, rfl⟩
  rw [← e_af]
  rw [← e_af] at pq15_0
  refine own_step (st' := T15.setTop (mkF m 67 #[.val (.long x0), .second, .val (.long x1), .second, .val (.long x2), .second, .val (.ref b1), .val (.int (1 : Int32)), .val (.int (if x0 < x0 then (0 : Int32) else (1 : Int32))), .val (.long af), .second, .unset, .unset] [])) (fun t k => XS.lstore X15.here hx rfl (hb hby at_65) rfl (l' := #[.val (.long x0), .second, .val (.long x1), .second, .val (.long x2), .second, .val (.ref b1), .val (.int (1 : Int32)), .val (.int (if x0 < x0 then (0 : Int32) else (1 : Int32))), .val (.long af), .second, .unset, .unset]) rfl k) ?_
  refine own_step (st' := T15.setTop (mkF m 69 #[.val (.long x0), .second, .val (.long x1), .second, .val (.long x2), .second, .val (.ref b1), .val (.int (1 : Int32)), .val (.int (if x0 < x0 then (0 : Int32) else (1 : Int32))), .val (.long af), .second, .unset, .unset] [(.ref b1)])) (fun t k => XS.aload X15.here hx rfl (hb hby at_67) rfl rfl k) ?_
  refine own_step (st' := T15.setTop (mkF m 70 #[.val (.long x0), .second, .val (.long x1), .second, .val (.long x2), .second, .val (.ref b1), .val (.int (1 : Int32)), .val (.int (if x0 < x0 then (0 : Int32) else (1 : Int32))), .val (.long af), .second, .unset, .unset] [(.long x1), (.ref b1)])) (fun t k => XS.lloadN X15.here hx rfl (hb hby at_69) rfl k) ?_
  obtain ⟨cq23, kq23, q23a, q23b, q23c⟩ := isOf hZ e15 f16
  obtain ⟨_, _, ⟨T23, L23, k23, n23⟩, -, X23, ⟨Lc23, hQ23, l23, y23, z23⟩, st23⟩ := X15.virtualBack hx (y := (⟨"com/example/alert_tree/alerttree/server/OutputGate", "passes", "(J)Z"⟩ : MethodName)) (z := (⟨"com/example/alert_tree/alerttree/server/OutputGate", "passes", "(J)Z"⟩ : MethodName)) hown (mvT hZ (hw _ (List.mem_of_getElem? (i := 82) rfl))) (mvT hZ (hw _ (List.mem_of_getElem? (i := 83) rfl))) (notFace_of_selects (args := #[]) (mvT hZ (hw _ (List.mem_of_getElem? (i := 85) rfl)))) (mvT hZ (hw _ (List.mem_of_getElem? (i := 85) rfl))) (mvT hZ (hw _ (List.mem_of_getElem? (i := 84) rfl))) (by decide) (backOf (W := 0) (rm13 l Z a0 hw [] b1 x1 af h15 n0 Z21 pq15_0) hZ (hw _ (List.mem_of_getElem? (i := 86) rfl)) (hw _ (List.mem_of_getElem? (i := 2) rfl)) (by decide) (by decide)) q23a q23c (g := (mkF m 70 #[.val (.long x0), .second, .val (.long x1), .second, .val (.long x2), .second, .val (.ref b1), .val (.int (1 : Int32)), .val (.int (if x0 < x0 then (0 : Int32) else (1 : Int32))), .val (.long af), .second, .unset, .unset] [(.long x1), (.ref b1)])) rfl (by rw [hml]; rfl) (Steps.refl _) (argsL := [(.long x1)]) (rest := []) (lenOf pd_6 rfl) rfl (by show 2 * 0 + _ ≤ _; exact Nat.le_of_eq rfl) (hb hby at_70) (fun _ _ => ⟨rfl, e15, (by decide : 6 + 0 ≤ _), (by decide : 22 + 0 ≤ _)⟩)
  dsimp only [Pt.U, Pt.locs, Pt.cells, Pt.slots] at X23 l23 y23 z23 st23 hQ23
  subst l23 y23 z23
  obtain ⟨rfl, N23q, e23⟩ := hQ23
  have N23 := Fr.app N15 N23q
  refine own_step (st' := T23.setTop (mkF m 73 #[.val (.long x0), .second, .val (.long x1), .second, .val (.long x2), .second, .val (.ref b1), .val (.int (1 : Int32)), .val (.int (if x0 < x0 then (0 : Int32) else (1 : Int32))), .val (.long af), .second, .unset, .unset] [(.int (if af < x1 then (0 : Int32) else (1 : Int32)))])) (fun t k => st23.trans k) ?_
  refine own_step (st' := T23.setTop (mkF m 74 #[.val (.long x0), .second, .val (.long x1), .second, .val (.long x2), .second, .val (.ref b1), .val (.int (1 : Int32)), .val (.int (if x0 < x0 then (0 : Int32) else (1 : Int32))), .val (.long af), .second, .unset, .unset] [(.long x1), (.int (if af < x1 then (0 : Int32) else (1 : Int32)))])) (fun t k => XS.lloadN X23.here hx rfl (hb hby at_73) rfl k) ?_
  refine own_step (st' := T23.setTop (mkF m 76 #[.val (.long x0), .second, .val (.long x1), .second, .val (.long x2), .second, .val (.ref b1), .val (.int (1 : Int32)), .val (.int (if x0 < x0 then (0 : Int32) else (1 : Int32))), .val (.long af), .second, .unset, .unset] [(.long af), (.long x1), (.int (if af < x1 then (0 : Int32) else (1 : Int32)))])) (fun t k => XS.lload X23.here hx rfl (hb hby at_74) rfl k) ?_
  refine own_step (st' := T23.setTop (mkF m 77 #[.val (.long x0), .second, .val (.long x1), .second, .val (.long x2), .second, .val (.ref b1), .val (.int (1 : Int32)), .val (.int (if x0 < x0 then (0 : Int32) else (1 : Int32))), .val (.long af), .second, .unset, .unset] [(.int (lcmpW x1 af)), (.int (if af < x1 then (0 : Int32) else (1 : Int32)))])) (fun t k => XS.lcmp X23.here hx rfl (hb hby at_76) rfl k) ?_
  refine own_step (st' := T23.setTop (mkF m 85 #[.val (.long x0), .second, .val (.long x1), .second, .val (.long x2), .second, .val (.ref b1), .val (.int (1 : Int32)), .val (.int (if x0 < x0 then (0 : Int32) else (1 : Int32))), .val (.long af), .second, .unset, .unset] [(.int (if af < x1 then (0 : Int32) else (1 : Int32))), (.int (if af < x1 then (0 : Int32) else (1 : Int32)))])) (fun t k => ?_) ?_
  · by_cases hc24 : af < x1
    · refine XS.ifYes X23.here hx rfl (pc0 := 77) (pc' := 84) rfl (hb hby at_77) rfl ((if0 _ _).trans (tlt ((lw_gt _ _).mpr hc24)).2.2.1) (by decide) (by decide) (?_ : Steps p.tables e below (T23.setTop (mkF m 84 #[.val (.long x0), .second, .val (.long x1), .second, .val (.long x2), .second, .val (.ref b1), .val (.int (1 : Int32)), .val (.int (if x0 < x0 then (0 : Int32) else (1 : Int32))), .val (.long af), .second, .unset, .unset] [(.int (if af < x1 then (0 : Int32) else (1 : Int32)))])) _)
      refine XS.iconst X23.here hx rfl (hb hby at_84) (?_ : Steps p.tables e below (T23.setTop (mkF m 85 #[.val (.long x0), .second, .val (.long x1), .second, .val (.long x2), .second, .val (.ref b1), .val (.int (1 : Int32)), .val (.int (if x0 < x0 then (0 : Int32) else (1 : Int32))), .val (.long af), .second, .unset, .unset] [(.int (0 : Int32)), (.int (if af < x1 then (0 : Int32) else (1 : Int32)))])) _)
      simpa only [if_pos hc24] using k
    · refine XS.ifNo X23.here hx rfl (hb hby at_77) rfl ((if0 _ _).trans (flt (fun q => hc24 ((lw_gt _ _).mp q))).2.2.1) (?_ : Steps p.tables e below (T23.setTop (mkF m 80 #[.val (.long x0), .second, .val (.long x1), .second, .val (.long x2), .second, .val (.ref b1), .val (.int (1 : Int32)), .val (.int (if x0 < x0 then (0 : Int32) else (1 : Int32))), .val (.long af), .second, .unset, .unset] [(.int (if af < x1 then (0 : Int32) else (1 : Int32)))])) _)
      refine XS.iconst X23.here hx rfl (hb hby at_80) (?_ : Steps p.tables e below (T23.setTop (mkF m 81 #[.val (.long x0), .second, .val (.long x1), .second, .val (.long x2), .second, .val (.ref b1), .val (.int (1 : Int32)), .val (.int (if x0 < x0 then (0 : Int32) else (1 : Int32))), .val (.long af), .second, .unset, .unset] [(.int (1 : Int32)), (.int (if af < x1 then (0 : Int32) else (1 : Int32)))])) _)
      refine XS.goto X23.here hx rfl (pc0 := 81) (pc' := 85) rfl (hb hby at_81) (by decide) (by decide) (?_ : Steps p.tables e below (T23.setTop (mkF m 85 #[.val (.long x0), .second, .val (.long x1), .second, .val (.long x2), .second, .val (.ref b1), .val (.int (1 : Int32)), .val (.int (if x0 < x0 then (0 : Int32) else (1 : Int32))), .val (.long af), .second, .unset, .unset] [(.int (1 : Int32)), (.int (if af < x1 then (0 : Int32) else (1 : Int32)))])) _)
      simpa only [if_neg hc24] using k
  refine own_step (st' := T23.setTop (mkF m 88 #[.val (.long x0), .second, .val (.long x1), .second, .val (.long x2), .second, .val (.ref b1), .val (.int (1 : Int32)), .val (.int (if x0 < x0 then (0 : Int32) else (1 : Int32))), .val (.long af), .second, .unset, .unset] [])) (fun t k => XS.icmpNo X23.here hx rfl (hb hby at_85) rfl (teq rfl).2 k) ?_
  refine own_step (st' := T23.setTop (mkF m 89 #[.val (.long x0), .second, .val (.long x1), .second, .val (.long x2), .second, .val (.ref b1), .val (.int (1 : Int32)), .val (.int (if x0 < x0 then (0 : Int32) else (1 : Int32))), .val (.long af), .second, .unset, .unset] [(.int (1 : Int32))])) (fun t k => XS.iconst X23.here hx rfl (hb hby at_88) k) ?_
  refine own_step (st' := T23.setTop (mkF m 93 #[.val (.long x0), .second, .val (.long x1), .second, .val (.long x2), .second, .val (.ref b1), .val (.int (1 : Int32)), .val (.int (if x0 < x0 then (0 : Int32) else (1 : Int32))), .val (.long af), .second, .unset, .unset] [(.int (1 : Int32))])) (fun t k => XS.goto X23.here hx rfl (pc0 := 89) (pc' := 93) rfl (hb hby at_89) (by decide) (by decide) k) ?_
  refine own_step (st' := T23.setTop (mkF m 95 #[.val (.long x0), .second, .val (.long x1), .second, .val (.long x2), .second, .val (.ref b1), .val (.int (1 : Int32)), .val (.int (if x0 < x0 then (0 : Int32) else (1 : Int32))), .val (.long af), .second, .val (.int (1 : Int32)), .unset] [])) (fun t k => XS.istore X23.here hx rfl (hb hby at_93) rfl (l' := #[.val (.long x0), .second, .val (.long x1), .second, .val (.long x2), .second, .val (.ref b1), .val (.int (1 : Int32)), .val (.int (if x0 < x0 then (0 : Int32) else (1 : Int32))), .val (.long af), .second, .val (.int (1 : Int32)), .unset]) rfl k) ?_
  refine own_step (st' := T23.setTop (mkF m 97 #[.val (.long x0), .second, .val (.long x1), .second, .val (.long x2), .second, .val (.ref b1), .val (.int (1 : Int32)), .val (.int (if x0 < x0 then (0 : Int32) else (1 : Int32))), .val (.long af), .second, .val (.int (1 : Int32)), .unset] [(.ref b1)])) (fun t k => XS.aload X23.here hx rfl (hb hby at_95) rfl rfl k) ?_
  refine own_step (st' := T23.setTop (mkF m 99 #[.val (.long x0), .second, .val (.long x1), .second, .val (.long x2), .second, .val (.ref b1), .val (.int (1 : Int32)), .val (.int (if x0 < x0 then (0 : Int32) else (1 : Int32))), .val (.long af), .second, .val (.int (1 : Int32)), .unset] [(.long af), (.ref b1)])) (fun t k => XS.lload X23.here hx rfl (hb hby at_97) rfl k) ?_
  obtain ⟨cq25, kq25, q25a, q25b, q25c⟩ := isOf hZ e23 f16
  obtain ⟨_, _, ⟨T25, L25, k25, n25⟩, -, X25, ⟨Lc25, hQ25, l25, y25, z25⟩, st25⟩ := X23.virtualBack hx (y := (⟨"com/example/alert_tree/alerttree/server/OutputGate", "passes", "(J)Z"⟩ : MethodName)) (z := (⟨"com/example/alert_tree/alerttree/server/OutputGate", "passes", "(J)Z"⟩ : MethodName)) hown (mvT hZ (hw _ (List.mem_of_getElem? (i := 82) rfl))) (mvT hZ (hw _ (List.mem_of_getElem? (i := 83) rfl))) (notFace_of_selects (args := #[]) (mvT hZ (hw _ (List.mem_of_getElem? (i := 85) rfl)))) (mvT hZ (hw _ (List.mem_of_getElem? (i := 85) rfl))) (mvT hZ (hw _ (List.mem_of_getElem? (i := 84) rfl))) (by decide) (backOf (W := 0) (rm13 l Z a0 hw [] b1 af af h15 n0 Z21 pq15_0) hZ (hw _ (List.mem_of_getElem? (i := 86) rfl)) (hw _ (List.mem_of_getElem? (i := 2) rfl)) (by decide) (by decide)) q25a q25c (g := (mkF m 99 #[.val (.long x0), .second, .val (.long x1), .second, .val (.long x2), .second, .val (.ref b1), .val (.int (1 : Int32)), .val (.int (if x0 < x0 then (0 : Int32) else (1 : Int32))), .val (.long af), .second, .val (.int (1 : Int32)), .unset] [(.long af), (.ref b1)])) rfl (by rw [hml]; rfl) (Steps.refl _) (argsL := [(.long af)]) (rest := []) (lenOf pd_6 rfl) rfl (by show 2 * 0 + _ ≤ _; exact Nat.le_of_eq rfl) (hb hby at_99) (fun _ _ => ⟨rfl, e23, (by decide : 6 + 0 ≤ _), (by decide : 22 + 0 ≤ _)⟩)
  dsimp only [Pt.U, Pt.locs, Pt.cells, Pt.slots] at X25 l25 y25 z25 st25 hQ25
  subst l25 y25 z25
  obtain ⟨rfl, N25q, e25⟩ := hQ25
  have N25 := Fr.app N23 N25q
  refine own_step (st' := T25.setTop (mkF m 102 #[.val (.long x0), .second, .val (.long x1), .second, .val (.long x2), .second, .val (.ref b1), .val (.int (1 : Int32)), .val (.int (if x0 < x0 then (0 : Int32) else (1 : Int32))), .val (.long af), .second, .val (.int (1 : Int32)), .unset] [(.int (if af < af then (0 : Int32) else (1 : Int32)))])) (fun t k => st25.trans k) ?_
  refine own_step (st' := T25.setTop (mkF m 104 #[.val (.long x0), .second, .val (.long x1), .second, .val (.long x2), .second, .val (.ref b1), .val (.int (1 : Int32)), .val (.int (if x0 < x0 then (0 : Int32) else (1 : Int32))), .val (.long af), .second, .val (.int (1 : Int32)), .val (.int (if af < af then (0 : Int32) else (1 : Int32)))] [])) (fun t k => XS.istore X25.here hx rfl (hb hby at_102) rfl (l' := #[.val (.long x0), .second, .val (.long x1), .second, .val (.long x2), .second, .val (.ref b1), .val (.int (1 : Int32)), .val (.int (if x0 < x0 then (0 : Int32) else (1 : Int32))), .val (.long af), .second, .val (.int (1 : Int32)), .val (.int (if af < af then (0 : Int32) else (1 : Int32)))]) rfl k) ?_
  refine own_step (st' := T25.setTop (mkF m 106 #[.val (.long x0), .second, .val (.long x1), .second, .val (.long x2), .second, .val (.ref b1), .val (.int (1 : Int32)), .val (.int (if x0 < x0 then (0 : Int32) else (1 : Int32))), .val (.long af), .second, .val (.int (1 : Int32)), .val (.int (if af < af then (0 : Int32) else (1 : Int32)))] [(.int (1 : Int32))])) (fun t k => XS.iload X25.here hx rfl (hb hby at_104) rfl k) ?_
  refine own_step (st' := T25.setTop (mkF m 109 #[.val (.long x0), .second, .val (.long x1), .second, .val (.long x2), .second, .val (.ref b1), .val (.int (1 : Int32)), .val (.int (if x0 < x0 then (0 : Int32) else (1 : Int32))), .val (.long af), .second, .val (.int (1 : Int32)), .val (.int (if af < af then (0 : Int32) else (1 : Int32)))] [])) (fun t k => XS.ifNo X25.here hx rfl (hb hby at_106) rfl ((if0 _ _).trans (feq (by decide)).1) k) ?_
  refine own_step (st' := T25.setTop (mkF m 111 #[.val (.long x0), .second, .val (.long x1), .second, .val (.long x2), .second, .val (.ref b1), .val (.int (1 : Int32)), .val (.int (if x0 < x0 then (0 : Int32) else (1 : Int32))), .val (.long af), .second, .val (.int (1 : Int32)), .val (.int (if af < af then (0 : Int32) else (1 : Int32)))] [(.int (if x0 < x0 then (0 : Int32) else (1 : Int32)))])) (fun t k => XS.iload X25.here hx rfl (hb hby at_109) rfl k) ?_
  refine own_step (st' := T25.setTop (mkF m 114 #[.val (.long x0), .second, .val (.long x1), .second, .val (.long x2), .second, .val (.ref b1), .val (.int (1 : Int32)), .val (.int (if x0 < x0 then (0 : Int32) else (1 : Int32))), .val (.long af), .second, .val (.int (1 : Int32)), .val (.int (if af < af then (0 : Int32) else (1 : Int32)))] [])) (fun t k => XS.ifNo X25.here hx rfl (hb hby at_111) rfl ((if0 _ _).trans (feq (own_b1n (Int64.lt_irrefl))).1) k) ?_
  refine own_step (st' := T25.setTop (mkF m 116 #[.val (.long x0), .second, .val (.long x1), .second, .val (.long x2), .second, .val (.ref b1), .val (.int (1 : Int32)), .val (.int (if x0 < x0 then (0 : Int32) else (1 : Int32))), .val (.long af), .second, .val (.int (1 : Int32)), .val (.int (if af < af then (0 : Int32) else (1 : Int32)))] [(.int (1 : Int32))])) (fun t k => XS.iload X25.here hx rfl (hb hby at_114) rfl k) ?_
  refine own_step (st' := T25.setTop (mkF m 119 #[.val (.long x0), .second, .val (.long x1), .second, .val (.long x2), .second, .val (.ref b1), .val (.int (1 : Int32)), .val (.int (if x0 < x0 then (0 : Int32) else (1 : Int32))), .val (.long af), .second, .val (.int (1 : Int32)), .val (.int (if af < af then (0 : Int32) else (1 : Int32)))] [])) (fun t k => XS.ifNo X25.here hx rfl (hb hby at_116) rfl ((if0 _ _).trans (feq (by decide)).1) k) ?_
  refine own_step (st' := T25.setTop (mkF m 121 #[.val (.long x0), .second, .val (.long x1), .second, .val (.long x2), .second, .val (.ref b1), .val (.int (1 : Int32)), .val (.int (if x0 < x0 then (0 : Int32) else (1 : Int32))), .val (.long af), .second, .val (.int (1 : Int32)), .val (.int (if af < af then (0 : Int32) else (1 : Int32)))] [(.int (if af < af then (0 : Int32) else (1 : Int32)))])) (fun t k => XS.iload X25.here hx rfl (hb hby at_119) rfl k) ?_
  refine own_step (st' := T25.setTop (mkF m 124 #[.val (.long x0), .second, .val (.long x1), .second, .val (.long x2), .second, .val (.ref b1), .val (.int (1 : Int32)), .val (.int (if x0 < x0 then (0 : Int32) else (1 : Int32))), .val (.long af), .second, .val (.int (1 : Int32)), .val (.int (if af < af then (0 : Int32) else (1 : Int32)))] [])) (fun t k => XS.ifNo X25.here hx rfl (hb hby at_121) rfl ((if0 _ _).trans (feq (own_b1n (Int64.lt_irrefl))).1) k) ?_
  refine own_step (st' := T25.setTop (mkF m 125 #[.val (.long x0), .second, .val (.long x1), .second, .val (.long x2), .second, .val (.ref b1), .val (.int (1 : Int32)), .val (.int (if x0 < x0 then (0 : Int32) else (1 : Int32))), .val (.long af), .second, .val (.int (1 : Int32)), .val (.int (if af < af then (0 : Int32) else (1 : Int32)))] [(.int (1 : Int32))])) (fun t k => XS.iconst X25.here hx rfl (hb hby at_124) k) ?_
  refine own_step (st' := T25.setTop (mkF m 129 #[.val (.long x0), .second, .val (.long x1), .second, .val (.long x2), .second, .val (.ref b1), .val (.int (1 : Int32)), .val (.int (if x0 < x0 then (0 : Int32) else (1 : Int32))), .val (.long af), .second, .val (.int (1 : Int32)), .val (.int (if af < af then (0 : Int32) else (1 : Int32)))] [(.int (1 : Int32))])) (fun t k => XS.goto X25.here hx rfl (pc0 := 125) (pc' := 129) rfl (hb hby at_125) (by decide) (by decide) k) ?_
  refine own_ret X25 Bd.notSynchronized (some (.int (1 : Int32))) (fun h => by rw [Bd.returns] at h; cases h) (fun fs hr => retN X25 hx (t := .boolean) Bd.returns (by simp) (hb hby at_129) hr) ?_ (by decide) (by decide)
  rw [e25]
  exact ⟨rfl, N25⟩
set_option maxRecDepth 65536 in
set_option maxHeartbeats 40000000 in
theorem comes_1 {Post : Tables → Env → Array Value → State → Outcome → State → Prop} (hpost : ∀ tb e args s v u, (limb_1_1.after args s (.returned v) u = true ∧ limb_1_2.after args s (.returned v) u = true ∧ True) → FrameEnd s (.returned v) u (Jvm.fieldLocs frame_1_writes args s ++ Jvm.arrayLocs frame_1_arrays args s ++ Jvm.staticLocs frame_1_statics s) 24 128 → Post tb e args s (.returned v) u) :
    ArmFor flags0 classFile x code maxLocals ret World_1 tables_1 room_1 Calls_1 rest_1 Pre_1 Post := by
  intro l hfl _ _ p e ha hc hk s m args below hf hA hF happ hP
  obtain ⟨hcalls, hrest, hpre⟩ := hP
  obtain ⟨-, -, -, hnamed, -, -, -, hat⟩ := (Spec.applies_iff hf).mp happ
  obtain ⟨hg, hn⟩ := and_e (Cond.before_iff.mp (show (Jvm.Cond.and given_1 narrow_1).before args s = true from hpre))
  obtain ⟨hcount, hg0⟩ := and_e hg
  obtain ⟨ha0, hg1⟩ := and_e hg0
  obtain ⟨ha1, hg2⟩ := and_e hg1
  obtain ⟨w0, w1, w2, rfl⟩ : ∃ w0 w1 w2 : Value, args = #[w0, w1, w2] := by
    have hs : args.size = 3 := by simpa [Cond.value, given_1] using hcount
    obtain ⟨L⟩ := args
    match L, hs with
    | [w0, w1, w2], _ => exact ⟨w0, w1, w2, rfl⟩
  have hw := fun d (hd : d ∈ tables_1) => atoms_spec (ws := Jvm.Cond.code x code maxLocals ret :: tables_1) hat d (List.mem_cons_of_mem _ hd)
  have hfit : Fit s := fun {y c} hc i hi => by
    obtain ⟨ha, rfl⟩ := Array.getElem?_eq_some_iff.mp hc
    have q := List.all_eq_true.mp ((Array.all_eq_true_iff_forall_mem.mp hF) _ (Array.getElem_mem ha)) i (List.mem_range.mpr hi)
    simpa [Array.getElem?_eq_getElem hi] using q
  obtain ⟨hsets, hown0⟩ := atoms_of _ (rest_1_c_eq ▸ (show rest_1_c.before _ s = true from hrest))
  have hr0 := Cond.before_iff.mp hown0
  obtain ⟨i0, ei0⟩ := isL_v ha0
  obtain rfl : w0 = (.long i0) := Option.some.inj ei0
  obtain ⟨i1, ei1⟩ := isL_v ha1
  obtain rfl : w1 = (.long i1) := Option.some.inj ei1
  obtain ⟨i2, ei2⟩ := isL_v hg2
  obtain rfl : w2 = (.long i2) := Option.some.inj ei2
  obtain ⟨dd, _, _, _, edd, -⟩ := Cond.exactly_spec (hsets _ (List.mem_of_getElem? (i := 4) rfl))
  have S0 := Sta.start (Z := s) edd (Or.inr ⟨(hw _ (List.mem_of_getElem? (i := 94) rfl)), (hsets _ (List.mem_of_getElem? (i := 0) rfl))⟩)
  obtain ⟨n, o, h1, h2, h3, _, L, rfl, ⟨rfl, N⟩, hq⟩ := rm0 l s _ hw tables_1 i0 i1 i2 dd s.heap s.heap.size (Nat.le_refl _) (Old.start s) S0 p e ha hc hk s m _ below hf ((Spec.applies_iff_loose hf).mp happ).1 ⟨rfl, State.Warmed39.refl s, rfl⟩ trivial
  refine ⟨n, _, h1, h2, h3, hpost _ _ _ _ _ _ ⟨Cond.after_iff.mpr rfl, Cond.after_iff.mpr (eq_i res_at (Term.int_eval (1)) rfl), trivial⟩ ⟨hq.1, hq.2.1, (hq.2.2.sift fun y hy => Or.inr (N y hy)).mono (by decide) (by decide)⟩⟩
theorem main_1_1 : Claimed_1_1 := comes_1 fun _ _ _ _ _ _ h hF => ⟨h.1, hF⟩
theorem main_1_2 : Claimed_1_2 := comes_1 fun _ _ _ _ _ _ h hF => ⟨h.2.1, hF⟩
end Jvm.Pilot.@@N@@
namespace Jvm.Pilot.@@N@@
open Jvm Jvm.ClassFile Sem Op Lib Jvm.Free Jvm.Stand Jvm.Pilot.@@N@@.Jvm.D
/-! MADE BY PROGRAM (witnessworld.py) out of the Statement's table words and the real class files: 36 classes; the members and pool entries that the words name. The judged class is class 1, her method 1. -/
namespace start1
open Jvm.ClassFile
def u (s : String) : CpInfo := .utf8 (stringToUtf16 s)
/-- a pool by its gaps: so many unusable entries, then the entry; so many at the end -/
def gap : Nat → List CpInfo → List CpInfo
  | 0, r => r
  | n + 1, r => .unusable :: gap n r
def poolList (es : List (Nat × CpInfo)) (last : Nat) : List CpInfo := es.foldr (fun e r => gap e.1 (e.2 :: r)) (gap last [])
def pool (es : List (Nat × CpInfo)) (last : Nat) : Array CpInfo := ⟨poolList es last⟩
def fileOf (pool : Array CpInfo) (this : Nat) (attrs : Array Attribute := #[]) (ms : Array MethodInfo := #[]) (fl : Nat := 33) (sup : Nat := 0) (ifs : Array Nat := #[]) (fds : Array FieldInfo := #[]) : ClassFile where
  minorVersion := 0
  majorVersion := 65
  constantPool := pool
  accessFlags := fl
  thisClass := this
  superClass := sup
  interfaces := ifs
  fields := fds
  methods := ms
  attributes := attrs
def plain (name : String) (sup : Option ClassId) : Class where
  name := name
  kind := .ordinary
  loader := none
  accessFlags := 33
  super := sup
  interfaces := #[]
  cf := none
  fields := #[]
  methods := #[]
  instanceTypes := #[]
  staticTypes := #[]
  resolved := #[]
  callSites := []
  init := .initialized
  statics := none
  mirror := none

def pool0 : Array CpInfo := pool [(5, u "<init>"), (0, u "()V"), (1, .class_ 10), (1, u "java/lang/Object")] 113

def k0c0 : Code := { maxStack := 0, maxLocals := 1, code := object_method_1_code, exceptionTable := #[], attributes := #[] }
def k0m0 : Method := { name := "<init>", desc := "()V", sig := { parameters := [], returnType := none }, accessFlags := 1, code := some k0c0 }
/-- java/lang/Object -/
def k0 : Class := { plain "java/lang/Object" none with
  accessFlags := 33
  interfaces := #[]
  cf := some (fileOf pool0 8 #[] #[{ accessFlags := 1, nameIndex := 5, descriptorIndex := 6, attributes := #[] }] 33 0 #[] #[])
  fields := #[]
  methods := #[k0m0]
  instanceTypes := #[]
  staticTypes := #[]
  resolved := Array.replicate 124 none
  statics := none }

def pool1 : Array CpInfo := pool [(2, .class_ 4), (1, u "java/lang/Object"), (0, u "<init>"), (0, u "()V"), (0, .class_ 8), (0, u "com/example/alert_tree/alerttree/server/OutputGate"), (0, .methodref 7 10), (0, .nameAndType 5 11), (0, u "(J)V"), (0, .methodref 7 13), (0, .nameAndType 14 15), (0, u "passes"), (0, u "(J)Z"), (0, .methodref 7 17), (0, .nameAndType 18 11), (0, u "open"), (0, .class_ 20), (0, u "com/example/alert_tree/alerttree/server/OutputGatePassesPinLaw"), (2, u "law"), (0, u "(JJJ)Z")] 3

def k1m0 : Method := { name := "<init>", desc := "()V", sig := { parameters := [], returnType := none }, accessFlags := 1, code := none }
def k1c1 : Code := { maxStack := 5, maxLocals := 13, code := code, exceptionTable := #[], attributes := #[] }
def k1m1 : Method := { name := "law", desc := "(JJJ)Z", sig := { parameters := [.long, .long, .long], returnType := some .boolean }, accessFlags := 9, code := some k1c1 }
/-- com/example/alert_tree/alerttree/server/OutputGatePassesPinLaw -/
def k1 : Class := { plain "com/example/alert_tree/alerttree/server/OutputGatePassesPinLaw" (some 0) with
  accessFlags := 49
  interfaces := #[]
  cf := some (fileOf pool1 19 #[] #[{ accessFlags := 1, nameIndex := 5, descriptorIndex := 6, attributes := #[] }, { accessFlags := 9, nameIndex := 23, descriptorIndex := 24, attributes := #[] }] 49 2 #[] #[])
  fields := #[]
  methods := #[k1m0, k1m1]
  instanceTypes := #[]
  staticTypes := #[]
  resolved := Array.replicate 28 none
  statics := none }

def pool2 : Array CpInfo := pool [(1, .methodref 2 3), (0, .class_ 4), (0, .nameAndType 5 6), (0, u "java/lang/Object"), (0, u "<init>"), (0, u "()V"), (0, .class_ 8), (0, u "java/util/LinkedHashSet"), (0, .methodref 7 3), (0, .fieldref 11 12), (0, .class_ 13), (0, .nameAndType 14 15), (0, u "com/example/alert_tree/alerttree/server/OutputGate"), (0, u "waiting"), (0, u "Ljava/util/Set;"), (0, .fieldref 11 17), (0, .nameAndType 18 19), (0, u "durableZxid"), (0, u "J"), (1, .class_ 23), (1, u "java/util/Set"), (5, .class_ 30), (0, u "java/util/ArrayList"), (0, .methodref 29 32), (0, .nameAndType 5 33), (0, u "(Ljava/util/Collection;)V"), (0, .interfaceMethodref 21 35), (0, .nameAndType 36 6), (0, u "clear"), (0, .interfaceMethodref 38 39), (0, .class_ 40), (0, .nameAndType 41 42), (0, u "java/util/List"), (0, u "iterator"), (0, u "()Ljava/util/Iterator;"), (0, .interfaceMethodref 44 45), (0, .class_ 46), (0, .nameAndType 47 48), (0, u "java/util/Iterator"), (0, u "hasNext"), (0, u "()Z"), (11, u "(J)V"), (2, u "passes"), (0, u "(J)Z"), (4, u "open")] 2

def k2c0 : Code := { maxStack := 3, maxLocals := 3, code := prog_56_method_1_code, exceptionTable := #[], attributes := #[] }
def k2m0 : Method := { name := "<init>", desc := "(J)V", sig := { parameters := [.long], returnType := none }, accessFlags := 0, code := some k2c0 }
def k2c1 : Code := { maxStack := 4, maxLocals := 3, code := prog_56_method_2_code, exceptionTable := #[], attributes := #[] }
def k2m1 : Method := { name := "passes", desc := "(J)Z", sig := { parameters := [.long], returnType := some .boolean }, accessFlags := 0, code := some k2c1 }
def k2c2 : Code := { maxStack := 4, maxLocals := 6, code := prog_56_method_5_code, exceptionTable := #[], attributes := #[] }
def k2m2 : Method := { name := "open", desc := "(J)V", sig := { parameters := [.long], returnType := none }, accessFlags := 0, code := some k2c2 }
/-- com/example/alert_tree/alerttree/server/OutputGate -/
def k2 : Class := { plain "com/example/alert_tree/alerttree/server/OutputGate" (some 0) with
  accessFlags := 32
  interfaces := #[]
  cf := some (fileOf pool2 11 #[] #[{ accessFlags := 0, nameIndex := 5, descriptorIndex := 60, attributes := #[] }, { accessFlags := 0, nameIndex := 63, descriptorIndex := 64, attributes := #[] }, { accessFlags := 0, nameIndex := 69, descriptorIndex := 60, attributes := #[] }] 32 2 #[] #[{ accessFlags := 18, nameIndex := 14, descriptorIndex := 15, attributes := #[] }, { accessFlags := 2, nameIndex := 18, descriptorIndex := 19, attributes := #[] }])
  fields := #[{ name := "waiting", type := (.object "java/util/Set"), accessFlags := 18, slot := 0, constantValue := 0 }, { name := "durableZxid", type := .long, accessFlags := 2, slot := 1, constantValue := 0 }]
  methods := #[k2m0, k2m1, k2m2]
  instanceTypes := #[(.object "java/util/Set"), .long]
  staticTypes := #[]
  resolved := Array.replicate 72 none
  statics := none }

def pool3 : Array CpInfo := pool [(8, .class_ 10), (1, u "java/lang/Iterable"), (24, .class_ 36), (0, u "java/lang/Object")] 25

/-- java/lang/Iterable -/
def k3 : Class := { plain "java/lang/Iterable" (some 0) with
  accessFlags := 1537
  interfaces := #[]
  cf := some (fileOf pool3 8 #[] #[] 1537 35 #[] #[])
  fields := #[]
  methods := #[]
  instanceTypes := #[]
  staticTypes := #[]
  resolved := Array.replicate 62 none
  statics := none }

def pool4 : Array CpInfo := pool [(10, .class_ 12), (1, u "java/util/Collection"), (0, u "toArray"), (46, .class_ 61), (0, u "java/lang/Object"), (0, .class_ 63), (0, u "java/lang/Iterable"), (6, u "()[Ljava/lang/Object;")] 44

def k4m0 : Method := { name := "toArray", desc := "()[Ljava/lang/Object;", sig := { parameters := [], returnType := some (.array (.object "java/lang/Object")) }, accessFlags := 1025, code := none }
/-- java/util/Collection -/
def k4 : Class := { plain "java/util/Collection" (some 0) with
  accessFlags := 1537
  interfaces := #[3]
  cf := some (fileOf pool4 10 #[] #[{ accessFlags := 1025, nameIndex := 13, descriptorIndex := 70, attributes := #[] }] 1537 60 #[62] #[])
  fields := #[]
  methods := #[k4m0]
  instanceTypes := #[]
  staticTypes := #[]
  resolved := Array.replicate 115 none
  statics := none }

def pool5 : Array CpInfo := pool [(1, .methodref 2 3), (0, .class_ 4), (0, .nameAndType 5 6), (0, u "java/lang/Object"), (0, u "<init>"), (0, u "()V"), (1, .class_ 10), (1, u "java/util/AbstractCollection"), (66, .class_ 78), (0, u "java/util/Collection")] 81

def k5c0 : Code := { maxStack := 1, maxLocals := 1, code := jdk_22_method_1_code, exceptionTable := #[], attributes := #[] }
def k5m0 : Method := { name := "<init>", desc := "()V", sig := { parameters := [], returnType := none }, accessFlags := 4, code := some k5c0 }
/-- java/util/AbstractCollection -/
def k5 : Class := { plain "java/util/AbstractCollection" (some 0) with
  accessFlags := 1057
  interfaces := #[4]
  cf := some (fileOf pool5 8 #[] #[{ accessFlags := 4, nameIndex := 5, descriptorIndex := 6, attributes := #[] }] 1057 2 #[77] #[])
  fields := #[]
  methods := #[k5m0]
  instanceTypes := #[]
  staticTypes := #[]
  resolved := Array.replicate 160 none
  statics := none }

def pool6 : Array CpInfo := pool [(26, .class_ 27), (0, u "java/lang/Object"), (5, .class_ 34), (0, u "java/util/Set"), (1, .class_ 38), (1, u "java/util/Collection"), (38, u "clear"), (0, u "()V")] 65

def k6m0 : Method := { name := "clear", desc := "()V", sig := { parameters := [], returnType := none }, accessFlags := 1025, code := none }
/-- java/util/Set -/
def k6 : Class := { plain "java/util/Set" (some 0) with
  accessFlags := 1537
  interfaces := #[4]
  cf := some (fileOf pool6 33 #[] #[{ accessFlags := 1025, nameIndex := 77, descriptorIndex := 78, attributes := #[] }] 1537 26 #[36] #[])
  fields := #[]
  methods := #[k6m0]
  instanceTypes := #[]
  staticTypes := #[]
  resolved := Array.replicate 144 none
  statics := none }

def pool7 : Array CpInfo := pool [(1, .methodref 2 3), (0, .class_ 4), (0, .nameAndType 5 6), (0, u "java/util/AbstractCollection"), (0, u "<init>"), (0, u "()V"), (0, .class_ 8), (0, u "java/util/Set"), (7, .class_ 17), (0, u "java/util/AbstractSet")] 78

def k7c0 : Code := { maxStack := 1, maxLocals := 1, code := jdk_91_method_1_code, exceptionTable := #[], attributes := #[] }
def k7m0 : Method := { name := "<init>", desc := "()V", sig := { parameters := [], returnType := none }, accessFlags := 4, code := some k7c0 }
/-- java/util/AbstractSet -/
def k7 : Class := { plain "java/util/AbstractSet" (some 5) with
  accessFlags := 1057
  interfaces := #[6]
  cf := some (fileOf pool7 16 #[] #[{ accessFlags := 4, nameIndex := 5, descriptorIndex := 6, attributes := #[] }] 1057 2 #[7] #[])
  fields := #[]
  methods := #[k7m0]
  instanceTypes := #[]
  staticTypes := #[]
  resolved := Array.replicate 96 none
  statics := none }

def pool8 : Array CpInfo := pool [(1, .class_ 2), (0, u "java/lang/Cloneable"), (0, .class_ 4), (0, u "java/lang/Object")] 2

/-- java/lang/Cloneable -/
def k8 : Class := { plain "java/lang/Cloneable" (some 0) with
  accessFlags := 1537
  interfaces := #[]
  cf := some (fileOf pool8 1 #[] #[] 1537 3 #[] #[])
  fields := #[]
  methods := #[]
  instanceTypes := #[]
  staticTypes := #[]
  resolved := Array.replicate 7 none
  statics := none }

def pool9 : Array CpInfo := pool [(1, .class_ 2), (0, u "java/io/Serializable"), (0, .class_ 4), (0, u "java/lang/Object")] 2

/-- java/io/Serializable -/
def k9 : Class := { plain "java/io/Serializable" (some 0) with
  accessFlags := 1537
  interfaces := #[]
  cf := some (fileOf pool9 1 #[] #[] 1537 3 #[] #[])
  fields := #[]
  methods := #[]
  instanceTypes := #[]
  staticTypes := #[]
  resolved := Array.replicate 7 none
  statics := none }

def pool10 : Array CpInfo := pool [(1, .methodref 2 3), (0, .class_ 4), (0, .nameAndType 5 6), (0, u "java/util/AbstractSet"), (0, u "<init>"), (0, u "()V"), (0, .class_ 8), (0, u "java/util/HashMap"), (1, .fieldref 11 12), (0, .class_ 13), (0, .nameAndType 14 15), (0, u "java/util/HashSet"), (0, u "map"), (0, u "Ljava/util/HashMap;"), (2, .nameAndType 20 21), (1, u "size"), (0, u "()I"), (15, .nameAndType 5 38), (0, u "(IF)V"), (3, .class_ 43), (0, u "java/util/LinkedHashMap"), (0, .methodref 42 37), (5, .class_ 52), (1, u "java/util/Set"), (2, .methodref 7 18), (10, u "PRESENT"), (0, u "Ljava/lang/Object;"), (8, .methodref 7 77), (0, .nameAndType 78 6), (0, u "clear"), (1, .class_ 82), (1, u "java/lang/Object"), (126, .methodref 7 210), (0, .nameAndType 211 212), (0, u "keysToArray"), (0, u "([Ljava/lang/Object;)[Ljava/lang/Object;"), (13, .class_ 227), (0, u "java/lang/Cloneable"), (0, .class_ 229), (0, u "java/io/Serializable"), (0, u "serialVersionUID"), (0, u "J"), (20, u "(IFZ)V"), (26, u "toArray"), (0, u "()[Ljava/lang/Object;")] 22

def k10m0 : Method := { name := "<init>", desc := "()V", sig := { parameters := [], returnType := none }, accessFlags := 1, code := none }
def k10c1 : Code := { maxStack := 5, maxLocals := 4, code := jdk_93_method_5_code, exceptionTable := #[], attributes := #[] }
def k10m1 : Method := { name := "<init>", desc := "(IFZ)V", sig := { parameters := [.int, .float, .boolean], returnType := none }, accessFlags := 0, code := some k10c1 }
def k10c2 : Code := { maxStack := 1, maxLocals := 1, code := jdk_93_method_12_code, exceptionTable := #[], attributes := #[] }
def k10m2 : Method := { name := "clear", desc := "()V", sig := { parameters := [], returnType := none }, accessFlags := 1, code := some k10c2 }
def k10c3 : Code := { maxStack := 2, maxLocals := 1, code := jdk_93_method_17_code, exceptionTable := #[], attributes := #[] }
def k10m3 : Method := { name := "toArray", desc := "()[Ljava/lang/Object;", sig := { parameters := [], returnType := some (.array (.object "java/lang/Object")) }, accessFlags := 1, code := some k10c3 }
/-- java/util/HashSet -/
def k10 : Class := { plain "java/util/HashSet" (some 7) with
  accessFlags := 33
  interfaces := #[6, 8, 9]
  cf := some (fileOf pool10 11 #[] #[{ accessFlags := 1, nameIndex := 5, descriptorIndex := 6, attributes := #[] }, { accessFlags := 0, nameIndex := 5, descriptorIndex := 252, attributes := #[] }, { accessFlags := 1, nameIndex := 78, descriptorIndex := 6, attributes := #[] }, { accessFlags := 1, nameIndex := 279, descriptorIndex := 280, attributes := #[] }] 33 2 #[50, 226, 228] #[{ accessFlags := 24, nameIndex := 230, descriptorIndex := 231, attributes := #[] }, { accessFlags := 128, nameIndex := 14, descriptorIndex := 15, attributes := #[] }, { accessFlags := 24, nameIndex := 66, descriptorIndex := 67, attributes := #[] }])
  fields := #[{ name := "serialVersionUID", type := .long, accessFlags := 24, slot := 0, constantValue := 0 }, { name := "map", type := (.object "java/util/HashMap"), accessFlags := 128, slot := 0, constantValue := 0 }, { name := "PRESENT", type := (.object "java/lang/Object"), accessFlags := 24, slot := 1, constantValue := 0 }]
  methods := #[k10m0, k10m1, k10m2, k10m3]
  instanceTypes := #[(.object "java/util/HashMap")]
  staticTypes := #[.long, (.object "java/lang/Object")]
  resolved := Array.replicate 303 none
  statics := none }

def pool11 : Array CpInfo := pool [(8, .class_ 10), (1, u "java/util/SequencedCollection"), (15, .class_ 27), (0, u "java/lang/Object"), (0, .class_ 29), (0, u "java/util/Collection")] 27

/-- java/util/SequencedCollection -/
def k11 : Class := { plain "java/util/SequencedCollection" (some 0) with
  accessFlags := 1537
  interfaces := #[4]
  cf := some (fileOf pool11 8 #[] #[] 1537 26 #[28] #[])
  fields := #[]
  methods := #[]
  instanceTypes := #[]
  staticTypes := #[]
  resolved := Array.replicate 57 none
  statics := none }

def pool12 : Array CpInfo := pool [(2, .class_ 4), (1, u "java/util/SequencedSet"), (2, .class_ 8), (0, u "java/lang/Object"), (0, .class_ 10), (0, u "java/util/SequencedCollection"), (0, .class_ 12), (0, u "java/util/Set")] 13

/-- java/util/SequencedSet -/
def k12 : Class := { plain "java/util/SequencedSet" (some 0) with
  accessFlags := 1537
  interfaces := #[11, 6]
  cf := some (fileOf pool12 2 #[] #[] 1537 7 #[9, 11] #[])
  fields := #[]
  methods := #[]
  instanceTypes := #[]
  staticTypes := #[]
  resolved := Array.replicate 26 none
  statics := none }

def pool13 : Array CpInfo := pool [(1, .methodref 2 3), (0, .class_ 4), (0, .nameAndType 5 6), (0, u "java/util/HashSet"), (0, u "<init>"), (0, u "(IFZ)V"), (0, .float 1061158912), (19, .class_ 29), (1, u "java/util/LinkedHashSet"), (16, u "()V"), (44, .class_ 93), (1, u "java/util/SequencedSet"), (11, .class_ 106), (0, u "java/util/LinkedHashSet$1ReverseLinkedHashSetView"), (6, .class_ 114), (0, u "java/lang/Cloneable"), (0, .class_ 116), (0, u "java/io/Serializable"), (0, u "serialVersionUID"), (0, u "J")] 44

def k13c0 : Code := { maxStack := 4, maxLocals := 1, code := jdk_2620_method_3_code, exceptionTable := #[], attributes := #[] }
def k13m0 : Method := { name := "<init>", desc := "()V", sig := { parameters := [], returnType := none }, accessFlags := 1, code := some k13c0 }
/-- java/util/LinkedHashSet -/
def k13 : Class := { plain "java/util/LinkedHashSet" (some 10) with
  accessFlags := 33
  interfaces := #[12, 8, 9]
  cf := some (fileOf pool13 27 #[.nestMembers #[105]] #[{ accessFlags := 1, nameIndex := 5, descriptorIndex := 46, attributes := #[] }] 33 2 #[91, 113, 115] #[{ accessFlags := 26, nameIndex := 117, descriptorIndex := 118, attributes := #[] }])
  fields := #[{ name := "serialVersionUID", type := .long, accessFlags := 26, slot := 0, constantValue := 0 }]
  methods := #[k13m0]
  instanceTypes := #[(.object "java/util/HashMap")]
  staticTypes := #[.long]
  resolved := Array.replicate 163 none
  statics := none }

def pool14 : Array CpInfo := pool [(2, .class_ 4), (1, u "java/util/Map"), (31, .class_ 37), (0, u "java/util/Map$Entry"), (55, .class_ 94), (0, u "java/lang/Object")] 168

/-- java/util/Map -/
def k14 : Class := { plain "java/util/Map" (some 0) with
  accessFlags := 1537
  interfaces := #[]
  cf := some (fileOf pool14 2 #[.nestMembers #[36]] #[] 1537 93 #[] #[])
  fields := #[]
  methods := #[]
  instanceTypes := #[]
  staticTypes := #[]
  resolved := Array.replicate 263 none
  statics := none }

def pool15 : Array CpInfo := pool [(1, .methodref 2 3), (0, .class_ 4), (0, .nameAndType 5 6), (0, u "java/lang/Object"), (0, u "<init>"), (0, u "()V"), (1, .class_ 10), (1, u "java/util/AbstractMap"), (42, .class_ 54), (0, u "java/util/Map"), (9, u "keySet"), (0, u "Ljava/util/Set;"), (0, .class_ 67), (0, u "java/util/AbstractMap$1"), (5, u "values"), (0, u "Ljava/util/Collection;"), (0, .class_ 76), (0, u "java/util/AbstractMap$2"), (104, .class_ 182), (0, u "java/util/AbstractMap$ViewCollection"), (0, .class_ 184), (0, u "java/util/AbstractMap$SimpleImmutableEntry"), (0, .class_ 186), (0, u "java/util/AbstractMap$SimpleEntry"), (0, .class_ 188), (0, u "java/util/AbstractMap$2$1"), (0, .class_ 190), (0, u "java/util/AbstractMap$1$1")] 5

def k15c0 : Code := { maxStack := 1, maxLocals := 1, code := jdk_71_method_1_code, exceptionTable := #[], attributes := #[] }
def k15m0 : Method := { name := "<init>", desc := "()V", sig := { parameters := [], returnType := none }, accessFlags := 4, code := some k15c0 }
/-- java/util/AbstractMap -/
def k15 : Class := { plain "java/util/AbstractMap" (some 0) with
  accessFlags := 1057
  interfaces := #[14]
  cf := some (fileOf pool15 8 #[.nestMembers #[181, 183, 185, 75, 187, 66, 189]] #[{ accessFlags := 4, nameIndex := 5, descriptorIndex := 6, attributes := #[] }] 1057 2 #[53] #[{ accessFlags := 128, nameIndex := 64, descriptorIndex := 65, attributes := #[] }, { accessFlags := 128, nameIndex := 73, descriptorIndex := 74, attributes := #[] }])
  fields := #[{ name := "keySet", type := (.object "java/util/Set"), accessFlags := 128, slot := 0, constantValue := 0 }, { name := "values", type := (.object "java/util/Collection"), accessFlags := 128, slot := 1, constantValue := 0 }]
  methods := #[k15m0]
  instanceTypes := #[(.object "java/util/Set"), (.object "java/util/Collection")]
  staticTypes := #[]
  resolved := Array.replicate 196 none
  statics := none }

def pool16 : Array CpInfo := pool [(6, u "()I"), (27, .methodref 35 36), (0, .class_ 37), (0, .nameAndType 38 39), (0, u "java/lang/Integer"), (0, u "numberOfLeadingZeros"), (0, u "(I)I"), (0, .class_ 41), (0, u "java/util/HashMap"), (0, .integer 1073741824), (0, .methodref 44 45), (0, .class_ 46), (0, .nameAndType 47 48), (0, u "java/util/AbstractMap"), (0, u "<init>"), (0, u "()V"), (21, .methodref 71 72), (0, .class_ 73), (0, .nameAndType 74 75), (0, u "java/lang/Float"), (0, u "isNaN"), (0, u "(F)Z"), (5, .fieldref 40 82), (0, .nameAndType 83 84), (0, u "loadFactor"), (0, u "F"), (0, .methodref 40 86), (0, .nameAndType 87 39), (0, u "tableSizeFor"), (0, .fieldref 40 89), (0, .nameAndType 90 91), (0, u "threshold"), (0, u "I"), (3, u "(IF)V"), (5, .class_ 103), (1, u "java/util/Map"), (0, u "size"), (0, .fieldref 40 106), (0, .nameAndType 107 108), (0, u "table"), (0, u "[Ljava/util/HashMap$Node;"), (14, u "entrySet"), (32, .fieldref 40 157), (0, .nameAndType 104 91), (5, .class_ 165), (1, u "java/util/HashMap$Node"), (14, .class_ 181), (0, u "java/util/HashMap$TreeNode"), (20, .fieldref 40 203), (0, .nameAndType 204 91), (0, u "modCount"), (37, u "Ljava/util/Set;"), (0, .class_ 244), (0, u "java/util/HashMap$KeySet"), (18, .class_ 264), (0, u "java/util/HashMap$Values"), (3, .class_ 269), (0, u "java/util/HashMap$EntrySet"), (76, .class_ 348), (1, u "java/util/HashMap$UnsafeHolder"), (43, .class_ 393), (0, u "java/lang/Cloneable"), (0, .class_ 395), (0, u "java/io/Serializable"), (0, u "serialVersionUID"), (0, u "J"), (3, u "DEFAULT_INITIAL_CAPACITY"), (1, u "MAXIMUM_CAPACITY"), (0, u "DEFAULT_LOAD_FACTOR"), (0, u "TREEIFY_THRESHOLD"), (1, u "UNTREEIFY_THRESHOLD"), (1, u "MIN_TREEIFY_CAPACITY"), (92, u "clear"), (5, u "([Ljava/lang/Object;)[Ljava/lang/Object;"), (3, u "keysToArray"), (83, .class_ 597), (0, u "java/util/HashMap$EntrySpliterator"), (0, .class_ 599), (0, u "java/util/HashMap$ValueSpliterator"), (0, .class_ 601), (0, u "java/util/HashMap$KeySpliterator"), (0, .class_ 603), (0, u "java/util/HashMap$HashMapSpliterator"), (0, .class_ 605), (0, u "java/util/HashMap$EntryIterator"), (0, .class_ 607), (0, u "java/util/HashMap$ValueIterator"), (0, .class_ 609), (0, u "java/util/HashMap$KeyIterator"), (0, .class_ 611), (0, u "java/util/HashMap$HashIterator")] 17

def k16c0 : Code := { maxStack := 3, maxLocals := 2, code := jdk_69_method_4_code, exceptionTable := #[], attributes := #[] }
def k16m0 : Method := { name := "tableSizeFor", desc := "(I)I", sig := { parameters := [.int], returnType := some .int }, accessFlags := 24, code := some k16c0 }
def k16c1 : Code := { maxStack := 4, maxLocals := 3, code := jdk_69_method_5_code, exceptionTable := #[], attributes := #[] }
def k16m1 : Method := { name := "<init>", desc := "(IF)V", sig := { parameters := [.int, .float], returnType := none }, accessFlags := 1, code := some k16c1 }
def k16m2 : Method := { name := "<init>", desc := "()V", sig := { parameters := [], returnType := none }, accessFlags := 1, code := none }
def k16c3 : Code := { maxStack := 1, maxLocals := 1, code := jdk_69_method_10_code, exceptionTable := #[], attributes := #[] }
def k16m3 : Method := { name := "size", desc := "()I", sig := { parameters := [], returnType := some .int }, accessFlags := 1, code := some k16c3 }
def k16c4 : Code := { maxStack := 3, maxLocals := 3, code := jdk_69_method_22_code, exceptionTable := #[], attributes := #[] }
def k16m4 : Method := { name := "clear", desc := "()V", sig := { parameters := [], returnType := none }, accessFlags := 1, code := some k16c4 }
def k16c5 : Code := { maxStack := 3, maxLocals := 9, code := ⟨#[0x2b, 0x4d, 0x03, 0x36, 0x04, 0x2a, 0xb4, 0x00, 0x9c, 0x9e, 0x00, 0x46, 0x2a, 0xb4, 0x00, 0x69, 0x59, 0x4e, 0xc6, 0x00, 0x3d, 0x2d, 0x3a, 0x05, 0x19, 0x05, 0xbe, 0x36, 0x06, 0x03, 0x36, 0x07, 0x15, 0x07, 0x15, 0x06, 0xa2, 0x00, 0x2b, 0x19, 0x05, 0x15, 0x07, 0x32, 0x3a, 0x08, 0x19, 0x08, 0xc6, 0x00, 0x19, 0x2c, 0x15, 0x04, 0x84, 0x04, 0x01, 0x19, 0x08, 0xb4, 0x00, 0xaa, 0x53, 0x19, 0x08, 0xb4, 0x00, 0xb1, 0x3a, 0x08, 0xa7, 0xff, 0xe8, 0x84, 0x07, 0x01, 0xa7, 0xff, 0xd4, 0x2b, 0xb0]⟩, exceptionTable := #[], attributes := #[] }
def k16m5 : Method := { name := "keysToArray", desc := "([Ljava/lang/Object;)[Ljava/lang/Object;", sig := { parameters := [(.array (.object "java/lang/Object"))], returnType := some (.array (.object "java/lang/Object")) }, accessFlags := 0, code := some k16c5 }
/-- java/util/HashMap -/
def k16 : Class := { plain "java/util/HashMap" (some 15) with
  accessFlags := 33
  interfaces := #[14, 8, 9]
  cf := some (fileOf pool16 40 #[.nestMembers #[180, 596, 598, 600, 602, 604, 606, 608, 610, 346, 268, 263, 243, 163]] #[{ accessFlags := 24, nameIndex := 87, descriptorIndex := 39, attributes := #[] }, { accessFlags := 1, nameIndex := 47, descriptorIndex := 95, attributes := #[] }, { accessFlags := 1, nameIndex := 47, descriptorIndex := 48, attributes := #[] }, { accessFlags := 1, nameIndex := 104, descriptorIndex := 6, attributes := #[] }, { accessFlags := 1, nameIndex := 502, descriptorIndex := 48, attributes := #[] }, { accessFlags := 0, nameIndex := 512, descriptorIndex := 508, attributes := #[] }] 33 44 #[101, 392, 394] #[{ accessFlags := 26, nameIndex := 396, descriptorIndex := 397, attributes := #[] }, { accessFlags := 24, nameIndex := 401, descriptorIndex := 91, attributes := #[] }, { accessFlags := 24, nameIndex := 403, descriptorIndex := 91, attributes := #[] }, { accessFlags := 24, nameIndex := 404, descriptorIndex := 84, attributes := #[] }, { accessFlags := 24, nameIndex := 405, descriptorIndex := 91, attributes := #[] }, { accessFlags := 24, nameIndex := 407, descriptorIndex := 91, attributes := #[] }, { accessFlags := 24, nameIndex := 409, descriptorIndex := 91, attributes := #[] }, { accessFlags := 128, nameIndex := 107, descriptorIndex := 108, attributes := #[] }, { accessFlags := 128, nameIndex := 123, descriptorIndex := 242, attributes := #[] }, { accessFlags := 128, nameIndex := 104, descriptorIndex := 91, attributes := #[] }, { accessFlags := 128, nameIndex := 204, descriptorIndex := 91, attributes := #[] }, { accessFlags := 0, nameIndex := 90, descriptorIndex := 91, attributes := #[] }, { accessFlags := 16, nameIndex := 83, descriptorIndex := 84, attributes := #[] }])
  fields := #[{ name := "serialVersionUID", type := .long, accessFlags := 26, slot := 0, constantValue := 0 }, { name := "DEFAULT_INITIAL_CAPACITY", type := .int, accessFlags := 24, slot := 1, constantValue := 0 }, { name := "MAXIMUM_CAPACITY", type := .int, accessFlags := 24, slot := 2, constantValue := 0 }, { name := "DEFAULT_LOAD_FACTOR", type := .float, accessFlags := 24, slot := 3, constantValue := 0 }, { name := "TREEIFY_THRESHOLD", type := .int, accessFlags := 24, slot := 4, constantValue := 0 }, { name := "UNTREEIFY_THRESHOLD", type := .int, accessFlags := 24, slot := 5, constantValue := 0 }, { name := "MIN_TREEIFY_CAPACITY", type := .int, accessFlags := 24, slot := 6, constantValue := 0 }, { name := "table", type := (.array (.object "java/util/HashMap$Node")), accessFlags := 128, slot := 2, constantValue := 0 }, { name := "entrySet", type := (.object "java/util/Set"), accessFlags := 128, slot := 3, constantValue := 0 }, { name := "size", type := .int, accessFlags := 128, slot := 4, constantValue := 0 }, { name := "modCount", type := .int, accessFlags := 128, slot := 5, constantValue := 0 }, { name := "threshold", type := .int, accessFlags := 0, slot := 6, constantValue := 0 }, { name := "loadFactor", type := .float, accessFlags := 16, slot := 7, constantValue := 0 }]
  methods := #[k16m0, k16m1, k16m2, k16m3, k16m4, k16m5]
  instanceTypes := #[(.object "java/util/Set"), (.object "java/util/Collection"), (.array (.object "java/util/HashMap$Node")), (.object "java/util/Set"), .int, .int, .int, .float]
  staticTypes := #[.long, .int, .int, .float, .int, .int, .int]
  resolved := Array.replicate 629 none
  statics := none }

def pool17 : Array CpInfo := pool [(2, .class_ 4), (1, u "java/util/SequencedMap"), (38, .class_ 44), (0, u "java/util/SequencedMap$1SeqKeySet"), (3, .class_ 49), (0, u "java/util/SequencedMap$1SeqValues"), (1, .class_ 52), (0, u "java/util/SequencedMap$1SeqEntrySet"), (1, .class_ 55), (0, u "java/lang/Object"), (0, .class_ 57), (0, u "java/util/Map")] 48

/-- java/util/SequencedMap -/
def k17 : Class := { plain "java/util/SequencedMap" (some 0) with
  accessFlags := 1537
  interfaces := #[14]
  cf := some (fileOf pool17 2 #[.nestMembers #[51, 48, 43]] #[] 1537 54 #[56] #[])
  fields := #[]
  methods := #[]
  instanceTypes := #[]
  staticTypes := #[]
  resolved := Array.replicate 106 none
  statics := none }

def pool18 : Array CpInfo := pool [(1, .fieldref 2 3), (0, .class_ 4), (0, .nameAndType 5 6), (0, u "java/util/LinkedHashMap"), (0, u "putMode"), (0, u "I"), (0, .fieldref 2 8), (0, .nameAndType 9 10), (0, u "head"), (0, u "Ljava/util/LinkedHashMap$Entry;"), (0, .fieldref 2 12), (0, .nameAndType 13 10), (0, u "tail"), (1, .class_ 17), (1, u "java/util/LinkedHashMap$Entry"), (5, .class_ 25), (1, u "java/util/HashMap"), (1, u "()V"), (2, u "<init>"), (33, .fieldref 2 65), (0, .nameAndType 66 67), (0, u "accessOrder"), (0, u "Z"), (13, .methodref 23 82), (0, .nameAndType 30 83), (0, u "(IF)V"), (26, .methodref 23 111), (0, .nameAndType 112 27), (0, u "clear"), (8, .class_ 122), (0, u "java/util/LinkedHashMap$LinkedKeySet"), (8, .methodref 2 132), (0, .nameAndType 133 134), (0, u "keysToArray"), (0, u "([Ljava/lang/Object;Z)[Ljava/lang/Object;"), (8, .class_ 144), (0, u "java/util/LinkedHashMap$LinkedValues"), (9, .class_ 155), (0, u "java/util/LinkedHashMap$LinkedEntrySet"), (44, .class_ 201), (0, u "java/util/LinkedHashMap$ReversedLinkedHashMapView"), (3, .class_ 206), (0, u "java/util/SequencedMap"), (0, u "serialVersionUID"), (0, u "J"), (5, u "PUT_NORM"), (1, u "PUT_FIRST"), (1, u "PUT_LAST"), (94, u "([Ljava/lang/Object;)[Ljava/lang/Object;"), (48, .class_ 363), (0, u "java/util/LinkedHashMap$LinkedEntryIterator"), (0, .class_ 365), (0, u "java/util/LinkedHashMap$LinkedValueIterator"), (0, .class_ 367), (0, u "java/util/LinkedHashMap$LinkedKeyIterator"), (0, .class_ 369), (0, u "java/util/LinkedHashMap$LinkedHashIterator")] 16

def k18c0 : Code := { maxStack := 3, maxLocals := 3, code := jdk_94_method_14_code, exceptionTable := #[], attributes := #[] }
def k18m0 : Method := { name := "<init>", desc := "(IF)V", sig := { parameters := [.int, .float], returnType := none }, accessFlags := 1, code := some k18c0 }
def k18m1 : Method := { name := "<init>", desc := "()V", sig := { parameters := [], returnType := none }, accessFlags := 1, code := none }
def k18c2 : Code := { maxStack := 4, maxLocals := 1, code := jdk_94_method_22_code, exceptionTable := #[], attributes := #[] }
def k18m2 : Method := { name := "clear", desc := "()V", sig := { parameters := [], returnType := none }, accessFlags := 1, code := some k18c2 }
def k18c3 : Code := { maxStack := 3, maxLocals := 2, code := jdk_94_method_27_code, exceptionTable := #[], attributes := #[] }
def k18m3 : Method := { name := "keysToArray", desc := "([Ljava/lang/Object;)[Ljava/lang/Object;", sig := { parameters := [(.array (.object "java/lang/Object"))], returnType := some (.array (.object "java/lang/Object")) }, accessFlags := 16, code := some k18c3 }
def k18c4 : Code := { maxStack := 3, maxLocals := 6, code := jdk_94_method_28_code, exceptionTable := #[], attributes := #[] }
def k18m4 : Method := { name := "keysToArray", desc := "([Ljava/lang/Object;Z)[Ljava/lang/Object;", sig := { parameters := [(.array (.object "java/lang/Object")), .boolean], returnType := some (.array (.object "java/lang/Object")) }, accessFlags := 16, code := some k18c4 }
/-- java/util/LinkedHashMap -/
def k18 : Class := { plain "java/util/LinkedHashMap" (some 16) with
  accessFlags := 33
  interfaces := #[17]
  cf := some (fileOf pool18 2 #[.nestMembers #[200, 362, 364, 366, 368, 154, 143, 121, 15]] #[{ accessFlags := 1, nameIndex := 30, descriptorIndex := 83, attributes := #[] }, { accessFlags := 1, nameIndex := 30, descriptorIndex := 27, attributes := #[] }, { accessFlags := 1, nameIndex := 112, descriptorIndex := 27, attributes := #[] }, { accessFlags := 16, nameIndex := 133, descriptorIndex := 313, attributes := #[] }, { accessFlags := 16, nameIndex := 133, descriptorIndex := 134, attributes := #[] }] 33 23 #[205] #[{ accessFlags := 26, nameIndex := 207, descriptorIndex := 208, attributes := #[] }, { accessFlags := 128, nameIndex := 9, descriptorIndex := 10, attributes := #[] }, { accessFlags := 128, nameIndex := 13, descriptorIndex := 10, attributes := #[] }, { accessFlags := 16, nameIndex := 66, descriptorIndex := 67, attributes := #[] }, { accessFlags := 24, nameIndex := 214, descriptorIndex := 6, attributes := #[] }, { accessFlags := 24, nameIndex := 216, descriptorIndex := 6, attributes := #[] }, { accessFlags := 24, nameIndex := 218, descriptorIndex := 6, attributes := #[] }, { accessFlags := 128, nameIndex := 5, descriptorIndex := 6, attributes := #[] }])
  fields := #[{ name := "serialVersionUID", type := .long, accessFlags := 26, slot := 0, constantValue := 0 }, { name := "head", type := (.object "java/util/LinkedHashMap$Entry"), accessFlags := 128, slot := 8, constantValue := 0 }, { name := "tail", type := (.object "java/util/LinkedHashMap$Entry"), accessFlags := 128, slot := 9, constantValue := 0 }, { name := "accessOrder", type := .boolean, accessFlags := 16, slot := 10, constantValue := 0 }, { name := "PUT_NORM", type := .int, accessFlags := 24, slot := 1, constantValue := 0 }, { name := "PUT_FIRST", type := .int, accessFlags := 24, slot := 2, constantValue := 0 }, { name := "PUT_LAST", type := .int, accessFlags := 24, slot := 3, constantValue := 0 }, { name := "putMode", type := .int, accessFlags := 128, slot := 11, constantValue := 0 }]
  methods := #[k18m0, k18m1, k18m2, k18m3, k18m4]
  instanceTypes := #[(.object "java/util/Set"), (.object "java/util/Collection"), (.array (.object "java/util/HashMap$Node")), (.object "java/util/Set"), .int, .int, .int, .float, (.object "java/util/LinkedHashMap$Entry"), (.object "java/util/LinkedHashMap$Entry"), .boolean, .int]
  staticTypes := #[.long, .int, .int, .int]
  resolved := Array.replicate 386 none
  statics := none }

def pool19 : Array CpInfo := pool [(2, .class_ 4), (1, u "java/lang/Object"), (0, u "<init>"), (0, u "()V"), (1, .class_ 10), (1, u "java/lang/Number"), (2, .class_ 14), (0, u "java/io/Serializable"), (0, u "serialVersionUID"), (0, u "J")] 20

def k19m0 : Method := { name := "<init>", desc := "()V", sig := { parameters := [], returnType := none }, accessFlags := 1, code := none }
/-- java/lang/Number -/
def k19 : Class := { plain "java/lang/Number" (some 0) with
  accessFlags := 1057
  interfaces := #[9]
  cf := some (fileOf pool19 8 #[] #[{ accessFlags := 1, nameIndex := 5, descriptorIndex := 6, attributes := #[] }] 1057 2 #[13] #[{ accessFlags := 26, nameIndex := 15, descriptorIndex := 16, attributes := #[] }])
  fields := #[{ name := "serialVersionUID", type := .long, accessFlags := 26, slot := 0, constantValue := 0 }]
  methods := #[k19m0]
  instanceTypes := #[]
  staticTypes := #[.long]
  resolved := Array.replicate 37 none
  statics := none }

def pool20 : Array CpInfo := pool [(1, .class_ 2), (0, u "java/lang/Comparable"), (0, .class_ 4), (0, u "java/lang/Object")] 7

/-- java/lang/Comparable -/
def k20 : Class := { plain "java/lang/Comparable" (some 0) with
  accessFlags := 1537
  interfaces := #[]
  cf := some (fileOf pool20 1 #[] #[] 1537 3 #[] #[])
  fields := #[]
  methods := #[]
  instanceTypes := #[]
  staticTypes := #[]
  resolved := Array.replicate 12 none
  statics := none }

def pool21 : Array CpInfo := pool [(1, .class_ 2), (0, u "java/lang/constant/Constable"), (0, .class_ 4), (0, u "java/lang/Object")] 6

/-- java/lang/constant/Constable -/
def k21 : Class := { plain "java/lang/constant/Constable" (some 0) with
  accessFlags := 1537
  interfaces := #[]
  cf := some (fileOf pool21 1 #[] #[] 1537 3 #[] #[])
  fields := #[]
  methods := #[]
  instanceTypes := #[]
  staticTypes := #[]
  resolved := Array.replicate 11 none
  statics := none }

def pool22 : Array CpInfo := pool [(1, .class_ 2), (0, u "java/lang/constant/ConstantDesc"), (0, .class_ 4), (0, u "java/lang/Object")] 32

/-- java/lang/constant/ConstantDesc -/
def k22 : Class := { plain "java/lang/constant/ConstantDesc" (some 0) with
  accessFlags := 1537
  interfaces := #[]
  cf := some (fileOf pool22 1 #[] #[] 1537 3 #[] #[])
  fields := #[]
  methods := #[]
  instanceTypes := #[]
  staticTypes := #[]
  resolved := Array.replicate 37 none
  statics := none }

def pool23 : Array CpInfo := pool [(1, .class_ 2), (0, u "java/lang/Float"), (48, .class_ 53), (1, u "java/lang/Number"), (3, u "value"), (0, u "F"), (2, u "isNaN"), (0, u "(F)Z"), (28, u "$assertionsDisabled"), (0, u "Z"), (52, u "TYPE"), (0, u "Ljava/lang/Class;"), (0, .class_ 148), (0, u "java/lang/Comparable"), (0, .class_ 150), (0, u "java/lang/constant/Constable"), (0, .class_ 152), (0, u "java/lang/constant/ConstantDesc"), (0, u "POSITIVE_INFINITY"), (1, u "NEGATIVE_INFINITY"), (1, u "NaN"), (1, u "MAX_VALUE"), (0, u "MIN_NORMAL"), (0, u "MIN_VALUE"), (1, u "SIZE"), (0, u "I"), (1, u "PRECISION"), (1, u "MAX_EXPONENT"), (1, u "MIN_EXPONENT"), (1, u "BYTES"), (3, u "serialVersionUID"), (0, u "J")] 101

def k23c0 : Code := { maxStack := 2, maxLocals := 1, code := jdk_118_method_6_code, exceptionTable := #[], attributes := #[] }
def k23m0 : Method := { name := "isNaN", desc := "(F)Z", sig := { parameters := [.float], returnType := some .boolean }, accessFlags := 9, code := some k23c0 }
/-- java/lang/Float -/
def k23 : Class := { plain "java/lang/Float" (some 19) with
  accessFlags := 49
  interfaces := #[20, 21, 22]
  cf := some (fileOf pool23 1 #[] #[{ accessFlags := 9, nameIndex := 61, descriptorIndex := 62, attributes := #[] }] 49 51 #[147, 149, 151] #[{ accessFlags := 25, nameIndex := 153, descriptorIndex := 58, attributes := #[] }, { accessFlags := 25, nameIndex := 155, descriptorIndex := 58, attributes := #[] }, { accessFlags := 25, nameIndex := 157, descriptorIndex := 58, attributes := #[] }, { accessFlags := 25, nameIndex := 159, descriptorIndex := 58, attributes := #[] }, { accessFlags := 25, nameIndex := 160, descriptorIndex := 58, attributes := #[] }, { accessFlags := 25, nameIndex := 161, descriptorIndex := 58, attributes := #[] }, { accessFlags := 25, nameIndex := 163, descriptorIndex := 164, attributes := #[] }, { accessFlags := 25, nameIndex := 166, descriptorIndex := 164, attributes := #[] }, { accessFlags := 25, nameIndex := 168, descriptorIndex := 164, attributes := #[] }, { accessFlags := 25, nameIndex := 170, descriptorIndex := 164, attributes := #[] }, { accessFlags := 25, nameIndex := 172, descriptorIndex := 164, attributes := #[] }, { accessFlags := 25, nameIndex := 145, descriptorIndex := 146, attributes := #[] }, { accessFlags := 18, nameIndex := 57, descriptorIndex := 58, attributes := #[] }, { accessFlags := 26, nameIndex := 176, descriptorIndex := 177, attributes := #[] }, { accessFlags := 4120, nameIndex := 91, descriptorIndex := 92, attributes := #[] }])
  fields := #[{ name := "POSITIVE_INFINITY", type := .float, accessFlags := 25, slot := 0, constantValue := 0 }, { name := "NEGATIVE_INFINITY", type := .float, accessFlags := 25, slot := 1, constantValue := 0 }, { name := "NaN", type := .float, accessFlags := 25, slot := 2, constantValue := 0 }, { name := "MAX_VALUE", type := .float, accessFlags := 25, slot := 3, constantValue := 0 }, { name := "MIN_NORMAL", type := .float, accessFlags := 25, slot := 4, constantValue := 0 }, { name := "MIN_VALUE", type := .float, accessFlags := 25, slot := 5, constantValue := 0 }, { name := "SIZE", type := .int, accessFlags := 25, slot := 6, constantValue := 0 }, { name := "PRECISION", type := .int, accessFlags := 25, slot := 7, constantValue := 0 }, { name := "MAX_EXPONENT", type := .int, accessFlags := 25, slot := 8, constantValue := 0 }, { name := "MIN_EXPONENT", type := .int, accessFlags := 25, slot := 9, constantValue := 0 }, { name := "BYTES", type := .int, accessFlags := 25, slot := 10, constantValue := 0 }, { name := "TYPE", type := (.object "java/lang/Class"), accessFlags := 25, slot := 11, constantValue := 0 }, { name := "value", type := .float, accessFlags := 18, slot := 0, constantValue := 0 }, { name := "serialVersionUID", type := .long, accessFlags := 26, slot := 12, constantValue := 0 }, { name := "$assertionsDisabled", type := .boolean, accessFlags := 4120, slot := 13, constantValue := 0 }]
  methods := #[k23m0]
  instanceTypes := #[.float]
  staticTypes := #[.float, .float, .float, .float, .float, .float, .int, .int, .int, .int, .int, (.object "java/lang/Class"), .long, .boolean]
  resolved := Array.replicate 279 none
  statics := none }

def pool24 : Array CpInfo := pool [(1, .class_ 2), (0, u "java/lang/Integer"), (16, u "digits"), (0, u "[C"), (32, u "numberOfLeadingZeros"), (0, u "(I)I"), (30, u "DigitOnes"), (0, u "[B"), (2, u "DigitTens"), (99, .class_ 190), (0, u "java/lang/Integer$IntegerCache"), (3, u "I"), (8, .class_ 204), (0, u "java/lang/Number"), (2, u "value"), (56, .integer 65536), (37, u "TYPE"), (0, u "Ljava/lang/Class;"), (0, .class_ 305), (0, u "java/lang/Comparable"), (0, .class_ 307), (0, u "java/lang/constant/Constable"), (0, .class_ 309), (0, u "java/lang/constant/ConstantDesc"), (0, u "MIN_VALUE"), (1, u "MAX_VALUE"), (3, u "SIZE"), (1, u "BYTES"), (1, u "serialVersionUID"), (0, u "J")] 131

def k24c0 : Code := { maxStack := 3, maxLocals := 2, code := jdk_33_method_47_code, exceptionTable := #[], attributes := #[] }
def k24m0 : Method := { name := "numberOfLeadingZeros", desc := "(I)I", sig := { parameters := [.int], returnType := some .int }, accessFlags := 9, code := some k24c0 }
/-- java/lang/Integer -/
def k24 : Class := { plain "java/lang/Integer" (some 19) with
  accessFlags := 49
  interfaces := #[20, 21, 22]
  cf := some (fileOf pool24 1 #[.nestMembers #[189]] #[{ accessFlags := 9, nameIndex := 53, descriptorIndex := 54, attributes := #[] }] 49 203 #[304, 306, 308] #[{ accessFlags := 25, nameIndex := 310, descriptorIndex := 194, attributes := #[] }, { accessFlags := 25, nameIndex := 312, descriptorIndex := 194, attributes := #[] }, { accessFlags := 25, nameIndex := 302, descriptorIndex := 303, attributes := #[] }, { accessFlags := 24, nameIndex := 19, descriptorIndex := 20, attributes := #[] }, { accessFlags := 24, nameIndex := 89, descriptorIndex := 86, attributes := #[] }, { accessFlags := 24, nameIndex := 85, descriptorIndex := 86, attributes := #[] }, { accessFlags := 18, nameIndex := 207, descriptorIndex := 194, attributes := #[] }, { accessFlags := 25, nameIndex := 316, descriptorIndex := 194, attributes := #[] }, { accessFlags := 25, nameIndex := 318, descriptorIndex := 194, attributes := #[] }, { accessFlags := 26, nameIndex := 320, descriptorIndex := 321, attributes := #[] }])
  fields := #[{ name := "MIN_VALUE", type := .int, accessFlags := 25, slot := 0, constantValue := 0 }, { name := "MAX_VALUE", type := .int, accessFlags := 25, slot := 1, constantValue := 0 }, { name := "TYPE", type := (.object "java/lang/Class"), accessFlags := 25, slot := 2, constantValue := 0 }, { name := "digits", type := (.array .char), accessFlags := 24, slot := 3, constantValue := 0 }, { name := "DigitTens", type := (.array .byte), accessFlags := 24, slot := 4, constantValue := 0 }, { name := "DigitOnes", type := (.array .byte), accessFlags := 24, slot := 5, constantValue := 0 }, { name := "value", type := .int, accessFlags := 18, slot := 0, constantValue := 0 }, { name := "SIZE", type := .int, accessFlags := 25, slot := 6, constantValue := 0 }, { name := "BYTES", type := .int, accessFlags := 25, slot := 7, constantValue := 0 }, { name := "serialVersionUID", type := .long, accessFlags := 26, slot := 8, constantValue := 0 }]
  methods := #[k24m0]
  instanceTypes := #[.int]
  staticTypes := #[.int, .int, (.object "java/lang/Class"), (.array .char), (.array .byte), (.array .byte), .int, .int, .long]
  resolved := Array.replicate 453 none
  statics := none }

def pool25 : Array CpInfo := pool [(8, .class_ 10), (1, u "java/util/List"), (92, .class_ 104), (0, u "java/lang/Object"), (15, .class_ 121), (0, u "java/util/SequencedCollection"), (1, u "iterator"), (0, u "()Ljava/util/Iterator;")] 126

def k25m0 : Method := { name := "iterator", desc := "()Ljava/util/Iterator;", sig := { parameters := [], returnType := some (.object "java/util/Iterator") }, accessFlags := 1025, code := none }
/-- java/util/List -/
def k25 : Class := { plain "java/util/List" (some 0) with
  accessFlags := 1537
  interfaces := #[11]
  cf := some (fileOf pool25 8 #[] #[{ accessFlags := 1025, nameIndex := 123, descriptorIndex := 124, attributes := #[] }] 1537 103 #[120] #[])
  fields := #[]
  methods := #[k25m0]
  instanceTypes := #[]
  staticTypes := #[]
  resolved := Array.replicate 251 none
  statics := none }

def pool26 : Array CpInfo := pool [(1, .methodref 2 3), (0, .class_ 4), (0, .nameAndType 5 6), (0, u "java/util/AbstractCollection"), (0, u "<init>"), (0, u "()V"), (0, .fieldref 8 9), (0, .class_ 10), (0, .nameAndType 11 12), (0, u "java/util/AbstractList"), (0, u "modCount"), (0, u "I"), (64, .class_ 78), (0, u "java/util/AbstractList$Itr"), (3, .class_ 83), (0, u "java/util/AbstractList$ListItr"), (9, .class_ 94), (0, u "java/util/AbstractList$RandomAccessSubList"), (3, .class_ 99), (0, u "java/util/AbstractList$SubList"), (33, .class_ 134), (0, u "java/util/List"), (73, .class_ 209), (0, u "java/util/AbstractList$SubList$1"), (0, .class_ 211), (0, u "java/util/AbstractList$RandomAccessSpliterator")] 6

def k26c0 : Code := { maxStack := 2, maxLocals := 1, code := jdk_39_method_1_code, exceptionTable := #[], attributes := #[] }
def k26m0 : Method := { name := "<init>", desc := "()V", sig := { parameters := [], returnType := none }, accessFlags := 4, code := some k26c0 }
/-- java/util/AbstractList -/
def k26 : Class := { plain "java/util/AbstractList" (some 5) with
  accessFlags := 1057
  interfaces := #[25]
  cf := some (fileOf pool26 8 #[.nestMembers #[93, 98, 208, 210, 82, 77]] #[{ accessFlags := 4, nameIndex := 5, descriptorIndex := 6, attributes := #[] }] 1057 2 #[133] #[{ accessFlags := 132, nameIndex := 11, descriptorIndex := 12, attributes := #[] }])
  fields := #[{ name := "modCount", type := .int, accessFlags := 132, slot := 0, constantValue := 0 }]
  methods := #[k26m0]
  instanceTypes := #[.int]
  staticTypes := #[]
  resolved := Array.replicate 218 none
  statics := none }

def pool27 : Array CpInfo := pool [(1, .class_ 2), (0, u "java/util/RandomAccess"), (0, .class_ 4), (0, u "java/lang/Object")] 2

/-- java/util/RandomAccess -/
def k27 : Class := { plain "java/util/RandomAccess" (some 0) with
  accessFlags := 1537
  interfaces := #[]
  cf := some (fileOf pool27 1 #[] #[] 1537 3 #[] #[])
  fields := #[]
  methods := #[]
  instanceTypes := #[]
  staticTypes := #[]
  resolved := Array.replicate 7 none
  statics := none }

def pool28 : Array CpInfo := pool [(1, .methodref 2 3), (0, .class_ 4), (0, .nameAndType 5 6), (0, u "java/util/AbstractList"), (0, u "<init>"), (0, u "()V"), (2, .fieldref 10 11), (0, .class_ 12), (0, .nameAndType 13 14), (0, u "java/util/ArrayList"), (0, u "elementData"), (0, u "[Ljava/lang/Object;"), (0, .fieldref 10 16), (0, .nameAndType 17 14), (0, u "EMPTY_ELEMENTDATA"), (23, u "DEFAULTCAPACITY_EMPTY_ELEMENTDATA"), (0, .interfaceMethodref 43 44), (0, .class_ 45), (0, .nameAndType 46 47), (0, u "java/util/Collection"), (0, u "toArray"), (0, u "()[Ljava/lang/Object;"), (0, .fieldref 10 49), (0, .nameAndType 50 51), (0, u "size"), (0, u "I"), (96, .class_ 149), (0, u "java/util/List"), (16, u "iterator"), (0, u "()Ljava/util/Iterator;"), (94, .class_ 263), (0, u "java/util/ArrayList$ListItr"), (3, .class_ 268), (0, u "java/util/ArrayList$Itr"), (0, .methodref 267 270), (0, .nameAndType 5 271), (0, u "(Ljava/util/ArrayList;)V"), (4, .class_ 277), (0, u "java/util/ArrayList$SubList"), (12, .class_ 291), (0, u "java/util/ArrayList$ArrayListSpliterator"), (37, .class_ 330), (0, u "java/util/RandomAccess"), (0, .class_ 332), (0, u "java/lang/Cloneable"), (0, .class_ 334), (0, u "java/io/Serializable"), (0, u "serialVersionUID"), (0, u "J"), (3, u "DEFAULT_CAPACITY"), (10, u "(Ljava/util/Collection;)V"), (148, .class_ 501), (0, u "java/util/ArrayList$SubList$2"), (0, .class_ 503), (0, u "java/util/ArrayList$SubList$1")] 5

def k28m0 : Method := { name := "<init>", desc := "()V", sig := { parameters := [], returnType := none }, accessFlags := 1, code := none }
def k28c1 : Code := { maxStack := 4, maxLocals := 3, code := jdk_38_method_3_code, exceptionTable := #[], attributes := #[] }
def k28m1 : Method := { name := "<init>", desc := "(Ljava/util/Collection;)V", sig := { parameters := [(.object "java/util/Collection")], returnType := none }, accessFlags := 1, code := some k28c1 }
def k28c2 : Code := { maxStack := 3, maxLocals := 1, code := jdk_38_method_55_code, exceptionTable := #[], attributes := #[] }
def k28m2 : Method := { name := "iterator", desc := "()Ljava/util/Iterator;", sig := { parameters := [], returnType := some (.object "java/util/Iterator") }, accessFlags := 1, code := some k28c2 }
/-- java/util/ArrayList -/
def k28 : Class := { plain "java/util/ArrayList" (some 26) with
  accessFlags := 33
  interfaces := #[25, 27, 8, 9]
  cf := some (fileOf pool28 10 #[.nestMembers #[290, 276, 500, 502, 262, 267]] #[{ accessFlags := 1, nameIndex := 5, descriptorIndex := 6, attributes := #[] }, { accessFlags := 1, nameIndex := 5, descriptorIndex := 351, attributes := #[] }, { accessFlags := 1, nameIndex := 166, descriptorIndex := 167, attributes := #[] }] 33 2 #[148, 329, 331, 333] #[{ accessFlags := 26, nameIndex := 335, descriptorIndex := 336, attributes := #[] }, { accessFlags := 26, nameIndex := 340, descriptorIndex := 51, attributes := #[] }, { accessFlags := 26, nameIndex := 17, descriptorIndex := 14, attributes := #[] }, { accessFlags := 26, nameIndex := 41, descriptorIndex := 14, attributes := #[] }, { accessFlags := 128, nameIndex := 13, descriptorIndex := 14, attributes := #[] }, { accessFlags := 2, nameIndex := 50, descriptorIndex := 51, attributes := #[] }])
  fields := #[{ name := "serialVersionUID", type := .long, accessFlags := 26, slot := 0, constantValue := 0 }, { name := "DEFAULT_CAPACITY", type := .int, accessFlags := 26, slot := 1, constantValue := 0 }, { name := "EMPTY_ELEMENTDATA", type := (.array (.object "java/lang/Object")), accessFlags := 26, slot := 2, constantValue := 0 }, { name := "DEFAULTCAPACITY_EMPTY_ELEMENTDATA", type := (.array (.object "java/lang/Object")), accessFlags := 26, slot := 3, constantValue := 0 }, { name := "elementData", type := (.array (.object "java/lang/Object")), accessFlags := 128, slot := 1, constantValue := 0 }, { name := "size", type := .int, accessFlags := 2, slot := 2, constantValue := 0 }]
  methods := #[k28m0, k28m1, k28m2]
  instanceTypes := #[.int, (.array (.object "java/lang/Object")), .int]
  staticTypes := #[.long, .int, (.array (.object "java/lang/Object")), (.array (.object "java/lang/Object"))]
  resolved := Array.replicate 509 none
  statics := some 0 }

def pool29 : Array CpInfo := pool [(16, .class_ 18), (1, u "java/util/Iterator"), (0, u "hasNext"), (0, u "()Z"), (10, .class_ 32), (0, u "java/lang/Object")] 20

def k29m0 : Method := { name := "hasNext", desc := "()Z", sig := { parameters := [], returnType := some .boolean }, accessFlags := 1025, code := none }
/-- java/util/Iterator -/
def k29 : Class := { plain "java/util/Iterator" (some 0) with
  accessFlags := 1537
  interfaces := #[]
  cf := some (fileOf pool29 16 #[] #[{ accessFlags := 1025, nameIndex := 19, descriptorIndex := 20, attributes := #[] }] 1537 31 #[] #[])
  fields := #[]
  methods := #[k29m0]
  instanceTypes := #[]
  staticTypes := #[]
  resolved := Array.replicate 53 none
  statics := none }

def pool30 : Array CpInfo := pool [(1, .fieldref 2 3), (0, .class_ 4), (0, .nameAndType 5 6), (0, u "java/util/ArrayList$Itr"), (0, u "this$0"), (0, u "Ljava/util/ArrayList;"), (0, .methodref 8 9), (0, .class_ 10), (0, .nameAndType 11 12), (0, u "java/lang/Object"), (0, u "<init>"), (0, u "()V"), (0, .fieldref 2 14), (0, .nameAndType 15 16), (0, u "lastRet"), (0, u "I"), (0, .fieldref 18 19), (0, .class_ 20), (0, .nameAndType 21 16), (0, u "java/util/ArrayList"), (0, u "modCount"), (0, .fieldref 2 23), (0, .nameAndType 24 16), (0, u "expectedModCount"), (0, .fieldref 2 26), (0, .nameAndType 27 16), (0, u "cursor"), (0, .fieldref 18 29), (0, .nameAndType 30 16), (0, u "size"), (38, .class_ 70), (0, u "java/util/Iterator"), (0, u "(Ljava/util/ArrayList;)V"), (8, u "hasNext"), (0, u "()Z")] 22

def k30c0 : Code := { maxStack := 2, maxLocals := 2, code := jdk_49_method_1_code, exceptionTable := #[], attributes := #[] }
def k30m0 : Method := { name := "<init>", desc := "(Ljava/util/ArrayList;)V", sig := { parameters := [(.object "java/util/ArrayList")], returnType := none }, accessFlags := 0, code := some k30c0 }
def k30c1 : Code := { maxStack := 2, maxLocals := 1, code := jdk_49_method_2_code, exceptionTable := #[], attributes := #[] }
def k30m1 : Method := { name := "hasNext", desc := "()Z", sig := { parameters := [], returnType := some .boolean }, accessFlags := 1, code := some k30c1 }
/-- java/util/ArrayList$Itr -/
def k30 : Class := { plain "java/util/ArrayList$Itr" (some 0) with
  accessFlags := 32
  interfaces := #[29]
  cf := some (fileOf pool30 2 #[.nestHost 18] #[{ accessFlags := 0, nameIndex := 11, descriptorIndex := 71, attributes := #[] }, { accessFlags := 1, nameIndex := 80, descriptorIndex := 81, attributes := #[] }] 32 8 #[69] #[{ accessFlags := 0, nameIndex := 27, descriptorIndex := 16, attributes := #[] }, { accessFlags := 0, nameIndex := 15, descriptorIndex := 16, attributes := #[] }, { accessFlags := 0, nameIndex := 24, descriptorIndex := 16, attributes := #[] }, { accessFlags := 4112, nameIndex := 5, descriptorIndex := 6, attributes := #[] }])
  fields := #[{ name := "cursor", type := .int, accessFlags := 0, slot := 0, constantValue := 0 }, { name := "lastRet", type := .int, accessFlags := 0, slot := 1, constantValue := 0 }, { name := "expectedModCount", type := .int, accessFlags := 0, slot := 2, constantValue := 0 }, { name := "this$0", type := (.object "java/util/ArrayList"), accessFlags := 4112, slot := 3, constantValue := 0 }]
  methods := #[k30m0, k30m1]
  instanceTypes := #[.int, .int, .int, (.object "java/util/ArrayList")]
  staticTypes := #[]
  resolved := Array.replicate 104 none
  statics := none }

/-- the primitive byte -/
def k31 : Class := { plain "byte" none with kind := .primitive 'B', accessFlags := 0x411 }
/-- [B -/
def k32 : Class := { plain "[B" (some 0) with kind := .array 31 .byte, interfaces := #[8, 9], accessFlags := 1041 }

/-- the primitive int -/
def k33 : Class := { plain "int" none with kind := .primitive 'I', accessFlags := 0x411 }
/-- [I -/
def k34 : Class := { plain "[I" (some 0) with kind := .array 33 .int, interfaces := #[8, 9], accessFlags := 1041 }

/-- [Ljava/lang/Object; -/
def k35 : Class := { plain "[Ljava/lang/Object;" (some 0) with kind := .array 0 (.object "java/lang/Object"), interfaces := #[8, 9], accessFlags := 1041 }

def heap : Heap := #[{ cls := 28, slots := #[.long 0, .int 0, .ref 1, .ref 2], vm := .statics 28 },
  { cls := 35, slots := #[], vm := .none },
  { cls := 35, slots := #[], vm := .none }]
def classes : Array Class := #[k0, k1, k2, k3, k4, k5, k6, k7, k8, k9, k10, k11, k12, k13, k14, k15, k16, k17, k18, k19, k20, k21, k22, k23, k24, k25, k26, k27, k28, k29, k30, k31, k32, k33, k34, k35]
def interned : List (Array UInt16 × Addr) := []
def slotsUsed : Nat := 4
def theMethod : MethodId := ⟨1, 1⟩
def args0 : Array Value := #[.long 5, .long 7, .long 9]
def aboutOver (below : List Frame) : State where
  vm := { classes := classes, interned := interned.toArray }
  heap := heap
  slotsUsed := slotsUsed
  threads := #[{ frames := .invoking theMethod args0 :: below }]
def below0 : List Frame := [.native { method := ⟨0, 0⟩, args := #[] }]
def about1 : State := aboutOver below0
def p0 : Program := .bare "" "" ""
def e0 : Env := launch0.env 0 0 0
theorem w_frames : about1.frames = Frame.invoking theMethod args0 :: below0 := rfl
set_option maxRecDepth 65536 in
theorem w_args : argsFit about1.vm theMethod args0 = true := by decide +kernel
set_option maxRecDepth 65536 in
theorem w_heap : heapFits about1 = true := by decide +kernel
set_option maxRecDepth 65536 in
theorem w_runnable : about1.curStatus? = some .runnable := by decide +kernel
set_option maxRecDepth 65536 in
theorem w_alone : about1.alone = true := by decide +kernel
set_option maxRecDepth 65536 in
theorem w_named : about1.methodNamed? x = some theMethod := by decide +kernel
set_option maxRecDepth 65536 in
theorem w_hears : about1.hears theMethod below0 = true := by decide +kernel
set_option maxRecDepth 65536 in
theorem w_ripe : about1.ripe theMethod args0 below0 = true := by decide +kernel
theorem w_running : about1.status = .running := rfl
set_option maxRecDepth 65536 in
theorem w_room : about1.hasRoom e0.platform room_1 = true :=
  launch0.hasRoom_least _ room_1 (by decide +kernel) (by decide +kernel) (by decide +kernel) (by decide +kernel) (by decide +kernel) (by decide +kernel)
theorem allAtoms_all (ts : List Jvm.Cond) (a : Array Jvm.Value) (st : Jvm.State) : (allAtoms ts).before a st = ts.all (fun c => c.before a st) := by
  induction ts with
  | nil => rfl
  | cons c t ih =>
    show (Jvm.Cond.and c (allAtoms t)).before a st = _
    rw [Jvm.Cond.before_and, ih, List.all_cons]
def words1 : List Jvm.Cond := Jvm.Cond.code x code maxLocals ret :: tables_1
/-- a 'code' word, met by the world's own term for the bytes: nothing is compared byte by byte -/
theorem code_word {y : MethodName} {bytes : ByteArray} {mx : Nat} {rt : Option FieldType} {a : Array Value} {s : State} {m : MethodId} {meth : Method} {c : Code} (h1 : s.methodNamed? y = some m) (h2 : s.vm.method? m = some meth) (h3 : meth.code = some c) (h4 : c.code = bytes)
    (h5 : (c.maxLocals == mx && c.exceptionTable.isEmpty && decide (c.maxStack ≤ mostOperands) && decide (meth.sig.returnType = rt) && !meth.locks && decide (parseMethodDescriptor y.desc = some meth.sig)) = true) : (Jvm.Cond.code y bytes mx rt).before a s = true := by
  simp only [Bool.and_eq_true, beq_iff_eq, Bool.not_eq_true', decide_eq_true_eq] at h5
  obtain ⟨⟨⟨⟨⟨g1, g2⟩, g3⟩, g4⟩, g5⟩, g6⟩ := h5
  simp [Cond.before, Cond.holds, Cond.value, h1, h2, h3, h4, g1, g2, g3, g4, g5, g6]
def isCode : Jvm.Cond → Bool
  | .code _ _ _ _ => true
  | _ => false
theorem all_split {L : List Jvm.Cond} {P : Jvm.Cond → Bool} (h1 : L.all (fun c => isCode c || P c) = true) (h2 : ∀ c ∈ L.filter isCode, P c = true) : L.all P = true := by
  refine List.all_eq_true.mpr fun c hc => ?_
  have h := List.all_eq_true.mp h1 c hc
  rcases Bool.eq_false_or_eq_true (isCode c) with hi | hi
  · exact h2 c (List.mem_filter.mpr ⟨hc, hi⟩)
  · simpa [hi] using h
set_option maxRecDepth 65536 in
theorem w_c0 : (Jvm.Cond.code x code maxLocals ret).before args0 about1 = true := code_word (m := ⟨1, 1⟩) (meth := k1m1) (c := k1c1) (by decide +kernel) rfl rfl rfl (by decide +kernel)
set_option maxRecDepth 65536 in
theorem w_c1 : (Jvm.Cond.code ({ cls := "com/example/alert_tree/alerttree/server/OutputGate", name := "<init>", desc := "(J)V" } : Jvm.MethodName) prog_56_method_1_code (3 : Nat) (Option.none : Option Jvm.ClassFile.FieldType)).before args0 about1 = true := code_word (m := ⟨2, 0⟩) (meth := k2m0) (c := k2c0) (by decide +kernel) rfl rfl rfl (by decide +kernel)
set_option maxRecDepth 65536 in
theorem w_c2 : (Jvm.Cond.code ({ cls := "java/lang/Object", name := "<init>", desc := "()V" } : Jvm.MethodName) object_method_1_code (1 : Nat) (Option.none : Option Jvm.ClassFile.FieldType)).before args0 about1 = true := code_word (m := ⟨0, 0⟩) (meth := k0m0) (c := k0c0) (by decide +kernel) rfl rfl rfl (by decide +kernel)
set_option maxRecDepth 65536 in
theorem w_c3 : (Jvm.Cond.code ({ cls := "java/util/LinkedHashSet", name := "<init>", desc := "()V" } : Jvm.MethodName) jdk_2620_method_3_code (1 : Nat) (Option.none : Option Jvm.ClassFile.FieldType)).before args0 about1 = true := code_word (m := ⟨13, 0⟩) (meth := k13m0) (c := k13c0) (by decide +kernel) rfl rfl rfl (by decide +kernel)
set_option maxRecDepth 65536 in
theorem w_c4 : (Jvm.Cond.code ({ cls := "java/util/HashSet", name := "<init>", desc := "(IFZ)V" } : Jvm.MethodName) jdk_93_method_5_code (4 : Nat) (Option.none : Option Jvm.ClassFile.FieldType)).before args0 about1 = true := code_word (m := ⟨10, 1⟩) (meth := k10m1) (c := k10c1) (by decide +kernel) rfl rfl rfl (by decide +kernel)
set_option maxRecDepth 65536 in
theorem w_c5 : (Jvm.Cond.code ({ cls := "java/util/AbstractSet", name := "<init>", desc := "()V" } : Jvm.MethodName) jdk_91_method_1_code (1 : Nat) (Option.none : Option Jvm.ClassFile.FieldType)).before args0 about1 = true := code_word (m := ⟨7, 0⟩) (meth := k7m0) (c := k7c0) (by decide +kernel) rfl rfl rfl (by decide +kernel)
set_option maxRecDepth 65536 in
theorem w_c6 : (Jvm.Cond.code ({ cls := "java/util/AbstractCollection", name := "<init>", desc := "()V" } : Jvm.MethodName) jdk_22_method_1_code (1 : Nat) (Option.none : Option Jvm.ClassFile.FieldType)).before args0 about1 = true := code_word (m := ⟨5, 0⟩) (meth := k5m0) (c := k5c0) (by decide +kernel) rfl rfl rfl (by decide +kernel)
set_option maxRecDepth 65536 in
theorem w_c7 : (Jvm.Cond.code ({ cls := "java/util/LinkedHashMap", name := "<init>", desc := "(IF)V" } : Jvm.MethodName) jdk_94_method_14_code (3 : Nat) (Option.none : Option Jvm.ClassFile.FieldType)).before args0 about1 = true := code_word (m := ⟨18, 0⟩) (meth := k18m0) (c := k18c0) (by decide +kernel) rfl rfl rfl (by decide +kernel)
set_option maxRecDepth 65536 in
theorem w_c8 : (Jvm.Cond.code ({ cls := "java/util/HashMap", name := "<init>", desc := "(IF)V" } : Jvm.MethodName) jdk_69_method_5_code (3 : Nat) (Option.none : Option Jvm.ClassFile.FieldType)).before args0 about1 = true := code_word (m := ⟨16, 1⟩) (meth := k16m1) (c := k16c1) (by decide +kernel) rfl rfl rfl (by decide +kernel)
set_option maxRecDepth 65536 in
theorem w_c9 : (Jvm.Cond.code ({ cls := "java/util/AbstractMap", name := "<init>", desc := "()V" } : Jvm.MethodName) jdk_71_method_1_code (1 : Nat) (Option.none : Option Jvm.ClassFile.FieldType)).before args0 about1 = true := code_word (m := ⟨15, 0⟩) (meth := k15m0) (c := k15c0) (by decide +kernel) rfl rfl rfl (by decide +kernel)
set_option maxRecDepth 65536 in
theorem w_c10 : (Jvm.Cond.code ({ cls := "java/lang/Float", name := "isNaN", desc := "(F)Z" } : Jvm.MethodName) jdk_118_method_6_code (1 : Nat) (Option.some Jvm.ClassFile.FieldType.boolean)).before args0 about1 = true := code_word (m := ⟨23, 0⟩) (meth := k23m0) (c := k23c0) (by decide +kernel) rfl rfl rfl (by decide +kernel)
set_option maxRecDepth 65536 in
theorem w_c11 : (Jvm.Cond.code ({ cls := "java/util/HashMap", name := "tableSizeFor", desc := "(I)I" } : Jvm.MethodName) jdk_69_method_4_code (2 : Nat) (Option.some Jvm.ClassFile.FieldType.int)).before args0 about1 = true := code_word (m := ⟨16, 0⟩) (meth := k16m0) (c := k16c0) (by decide +kernel) rfl rfl rfl (by decide +kernel)
set_option maxRecDepth 65536 in
theorem w_c12 : (Jvm.Cond.code ({ cls := "java/lang/Integer", name := "numberOfLeadingZeros", desc := "(I)I" } : Jvm.MethodName) jdk_33_method_47_code (2 : Nat) (Option.some Jvm.ClassFile.FieldType.int)).before args0 about1 = true := code_word (m := ⟨24, 0⟩) (meth := k24m0) (c := k24c0) (by decide +kernel) rfl rfl rfl (by decide +kernel)
set_option maxRecDepth 65536 in
theorem w_c13 : (Jvm.Cond.code ({ cls := "com/example/alert_tree/alerttree/server/OutputGate", name := "passes", desc := "(J)Z" } : Jvm.MethodName) prog_56_method_2_code (3 : Nat) (Option.some Jvm.ClassFile.FieldType.boolean)).before args0 about1 = true := code_word (m := ⟨2, 1⟩) (meth := k2m1) (c := k2c1) (by decide +kernel) rfl rfl rfl (by decide +kernel)
set_option maxRecDepth 65536 in
theorem w_c14 : (Jvm.Cond.code ({ cls := "com/example/alert_tree/alerttree/server/OutputGate", name := "open", desc := "(J)V" } : Jvm.MethodName) prog_56_method_5_code (6 : Nat) (Option.none : Option Jvm.ClassFile.FieldType)).before args0 about1 = true := code_word (m := ⟨2, 2⟩) (meth := k2m2) (c := k2c2) (by decide +kernel) rfl rfl rfl (by decide +kernel)
set_option maxRecDepth 65536 in
theorem w_c15 : (Jvm.Cond.code ({ cls := "java/util/ArrayList", name := "<init>", desc := "(Ljava/util/Collection;)V" } : Jvm.MethodName) jdk_38_method_3_code (3 : Nat) (Option.none : Option Jvm.ClassFile.FieldType)).before args0 about1 = true := code_word (m := ⟨28, 1⟩) (meth := k28m1) (c := k28c1) (by decide +kernel) rfl rfl rfl (by decide +kernel)
set_option maxRecDepth 65536 in
theorem w_c16 : (Jvm.Cond.code ({ cls := "java/util/AbstractList", name := "<init>", desc := "()V" } : Jvm.MethodName) jdk_39_method_1_code (1 : Nat) (Option.none : Option Jvm.ClassFile.FieldType)).before args0 about1 = true := code_word (m := ⟨26, 0⟩) (meth := k26m0) (c := k26c0) (by decide +kernel) rfl rfl rfl (by decide +kernel)
set_option maxRecDepth 65536 in
theorem w_c17 : (Jvm.Cond.code ({ cls := "java/util/HashSet", name := "toArray", desc := "()[Ljava/lang/Object;" } : Jvm.MethodName) jdk_93_method_17_code (1 : Nat) (Option.some (Jvm.ClassFile.FieldType.array (Jvm.ClassFile.FieldType.object "java/lang/Object")))).before args0 about1 = true := code_word (m := ⟨10, 3⟩) (meth := k10m3) (c := k10c3) (by decide +kernel) rfl rfl rfl (by decide +kernel)
set_option maxRecDepth 65536 in
theorem w_c18 : (Jvm.Cond.code ({ cls := "java/util/HashMap", name := "size", desc := "()I" } : Jvm.MethodName) jdk_69_method_10_code (1 : Nat) (Option.some Jvm.ClassFile.FieldType.int)).before args0 about1 = true := code_word (m := ⟨16, 3⟩) (meth := k16m3) (c := k16c3) (by decide +kernel) rfl rfl rfl (by decide +kernel)
set_option maxRecDepth 65536 in
theorem w_c19 : (Jvm.Cond.code ({ cls := "java/util/LinkedHashMap", name := "keysToArray", desc := "([Ljava/lang/Object;)[Ljava/lang/Object;" } : Jvm.MethodName) jdk_94_method_27_code (2 : Nat) (Option.some (Jvm.ClassFile.FieldType.array (Jvm.ClassFile.FieldType.object "java/lang/Object")))).before args0 about1 = true := code_word (m := ⟨18, 3⟩) (meth := k18m3) (c := k18c3) (by decide +kernel) rfl rfl rfl (by decide +kernel)
set_option maxRecDepth 65536 in
theorem w_c20 : (Jvm.Cond.code ({ cls := "java/util/LinkedHashMap", name := "keysToArray", desc := "([Ljava/lang/Object;Z)[Ljava/lang/Object;" } : Jvm.MethodName) jdk_94_method_28_code (6 : Nat) (Option.some (Jvm.ClassFile.FieldType.array (Jvm.ClassFile.FieldType.object "java/lang/Object")))).before args0 about1 = true := code_word (m := ⟨18, 4⟩) (meth := k18m4) (c := k18c4) (by decide +kernel) rfl rfl rfl (by decide +kernel)
set_option maxRecDepth 65536 in
theorem w_c21 : (Jvm.Cond.code ({ cls := "java/util/HashSet", name := "clear", desc := "()V" } : Jvm.MethodName) jdk_93_method_12_code (1 : Nat) (Option.none : Option Jvm.ClassFile.FieldType)).before args0 about1 = true := code_word (m := ⟨10, 2⟩) (meth := k10m2) (c := k10c2) (by decide +kernel) rfl rfl rfl (by decide +kernel)
set_option maxRecDepth 65536 in
theorem w_c22 : (Jvm.Cond.code ({ cls := "java/util/LinkedHashMap", name := "clear", desc := "()V" } : Jvm.MethodName) jdk_94_method_22_code (1 : Nat) (Option.none : Option Jvm.ClassFile.FieldType)).before args0 about1 = true := code_word (m := ⟨18, 2⟩) (meth := k18m2) (c := k18c2) (by decide +kernel) rfl rfl rfl (by decide +kernel)
set_option maxRecDepth 65536 in
theorem w_c23 : (Jvm.Cond.code ({ cls := "java/util/HashMap", name := "clear", desc := "()V" } : Jvm.MethodName) jdk_69_method_22_code (3 : Nat) (Option.none : Option Jvm.ClassFile.FieldType)).before args0 about1 = true := code_word (m := ⟨16, 4⟩) (meth := k16m4) (c := k16c4) (by decide +kernel) rfl rfl rfl (by decide +kernel)
set_option maxRecDepth 65536 in
theorem w_c24 : (Jvm.Cond.code ({ cls := "java/util/ArrayList", name := "iterator", desc := "()Ljava/util/Iterator;" } : Jvm.MethodName) jdk_38_method_55_code (1 : Nat) (Option.some (Jvm.ClassFile.FieldType.object "java/util/Iterator"))).before args0 about1 = true := code_word (m := ⟨28, 2⟩) (meth := k28m2) (c := k28c2) (by decide +kernel) rfl rfl rfl (by decide +kernel)
set_option maxRecDepth 65536 in
theorem w_c25 : (Jvm.Cond.code ({ cls := "java/util/ArrayList$Itr", name := "<init>", desc := "(Ljava/util/ArrayList;)V" } : Jvm.MethodName) jdk_49_method_1_code (2 : Nat) (Option.none : Option Jvm.ClassFile.FieldType)).before args0 about1 = true := code_word (m := ⟨30, 0⟩) (meth := k30m0) (c := k30c0) (by decide +kernel) rfl rfl rfl (by decide +kernel)
set_option maxRecDepth 65536 in
theorem w_c26 : (Jvm.Cond.code ({ cls := "java/util/ArrayList$Itr", name := "hasNext", desc := "()Z" } : Jvm.MethodName) jdk_49_method_2_code (1 : Nat) (Option.some Jvm.ClassFile.FieldType.boolean)).before args0 about1 = true := code_word (m := ⟨30, 1⟩) (meth := k30m1) (c := k30c1) (by decide +kernel) rfl rfl rfl (by decide +kernel)
def codes1 : List Jvm.Cond := [Jvm.Cond.code x code maxLocals ret, Jvm.Cond.code ({ cls := "com/example/alert_tree/alerttree/server/OutputGate", name := "<init>", desc := "(J)V" } : Jvm.MethodName) prog_56_method_1_code (3 : Nat) (Option.none : Option Jvm.ClassFile.FieldType), Jvm.Cond.code ({ cls := "java/lang/Object", name := "<init>", desc := "()V" } : Jvm.MethodName) object_method_1_code (1 : Nat) (Option.none : Option Jvm.ClassFile.FieldType), Jvm.Cond.code ({ cls := "java/util/LinkedHashSet", name := "<init>", desc := "()V" } : Jvm.MethodName) jdk_2620_method_3_code (1 : Nat) (Option.none : Option Jvm.ClassFile.FieldType), Jvm.Cond.code ({ cls := "java/util/HashSet", name := "<init>", desc := "(IFZ)V" } : Jvm.MethodName) jdk_93_method_5_code (4 : Nat) (Option.none : Option Jvm.ClassFile.FieldType), Jvm.Cond.code ({ cls := "java/util/AbstractSet", name := "<init>", desc := "()V" } : Jvm.MethodName) jdk_91_method_1_code (1 : Nat) (Option.none : Option Jvm.ClassFile.FieldType), Jvm.Cond.code ({ cls := "java/util/AbstractCollection", name := "<init>", desc := "()V" } : Jvm.MethodName) jdk_22_method_1_code (1 : Nat) (Option.none : Option Jvm.ClassFile.FieldType), Jvm.Cond.code ({ cls := "java/util/LinkedHashMap", name := "<init>", desc := "(IF)V" } : Jvm.MethodName) jdk_94_method_14_code (3 : Nat) (Option.none : Option Jvm.ClassFile.FieldType), Jvm.Cond.code ({ cls := "java/util/HashMap", name := "<init>", desc := "(IF)V" } : Jvm.MethodName) jdk_69_method_5_code (3 : Nat) (Option.none : Option Jvm.ClassFile.FieldType), Jvm.Cond.code ({ cls := "java/util/AbstractMap", name := "<init>", desc := "()V" } : Jvm.MethodName) jdk_71_method_1_code (1 : Nat) (Option.none : Option Jvm.ClassFile.FieldType), Jvm.Cond.code ({ cls := "java/lang/Float", name := "isNaN", desc := "(F)Z" } : Jvm.MethodName) jdk_118_method_6_code (1 : Nat) (Option.some Jvm.ClassFile.FieldType.boolean), Jvm.Cond.code ({ cls := "java/util/HashMap", name := "tableSizeFor", desc := "(I)I" } : Jvm.MethodName) jdk_69_method_4_code (2 : Nat) (Option.some Jvm.ClassFile.FieldType.int), Jvm.Cond.code ({ cls := "java/lang/Integer", name := "numberOfLeadingZeros", desc := "(I)I" } : Jvm.MethodName) jdk_33_method_47_code (2 : Nat) (Option.some Jvm.ClassFile.FieldType.int), Jvm.Cond.code ({ cls := "com/example/alert_tree/alerttree/server/OutputGate", name := "passes", desc := "(J)Z" } : Jvm.MethodName) prog_56_method_2_code (3 : Nat) (Option.some Jvm.ClassFile.FieldType.boolean), Jvm.Cond.code ({ cls := "com/example/alert_tree/alerttree/server/OutputGate", name := "open", desc := "(J)V" } : Jvm.MethodName) prog_56_method_5_code (6 : Nat) (Option.none : Option Jvm.ClassFile.FieldType), Jvm.Cond.code ({ cls := "java/util/ArrayList", name := "<init>", desc := "(Ljava/util/Collection;)V" } : Jvm.MethodName) jdk_38_method_3_code (3 : Nat) (Option.none : Option Jvm.ClassFile.FieldType), Jvm.Cond.code ({ cls := "java/util/AbstractList", name := "<init>", desc := "()V" } : Jvm.MethodName) jdk_39_method_1_code (1 : Nat) (Option.none : Option Jvm.ClassFile.FieldType), Jvm.Cond.code ({ cls := "java/util/HashSet", name := "toArray", desc := "()[Ljava/lang/Object;" } : Jvm.MethodName) jdk_93_method_17_code (1 : Nat) (Option.some (Jvm.ClassFile.FieldType.array (Jvm.ClassFile.FieldType.object "java/lang/Object"))), Jvm.Cond.code ({ cls := "java/util/HashMap", name := "size", desc := "()I" } : Jvm.MethodName) jdk_69_method_10_code (1 : Nat) (Option.some Jvm.ClassFile.FieldType.int), Jvm.Cond.code ({ cls := "java/util/LinkedHashMap", name := "keysToArray", desc := "([Ljava/lang/Object;)[Ljava/lang/Object;" } : Jvm.MethodName) jdk_94_method_27_code (2 : Nat) (Option.some (Jvm.ClassFile.FieldType.array (Jvm.ClassFile.FieldType.object "java/lang/Object"))), Jvm.Cond.code ({ cls := "java/util/LinkedHashMap", name := "keysToArray", desc := "([Ljava/lang/Object;Z)[Ljava/lang/Object;" } : Jvm.MethodName) jdk_94_method_28_code (6 : Nat) (Option.some (Jvm.ClassFile.FieldType.array (Jvm.ClassFile.FieldType.object "java/lang/Object"))), Jvm.Cond.code ({ cls := "java/util/HashSet", name := "clear", desc := "()V" } : Jvm.MethodName) jdk_93_method_12_code (1 : Nat) (Option.none : Option Jvm.ClassFile.FieldType), Jvm.Cond.code ({ cls := "java/util/LinkedHashMap", name := "clear", desc := "()V" } : Jvm.MethodName) jdk_94_method_22_code (1 : Nat) (Option.none : Option Jvm.ClassFile.FieldType), Jvm.Cond.code ({ cls := "java/util/HashMap", name := "clear", desc := "()V" } : Jvm.MethodName) jdk_69_method_22_code (3 : Nat) (Option.none : Option Jvm.ClassFile.FieldType), Jvm.Cond.code ({ cls := "java/util/ArrayList", name := "iterator", desc := "()Ljava/util/Iterator;" } : Jvm.MethodName) jdk_38_method_55_code (1 : Nat) (Option.some (Jvm.ClassFile.FieldType.object "java/util/Iterator")), Jvm.Cond.code ({ cls := "java/util/ArrayList$Itr", name := "<init>", desc := "(Ljava/util/ArrayList;)V" } : Jvm.MethodName) jdk_49_method_1_code (2 : Nat) (Option.none : Option Jvm.ClassFile.FieldType), Jvm.Cond.code ({ cls := "java/util/ArrayList$Itr", name := "hasNext", desc := "()Z" } : Jvm.MethodName) jdk_49_method_2_code (1 : Nat) (Option.some Jvm.ClassFile.FieldType.boolean)]
set_option maxRecDepth 65536 in
theorem codes_eq : words1.filter isCode = codes1 := rfl
theorem w_codes : ∀ c ∈ words1.filter isCode, c.before args0 about1 = true := by
  rw [codes_eq]
  intro c hc
  simp only [codes1, List.mem_cons, List.not_mem_nil, or_false] at hc
  rcases hc with rfl | rfl | rfl | rfl | rfl | rfl | rfl | rfl | rfl | rfl | rfl | rfl | rfl | rfl | rfl | rfl | rfl | rfl | rfl | rfl | rfl | rfl | rfl | rfl | rfl | rfl | rfl
  · exact w_c0
  · exact w_c1
  · exact w_c2
  · exact w_c3
  · exact w_c4
  · exact w_c5
  · exact w_c6
  · exact w_c7
  · exact w_c8
  · exact w_c9
  · exact w_c10
  · exact w_c11
  · exact w_c12
  · exact w_c13
  · exact w_c14
  · exact w_c15
  · exact w_c16
  · exact w_c17
  · exact w_c18
  · exact w_c19
  · exact w_c20
  · exact w_c21
  · exact w_c22
  · exact w_c23
  · exact w_c24
  · exact w_c25
  · exact w_c26
set_option maxRecDepth 65536 in
theorem w_t1 : (words1.take 24).all (fun c => isCode c || c.before args0 about1) = true := by decide +kernel
set_option maxRecDepth 65536 in
theorem w_t2 : ((words1.drop 24).take 24).all (fun c => isCode c || c.before args0 about1) = true := by decide +kernel
set_option maxRecDepth 65536 in
theorem w_t3 : (((words1.drop 24).drop 24).take 24).all (fun c => isCode c || c.before args0 about1) = true := by decide +kernel
set_option maxRecDepth 65536 in
theorem w_t4 : ((((words1.drop 24).drop 24).drop 24).take 24).all (fun c => isCode c || c.before args0 about1) = true := by decide +kernel
set_option maxRecDepth 65536 in
theorem w_t5 : (((((words1.drop 24).drop 24).drop 24).drop 24).take 24).all (fun c => isCode c || c.before args0 about1) = true := by decide +kernel
set_option maxRecDepth 65536 in
theorem w_t6 : ((((((words1.drop 24).drop 24).drop 24).drop 24).drop 24).take 24).all (fun c => isCode c || c.before args0 about1) = true := by decide +kernel
set_option maxRecDepth 65536 in
theorem w_t7 : (((((((words1.drop 24).drop 24).drop 24).drop 24).drop 24).drop 24).take 24).all (fun c => isCode c || c.before args0 about1) = true := by decide +kernel
set_option maxRecDepth 65536 in
theorem w_t8 : ((((((((words1.drop 24).drop 24).drop 24).drop 24).drop 24).drop 24).drop 24).take 24).all (fun c => isCode c || c.before args0 about1) = true := by decide +kernel
set_option maxRecDepth 65536 in
theorem w_t9 : ((((((((words1.drop 24).drop 24).drop 24).drop 24).drop 24).drop 24).drop 24).drop 24).all (fun c => isCode c || c.before args0 about1) = true := by decide +kernel
theorem w_tables : (allAtoms (Jvm.Cond.code x code maxLocals ret :: tables_1)).before args0 about1 = true := by
  rw [allAtoms_all]
  show words1.all (fun c => c.before args0 about1) = true
  refine all_split ?_ w_codes
  rw [← List.take_append_drop 24 words1, List.all_append, w_t1, ← List.take_append_drop 24 (words1.drop 24), List.all_append, w_t2, ← List.take_append_drop 24 ((words1.drop 24).drop 24), List.all_append, w_t3, ← List.take_append_drop 24 (((words1.drop 24).drop 24).drop 24), List.all_append, w_t4, ← List.take_append_drop 24 ((((words1.drop 24).drop 24).drop 24).drop 24), List.all_append, w_t5, ← List.take_append_drop 24 (((((words1.drop 24).drop 24).drop 24).drop 24).drop 24), List.all_append, w_t6, ← List.take_append_drop 24 ((((((words1.drop 24).drop 24).drop 24).drop 24).drop 24).drop 24), List.all_append, w_t7, ← List.take_append_drop 24 (((((((words1.drop 24).drop 24).drop 24).drop 24).drop 24).drop 24).drop 24), List.all_append, w_t8, w_t9]
  rfl
set_option maxRecDepth 65536 in
theorem w_rest : rest_1_c.before args0 about1 = true := by decide +kernel
set_option maxRecDepth 65536 in
theorem w_case : (Jvm.Cond.and given_1 narrow_1).before args0 about1 = true := by decide +kernel
theorem w_applies : (headSpec (Jvm.Cond.code x code maxLocals ret :: tables_1) room_1).applies x e0.platform about1 = true :=
  (Spec.applies_iff w_frames).mpr ⟨w_running, w_runnable, w_alone, w_named, w_hears, w_ripe, w_room, w_tables⟩
theorem atStart : AtStart classFile x code maxLocals ret World_1 tables_1 room_1 Calls_1 rest_1 Pre_1 launch0 p0 e0 about1 theMethod args0 below0 :=
  ⟨lists_1, trivial, launch0.admits_env _ _ _, launch0.least_env, fairChoices_fair.cas, fairChoices_fair.clock, w_frames, w_args, w_heap, w_applies, trivial, w_rest, w_case⟩
end start1
theorem witness_1 : WitnessClaimed_1 := ⟨start1.p0, start1.e0, start1.about1, start1.theMethod, start1.args0, start1.below0, start1.atStart⟩
end Jvm.Pilot.@@N@@
