import JvmDerived
import JvmDerived.Pilot.@@N@@Statement
import JvmDerived.Pilot.@@N@@Code
set_option linter.unusedVariables false
set_option linter.unusedSimpArgs false
namespace Jvm.RoadKit
open Sem ClassFile Op Lib Jvm.Stand Jvm.Free Jvm.LawKit
section Own
variable {p : Program} {l : Launch} {e : Env} {R : Room} {s : State} {m : MethodId} {args : Array Value} {below : List Frame} {meth : Method} {c : Code} {T : State} {locs : List Loc} {cells slots : Nat} {Z : State} {h : Heap} {a : Addr} {k : ClassId} {n j : Int32} {vs : List Value} {dv : Value} {ty : FieldType}
theorem own_retI (X : Stand p l e R s m args below meth c T locs cells slots) (hx : p.tables.exec = Jvm.exec) {pc : Nat} {Ls : Array Slot} {z : Int32} {rest : List Value} (hret : meth.sig.returnType = some .int) (hd : decode c.code pc = .ok (.ireturn, 1)) {fs : List Frame}
    (hl : ∀ (f : JFrame) (acts : List Action), f.method = m → f.locked = none → f.entered = [] → (doReturn e (T.setTop f) acts (some (.int z))).1 = T.setFrames fs) : Steps p.tables e below (T.setTop (mkF m pc Ls (.int z :: rest))) (T.setFrames fs) :=
  retOut X hx hret rfl (Or.inl ⟨rfl, Or.inl rfl, _, rfl⟩) hd hl
/-- the run from st ends as the contract says -/
def own_Ends (p : Program) (e : Env) (below : List Frame) (s : State) (C S : Nat) (Q : Option Value → Heap → List Loc → Prop) (st : State) : Prop :=
  ∃ s₂ o, Steps p.tables e below st s₂ ∧ s₂.status = .running ∧ Ended s₂ below o ∧ ∃ v L, o = .returned v ∧ Q v s₂.heap L ∧ FrameEnd s o s₂ L C S
theorem own_step {C S : Nat} {Q : Option Value → Heap → List Loc → Prop} {st st' : State} (f : ∀ t, Steps p.tables e below st' t → Steps p.tables e below st t) (h : own_Ends p e below s C S Q st') : own_Ends p e below s C S Q st := by
  obtain ⟨s2, o, h1, h2⟩ := h
  exact ⟨s2, o, f _ h1, h2⟩
theorem own_sstep {st st' t : State} (f : ∀ t, Steps p.tables e below st' t → Steps p.tables e below st t) (h : Steps p.tables e below st' t) : Steps p.tables e below st t := f _ h
theorem own_ret (X : Stand p l e R s m args below meth c T locs cells slots) (hlocks : meth.locks = false) {C S : Nat} {Q : Option Value → Heap → List Loc → Prop} {g : JFrame} (v : Option Value) (hv : meth.sig.returnType = none → v = none)
    (st : ∀ fs, (∀ (f : JFrame) (acts : List Action), f.method = m → f.locked = none → f.entered = [] → (doReturn e (T.setTop f) acts v).1 = T.setFrames fs) → Steps p.tables e below (T.setTop g) (T.setFrames fs))
    (hQ : Q v T.heap locs) (hc : cells ≤ C) (hs : slots ≤ S) : own_Ends p e below s C S Q (T.setTop g) := by
  obtain ⟨fs, hr, hrun, hended, hW, hsame⟩ := X.leave (v := v) hv
  exact ⟨_, _, st fs hr, hrun, hended, _, _, rfl, hQ, ⟨_, rfl⟩, hW, hsame.mono hc hs⟩
theorem own_b1 {P : Prop} [Decidable P] (hp : P) : ¬ ((if P then (1 : Int32) else (0 : Int32)) = 0) := by rw [if_pos hp]; decide
theorem own_b1n {P : Prop} [Decidable P] (hp : ¬ P) : ¬ ((if P then (0 : Int32) else (1 : Int32)) = 0) := by rw [if_neg hp]; decide
theorem own_nar01 {P : Prop} [Decidable P] : nar .boolean (if P then (0 : Int32) else (1 : Int32)) = if P then (0 : Int32) else (1 : Int32) := by split <;> rfl
theorem own_nar10 {P : Prop} [Decidable P] : nar .boolean (if P then (1 : Int32) else (0 : Int32)) = if P then (1 : Int32) else (0 : Int32) := by split <;> rfl
theorem own_lrem {tb : Tables} [Ours tb] {target : State} {g : JFrame} (ha : At T m c below) (hx : tb.exec = Jvm.exec) (hg : g.method = m) {x y : Int64} {rest : List Value} (hd : decode c.code g.pc = .ok (.lrem, 1)) (hs : g.stack = .long y :: .long x :: rest) (hy : y ≠ 0) (hr : Steps tb e below (T.setTop { g with pc := g.pc + 1, stack := .long (x % y) :: rest }) target) : Steps tb e below (T.setTop g) target :=
  XS.lrem ha hx hg hd hs hy (by rw [lrem_mod]; exact hr)
theorem own_len (X : Stand p l e R s m args below meth c T locs cells slots) (hx : p.tables.exec = Jvm.exec) (hZ : Z.Warmed39 s.vm) (eT : T.heap = h) (A : Arv Z h a k ty n vs dv) {g : JFrame} (hg : g.method = m) {rest : List Value} (hs : g.stack = .ref a :: rest) (hd : decode c.code g.pc = .ok (.arraylength, 1)) :
    ∀ target, Steps p.tables e below (T.setTop { g with pc := g.pc + 1, stack := .int n :: rest }) target → Steps p.tables e below (T.setTop g) target := by
  obtain ⟨cl, Ar, -, S, N, -, -⟩ := A
  intro t k
  refine X.arraylength hx (by rw [eT]; exact Ar.1) (State.isArrayOf_alike hZ.alike Ar.2.1) hg hs hd t ?_
  rw [len_of S N]; exact k
theorem own_ldI (X : Stand p l e R s m args below meth c T locs cells slots) (hx : p.tables.exec = Jvm.exec) (hZ : Z.Warmed39 s.vm) (eT : T.heap = h) (A : Arv Z h a k .int n vs dv) {j : Int32} {v : Value} (hj : ¬ j < 0 ∧ j < n) (hv : vs.getD j.toNatClampNeg dv = v) {g : JFrame} (hg : g.method = m) {rest : List Value} (hs : g.stack = .int j :: .ref a :: rest) (hd : decode c.code g.pc = .ok (.iaload, 1)) :
    ∀ target, Steps p.tables e below (T.setTop { g with pc := g.pc + 1, stack := v :: rest }) target → Steps p.tables e below (T.setTop g) target := by
  obtain ⟨cl, Ar, -, S, N, H, -⟩ := A
  intro t k
  exact X.iaload hx (by rw [eT]; exact Ar.1) (State.isArrayOf_alike hZ.alike Ar.2.1) Ar.2.2 (inb_of S hj) (H.at (inb_of S hj) hv) hg hs hd t k
theorem own_ldJ (X : Stand p l e R s m args below meth c T locs cells slots) (hx : p.tables.exec = Jvm.exec) (hZ : Z.Warmed39 s.vm) (eT : T.heap = h) (A : Arv Z h a k .long n vs dv) {j : Int32} {v : Value} (hj : ¬ j < 0 ∧ j < n) (hv : vs.getD j.toNatClampNeg dv = v) {g : JFrame} (hg : g.method = m) {rest : List Value} (hs : g.stack = .int j :: .ref a :: rest) (hd : decode c.code g.pc = .ok (.laload, 1)) :
    ∀ target, Steps p.tables e below (T.setTop { g with pc := g.pc + 1, stack := v :: rest }) target → Steps p.tables e below (T.setTop g) target := by
  obtain ⟨cl, Ar, -, S, N, H, -⟩ := A
  intro t k
  exact X.laload hx (by rw [eT]; exact Ar.1) (State.isArrayOf_alike hZ.alike Ar.2.1) Ar.2.2 (inb_of S hj) (H.at (inb_of S hj) hv) hg hs hd t k
theorem own_ldC (X : Stand p l e R s m args below meth c T locs cells slots) (hx : p.tables.exec = Jvm.exec) (hZ : Z.Warmed39 s.vm) (eT : T.heap = h) (A : Arv Z h a k .char n vs dv) {j : Int32} {v : Value} (hj : ¬ j < 0 ∧ j < n) (hv : vs.getD j.toNatClampNeg dv = v) {g : JFrame} (hg : g.method = m) {rest : List Value} (hs : g.stack = .int j :: .ref a :: rest) (hd : decode c.code g.pc = .ok (.caload, 1)) :
    ∀ target, Steps p.tables e below (T.setTop { g with pc := g.pc + 1, stack := v :: rest }) target → Steps p.tables e below (T.setTop g) target := by
  obtain ⟨cl, Ar, -, S, N, H, -⟩ := A
  intro t k
  exact X.caload hx (by rw [eT]; exact Ar.1) (State.isArrayOf_alike hZ.alike Ar.2.1) Ar.2.2 (inb_of S hj) (H.at (inb_of S hj) hv) hg hs hd t k
theorem own_ldB (X : Stand p l e R s m args below meth c T locs cells slots) (hx : p.tables.exec = Jvm.exec) (hZ : Z.Warmed39 s.vm) (eT : T.heap = h) (A : Arv Z h a k .byte n vs dv) {j : Int32} {v : Value} (hj : ¬ j < 0 ∧ j < n) (hv : vs.getD j.toNatClampNeg dv = v) {g : JFrame} (hg : g.method = m) {rest : List Value} (hs : g.stack = .int j :: .ref a :: rest) (hd : decode c.code g.pc = .ok (.baload, 1)) :
    ∀ target, Steps p.tables e below (T.setTop { g with pc := g.pc + 1, stack := v :: rest }) target → Steps p.tables e below (T.setTop g) target := by
  obtain ⟨cl, Ar, -, S, N, H, -⟩ := A
  intro t k
  exact X.baloadBytes hx (by rw [eT]; exact Ar.1) (State.isArrayOf_alike hZ.alike Ar.2.1) Ar.2.2 (inb_of S hj) (H.at (inb_of S hj) hv) hg hs hd t k
theorem own_stI (X : Stand p l e R s m args below meth c T locs cells slots) (hx : p.tables.exec = Jvm.exec) (hZ : Z.Warmed39 s.vm) (eT : T.heap = h) (A : Arv Z h a k .int n vs dv) {j x : Int32} {i : Nat} (hj : ¬ j < 0 ∧ j < n) (hi : j.toNatClampNeg = i) (hl : i < vs.length) {g : JFrame} (hg : g.method = m) {rest : List Value} (hs : g.stack = .int x :: .int j :: .ref a :: rest) (hd : decode c.code g.pc = .ok (.iastore, 1)) :
    ∃ T' h', Stand p l e R s m args below meth c T' (locs ++ [⟨a, j.toNatClampNeg⟩]) cells slots ∧ T'.heap = h' ∧ Wr h h' a j.toNatClampNeg (.int x) ∧ Arv Z h' a k .int n (vs.set i (.int x)) dv ∧ ∀ target, Steps p.tables e below (T'.setTop { g with pc := g.pc + 1, stack := rest }) target → Steps p.tables e below (T.setTop g) target := by
  obtain ⟨cl, Ar, q, S, N, H, G⟩ := A
  obtain ⟨T', h', X', e', W, st⟩ := stI X hx hZ eT Ar (inb_of S hj) hg hs hd
  exact ⟨T', h', X', e', W, Arv.set Ar q S N H G rfl W i hi hl, st⟩
theorem own_stJ (X : Stand p l e R s m args below meth c T locs cells slots) (hx : p.tables.exec = Jvm.exec) (hZ : Z.Warmed39 s.vm) (eT : T.heap = h) (A : Arv Z h a k .long n vs dv) {j : Int32} {x : Int64} {i : Nat} (hj : ¬ j < 0 ∧ j < n) (hi : j.toNatClampNeg = i) (hl : i < vs.length) {g : JFrame} (hg : g.method = m) {rest : List Value} (hs : g.stack = .long x :: .int j :: .ref a :: rest) (hd : decode c.code g.pc = .ok (.lastore, 1)) :
    ∃ T' h', Stand p l e R s m args below meth c T' (locs ++ [⟨a, j.toNatClampNeg⟩]) cells slots ∧ T'.heap = h' ∧ Wr h h' a j.toNatClampNeg (.long x) ∧ Arv Z h' a k .long n (vs.set i (.long x)) dv ∧ ∀ target, Steps p.tables e below (T'.setTop { g with pc := g.pc + 1, stack := rest }) target → Steps p.tables e below (T.setTop g) target := by
  obtain ⟨cl, Ar, q, S, N, H, G⟩ := A
  obtain ⟨T', h', X', e', W, st⟩ := stJ X hx hZ eT Ar (inb_of S hj) hg hs hd
  exact ⟨T', h', X', e', W, Arv.set Ar q S N H G rfl W i hi hl, st⟩
theorem own_stB (X : Stand p l e R s m args below meth c T locs cells slots) (hx : p.tables.exec = Jvm.exec) (hZ : Z.Warmed39 s.vm) (eT : T.heap = h) (A : Arv Z h a k .byte n vs dv) {j x : Int32} {i : Nat} (hj : ¬ j < 0 ∧ j < n) (hi : j.toNatClampNeg = i) (hl : i < vs.length) {g : JFrame} (hg : g.method = m) {rest : List Value} (hs : g.stack = .int x :: .int j :: .ref a :: rest) (hd : decode c.code g.pc = .ok (.bastore, 1)) :
    ∃ T' h', Stand p l e R s m args below meth c T' (locs ++ [⟨a, j.toNatClampNeg⟩]) cells slots ∧ T'.heap = h' ∧ Wr h h' a j.toNatClampNeg (.int x.toInt8.toInt32) ∧ Arv Z h' a k .byte n (vs.set i (.int x.toInt8.toInt32)) dv ∧ ∀ target, Steps p.tables e below (T'.setTop { g with pc := g.pc + 1, stack := rest }) target → Steps p.tables e below (T.setTop g) target := by
  obtain ⟨cl, Ar, q, S, N, H, G⟩ := A
  obtain ⟨T', h', X', e', W, st⟩ := stB X hx hZ eT Ar (inb_of S hj) hg hs hd
  exact ⟨T', h', X', e', W, Arv.set Ar q S N H G (fits_nar_byte x) W i hi hl, st⟩
theorem own_stC (X : Stand p l e R s m args below meth c T locs cells slots) (hx : p.tables.exec = Jvm.exec) (hZ : Z.Warmed39 s.vm) (eT : T.heap = h) (A : Arv Z h a k .char n vs dv) {j x : Int32} {i : Nat} (hj : ¬ j < 0 ∧ j < n) (hi : j.toNatClampNeg = i) (hl : i < vs.length) {g : JFrame} (hg : g.method = m) {rest : List Value} (hs : g.stack = .int x :: .int j :: .ref a :: rest) (hd : decode c.code g.pc = .ok (.castore, 1)) :
    ∃ T' h', Stand p l e R s m args below meth c T' (locs ++ [⟨a, j.toNatClampNeg⟩]) cells slots ∧ T'.heap = h' ∧ Wr h h' a j.toNatClampNeg (.int x.toUInt32.toUInt16.toUInt32.toInt32) ∧ Arv Z h' a k .char n (vs.set i (.int x.toUInt32.toUInt16.toUInt32.toInt32)) dv ∧ ∀ target, Steps p.tables e below (T'.setTop { g with pc := g.pc + 1, stack := rest }) target → Steps p.tables e below (T.setTop g) target := by
  obtain ⟨cl, Ar, q, S, N, H, G⟩ := A
  obtain ⟨T', h', X', e', W, st⟩ := stC X hx hZ eT Ar (inb_of S hj) hg hs hd
  exact ⟨T', h', X', e', W, Arv.set Ar q S N H G (fits_nar_char x) W i hi hl, st⟩
theorem own_eqI {t : Term} {q : Int32} (hq : (Jvm.Cond.eq t (.int q)).value args s none s [] = some true) : t.eval args s none [] s = some (.int q) := by
  obtain ⟨x, y, ha, hb, k1, k2⟩ := cmp_v (Or.inl hq)
  rw [Term.int_eval] at hb
  cases hb
  obtain ⟨z, rfl⟩ := k2
  simp [Cond.value, ha, Term.eval] at hq
  rw [ha, hq]
theorem own_eqR {t u : Term} {b : Addr} (hq : (Jvm.Cond.eq t u).value args s none s [] = some true) (hu : u.eval args s none [] s = some (.ref b)) : t.eval args s none [] s = some (.ref b) := by
  obtain ⟨x, y, ha, hb, k1, k2⟩ := cmp_v (Or.inl hq)
  cases hu.symm.trans hb
  have q := gotT (eq_R ha hb k2.2 rfl) hq
  rw [ha, q]
theorem own_lenA {t : Term} {cl : Cell} {q : Int32} (ht : t.eval args s none [] s = some (.ref a)) (A : Arr s s.heap a cl ty) (hq : (Term.length t).eval args s none [] s = some (.int q)) : cl.slots.size < 2 ^ 31 ∧ cl.slots.size.toInt32 = q := by
  have ha := Arr.fin (U := s) (Vm.Alike.refl _) A
  by_cases hl : cl.slots.size < 2 ^ 31
  · rw [len_f ht ha hl] at hq
    exact ⟨hl, Value.int.inj (Option.some.inj hq)⟩
  · simp [Term.eval, ht, ha, hl] at hq
theorem own_ldR (X : Stand p l e R s m args below meth c T locs cells slots) (hx : p.tables.exec = Jvm.exec) (hZ : Z.Warmed39 s.vm) (eT : T.heap = h) (A : Arv Z h a k ty n vs dv) (hr : ty.isReference = true) {j : Int32} {v : Value} (hj : ¬ j < 0 ∧ j < n) (hv : vs.getD j.toNatClampNeg dv = v) {g : JFrame} (hg : g.method = m) {rest : List Value} (hs : g.stack = .int j :: .ref a :: rest) (hd : decode c.code g.pc = .ok (.aaload, 1)) :
    ∀ target, Steps p.tables e below (T.setTop { g with pc := g.pc + 1, stack := v :: rest }) target → Steps p.tables e below (T.setTop g) target := by
  obtain ⟨cl, Ar, -, S, N, H, -⟩ := A
  intro t k
  exact X.aaload hx (by rw [eT]; exact Ar.1) (State.isArrayOf_alike hZ.alike Ar.2.1) hr Ar.2.2 (inb_of S hj) (H.at (inb_of S hj) hv) hg hs hd t k
theorem own_nf {y y' : MethodName} (hc : y'.cls = y.cls) (w : (Jvm.Cond.instanceMethod y).before args s = true) (hn : NotFace s y) : NotFace s y' := fun r0 h0 => by
  obtain ⟨mk, methM, hnamed, -⟩ := Cond.instanceMethod_spec w
  obtain ⟨kr, h1, h2⟩ := hn mk hnamed
  have q1 := findClass_of_methodNamed hnamed
  have q2 := findClass_of_methodNamed h0
  rw [hc] at q2
  have q3 : mk.cls = r0.cls := Option.some.inj (q1.symm.trans q2)
  exact ⟨kr, q3 ▸ h1, h2⟩
theorem own_selp {y : MethodName} (w : (Jvm.Cond.instanceMethod y).before args s = true) (hn : NotFace s y) (hp : s.PrivateAt y) (hy : y.cls ≠ "java/lang/invoke/MethodHandle" ∧ y.cls ≠ "java/lang/invoke/VarHandle") : (Jvm.Cond.selects y.cls y y).before args s = true := by
  obtain ⟨mk, methM, hnamed, -⟩ := Cond.instanceMethod_spec w
  obtain ⟨kr, h1, h2⟩ := hn mk hnamed
  exact selects_self_of_private (findClass_of_methodNamed hnamed) h1 h2 hp w hy
theorem own_same {y : MethodName} (w : (Jvm.Cond.instanceMethod y).before args s = true) (hn : NotFace s y) (hy : y.cls ≠ "java/lang/invoke/MethodHandle" ∧ y.cls ≠ "java/lang/invoke/VarHandle") : (Jvm.Cond.sameMethod y.cls y.cls y.name y.desc).before args s = true := by
  obtain ⟨mk, methM, hnamed, -⟩ := Cond.instanceMethod_spec w
  obtain ⟨kr, h1, h2⟩ := hn mk hnamed
  have q1 := findClass_of_methodNamed hnamed
  have q2 := State.methodFound?_of_named hnamed hy
  have q3 : s.methodNamed? ⟨y.cls, y.name, y.desc⟩ = some mk := hnamed
  simp [Cond.before, Cond.holds, Cond.value, q1, q2, q3, h1, h2]
theorem own_stR (X : Stand p l e R s m args below meth c T locs cells slots) (hx : p.tables.exec = Jvm.exec) (hZ : Z.Warmed39 s.vm) (eT : T.heap = h) (A : Arv Z h a k ty n vs dv) (hr : ty.isReference = true) {j : Int32} {v : Value} {i : Nat} (F : Sto Z h a v) (hf : fits ty v = true) (hj : ¬ j < 0 ∧ j < n) (hi : j.toNatClampNeg = i) (hl : i < vs.length) {g : JFrame} (hg : g.method = m) {rest : List Value} (hs : g.stack = v :: .int j :: .ref a :: rest) (hd : decode c.code g.pc = .ok (.aastore, 1)) :
    ∃ T' h', Stand p l e R s m args below meth c T' (locs ++ [⟨a, j.toNatClampNeg⟩]) cells slots ∧ T'.heap = h' ∧ Wr h h' a j.toNatClampNeg v ∧ Arv Z h' a k ty n (vs.set i v) dv ∧ ∀ target, Steps p.tables e below (T'.setTop { g with pc := g.pc + 1, stack := rest }) target → Steps p.tables e below (T.setTop g) target := by
  obtain ⟨cl, Ar, q, S, N, H, G⟩ := A
  obtain ⟨T', h', X', e', W, st⟩ := stR X hx hZ eT Ar (inb_of S hj) hr F hg hs hd
  exact ⟨T', h', X', e', W, Arv.set Ar q S N H G hf W i hi hl, st⟩
theorem own_stoA {y : Addr} {C : String} {t0 : FieldType} (A : Arv Z h a k t0 n vs dv) (O : OvrA Z k ty C) (I : Ins Z h y C true) : Sto Z h a (.ref y) := by
  obtain ⟨cl, Ar, q, -⟩ := A
  exact Sto.ofVA Ar q O I
theorem own_stoV {y : Addr} {C : String} {t0 : FieldType} (A : Arv Z h a k t0 n vs dv) (O : Ovr Z k C) (I : Ins Z h y C true) : Sto Z h a (.ref y) := by
  obtain ⟨cl, Ar, q, -⟩ := A
  exact Sto.ofV Ar q O I
theorem own_getD_cp (vs vd : List Value) (dv dd : Value) (sp dp nn i : Nat) : ((vd ++ List.replicate (dp + nn) dd).take dp ++ ((List.range nn).map fun i => vs.getD (sp + i) dv) ++ (vd ++ List.replicate (dp + nn) dd).drop (dp + nn)).getD i dd = if dp ≤ i ∧ i < dp + nn then vs.getD (sp + (i - dp)) dv else vd.getD i dd := by
  have hlen : dp ≤ (vd ++ List.replicate (dp + nn) dd).length := by simp; omega
  have hpad := pad_rep vd dd (dp + nn) i
  by_cases h1 : i < dp
  · rw [if_neg (by omega), ← hpad]
    have e1 : ((vd ++ List.replicate (dp + nn) dd).take dp).length = dp := by rw [List.length_take]; omega
    rw [List.getD_eq_getElem?_getD, List.append_assoc, List.getElem?_append_left (by rw [e1]; exact h1), List.getElem?_take, if_pos h1, List.getD_eq_getElem?_getD]
  · by_cases h2 : i < dp + nn
    · rw [if_pos ⟨by omega, h2⟩]
      have e1 : ((vd ++ List.replicate (dp + nn) dd).take dp).length = dp := by rw [List.length_take]; omega
      rw [List.getD_eq_getElem?_getD, List.append_assoc, List.getElem?_append_right (by rw [e1]; omega), e1, List.getElem?_append_left (by simp; omega)]
      simp [show i - dp < nn by omega]
    · rw [if_neg (by omega), ← hpad]
      have e1 : ((vd ++ List.replicate (dp + nn) dd).take dp).length = dp := by rw [List.length_take]; omega
      rw [List.getD_eq_getElem?_getD, List.getElem?_append_right (by rw [List.length_append, e1]; simp; omega), List.getElem?_drop, List.getD_eq_getElem?_getD]
      congr 2
      rw [List.length_append, e1]; simp; omega
theorem own_cp {b : Addr} {a0 : Array Value} (X : Stand p l e R s m args below meth c T locs cells slots) (hx : p.tables.exec = Jvm.exec) (hZ : Z.Warmed39 s.vm) {own : String} {index : Nat} (hown : s.vm.findClass own = some m.cls)
    (w1 : (Cond.methodLink own index Jvm.Stand.acN).before a0 Z = true) (w2 : (Cond.native Jvm.Stand.acN).before a0 Z = true) (w3 : (Cond.static Jvm.Stand.acN).before a0 Z = true) (w4 : (Cond.initialized "java/lang/System").before a0 Z = true) (eT : T.heap = h)
    {k' : ClassId} {z z' sp dp nn : Int32} {vd : List Value} {dd : Value} (A : Arv Z h a k ty z vs dv) (B : Arv Z h b k' ty z' vd dd) (hty : refKind ty = false)
    (h1 : 0 ≤ sp.toInt) (h2 : 0 ≤ dp.toInt) (h3 : 0 ≤ nn.toInt) (h4 : sp.toInt + nn.toInt ≤ z.toInt) (h5 : dp.toInt + nn.toInt ≤ z'.toInt) {n0 : Nat} (N : Fr n0 locs) (ge : n0 ≤ b)
    {g : JFrame} (hg : g.method = m) (hsize : g.locals.size = c.maxLocals) {rest : List Value} (hs : g.stack = .int nn :: .int dp :: .ref b :: .int sp :: .ref a :: rest) (hd : decode c.code g.pc = .ok (.invokestatic index, 3))
    (hf : 1 ≤ R.frames) {W : Nat} (hW : 2 * g.monitorRoom + (rest.map fun v => v.category).sum ≤ W) (hlo : W + 18 ≤ R.locals) :
    ∃ T' h' L vd', Stand p l e R s m args below meth c T' L cells slots ∧ T'.heap = h' ∧ Fr n0 L ∧ Keep h h' [b] ∧ Arv Z h' b k' ty z' vd' dd ∧ (∀ i : Nat, vd'.getD i dd = if dp.toNatClampNeg ≤ i ∧ i < dp.toNatClampNeg + nn.toNatClampNeg then vs.getD (sp.toNatClampNeg + (i - dp.toNatClampNeg)) dv else vd.getD i dd) ∧
      ∀ target, Steps p.tables e below (T'.setTop { g with pc := g.pc + 3, stack := rest }) target → Steps p.tables e below (T.setTop g) target := by
  have e0 : (0 : Int32).toInt = 0 := by decide
  have lt : ∀ {x : Int32}, 0 ≤ x.toInt → ¬ x < 0 := fun q => by rw [Int32.lt_iff_toInt_lt]; omega
  have nz : ¬ z < 0 := lt (by omega)
  have nz' : ¬ z' < 0 := lt (by omega)
  have c1 := nat_of (lt h1); have c2 := nat_of (lt h2); have c3 := nat_of (lt h3); have c4 := nat_of nz; have c5 := nat_of nz'
  obtain ⟨T', h', L, X', e', N', K', V', st⟩ := cpA X hx hZ hown w1 w2 w3 w4 eT A (B.pad (pad_rep vd dd (dp.toNatClampNeg + nn.toNatClampNeg))) (us := _) (Or.inl ⟨rfl, hty⟩) (lt h1) (lt h2) (lt h3) (by omega) (by omega) rfl (by simp) N ge hg hsize hs hd hf hW (by exact hlo)
  exact ⟨T', h', L, _, X', e', N', K', V', fun i => own_getD_cp vs vd dv dd _ _ _ i, st⟩
end Own
end Jvm.RoadKit

namespace Jvm.Pilot.@@N@@
open Jvm Jvm.ClassFile Sem Op Lib Jvm.Free Jvm.Stand Jvm.LawKit Jvm.RoadKit Bundle Jvm.Pilot.@@N@@.Jvm.D
theorem pd_0 : parseMethodDescriptor "(I)Lcom/example/alert_tree/alerttree/protocol/CreateMode;" = some ⟨[.int], some (.object "com/example/alert_tree/alerttree/protocol/CreateMode")⟩ := by decide +kernel
theorem pd_1 : parseMethodDescriptor "()[Lcom/example/alert_tree/alerttree/protocol/CreateMode;" = some ⟨[], some (.array (.object "com/example/alert_tree/alerttree/protocol/CreateMode"))⟩ := by decide +kernel
theorem pd_2 : parseMethodDescriptor "()Ljava/lang/Object;" = some ⟨[], some (.object "java/lang/Object")⟩ := by decide +kernel

def own_mode (x : Int32) (a_PERSISTENT a_EPHEMERAL a_PERSISTENT_SEQUENTIAL a_EPHEMERAL_SEQUENTIAL a_CONTAINER a_PERSISTENT_WITH_TTL a_PERSISTENT_SEQUENTIAL_WITH_TTL : Addr) : Value := if x = (0 : Int32) then Value.ref a_PERSISTENT else if x = (1 : Int32) then Value.ref a_EPHEMERAL else if x = (2 : Int32) then Value.ref a_PERSISTENT_SEQUENTIAL else if x = (3 : Int32) then Value.ref a_EPHEMERAL_SEQUENTIAL else if x = (4 : Int32) then Value.ref a_CONTAINER else if x = (5 : Int32) then Value.ref a_PERSISTENT_WITH_TTL else if x = (6 : Int32) then Value.ref a_PERSISTENT_SEQUENTIAL_WITH_TTL else Value.null
theorem own_mode_ref (x : Int32) (a_PERSISTENT a_EPHEMERAL a_PERSISTENT_SEQUENTIAL a_EPHEMERAL_SEQUENTIAL a_CONTAINER a_PERSISTENT_WITH_TTL a_PERSISTENT_SEQUENTIAL_WITH_TTL : Addr) : (own_mode x a_PERSISTENT a_EPHEMERAL a_PERSISTENT_SEQUENTIAL a_EPHEMERAL_SEQUENTIAL a_CONTAINER a_PERSISTENT_WITH_TTL a_PERSISTENT_SEQUENTIAL_WITH_TTL).isRef = true := by
  unfold own_mode
  repeat' split
  all_goals rfl

theorem d2_0 : decode prog_7_method_1_code 0 = .ok (.getstatic 25, 3) := by decide +kernel
theorem d2_3 : decode prog_7_method_1_code 3 = .ok (.invokevirtual 29, 3) := by decide +kernel
theorem d2_6 : decode prog_7_method_1_code 6 = .ok (.checkcast 30, 3) := by decide +kernel
theorem d2_9 : decode prog_7_method_1_code 9 = .ok (.areturn, 1) := by decide +kernel
theorem pn_0 : plainName "com/example/alert_tree/alerttree/protocol/CreateMode" = true := by first | (simp [plainName, overriddenIn]; done) | decide +kernel
theorem ef_2_ (m : MethodId)  : entryFrame m #[] 0 = mkF m 0 #[] [] := by first | (simp [entryFrame, mkF, argsToLocals, Value.category]; done) | rfl
def Q_rm2 (Z : State) (aV : Addr) (kV : ClassId) (a_PERSISTENT : Addr) (a_EPHEMERAL : Addr) (a_PERSISTENT_SEQUENTIAL : Addr) (a_EPHEMERAL_SEQUENTIAL : Addr) (a_CONTAINER : Addr) (a_PERSISTENT_WITH_TTL : Addr) (a_PERSISTENT_SEQUENTIAL_WITH_TTL : Addr) (h0 : Heap) (n0 : Nat) (v : Option Value) (h : Heap) (L : List Loc) : Prop := ∃ b : Addr, v = some (.ref b) ∧ Fr n0 L ∧ Keep h0 h [] ∧ h0.size ≤ b ∧ Arv Z h b kV (.object "com/example/alert_tree/alerttree/protocol/CreateMode") (7 : Int32) [(.ref a_PERSISTENT), (.ref a_EPHEMERAL), (.ref a_PERSISTENT_SEQUENTIAL), (.ref a_EPHEMERAL_SEQUENTIAL), (.ref a_CONTAINER), (.ref a_PERSISTENT_WITH_TTL), (.ref a_PERSISTENT_SEQUENTIAL_WITH_TTL)] .null
set_option maxRecDepth 65536 in
set_option maxHeartbeats 40000000 in
theorem rm2 (l : Launch) (Z : State) (a0 : Array Value) (hw : ∀ d ∈ tables_1, d.before a0 Z = true) (ws : List Jvm.Cond) (aV : Addr) (kV : ClassId) (a_PERSISTENT : Addr) (a_EPHEMERAL : Addr) (a_PERSISTENT_SEQUENTIAL : Addr) (a_EPHEMERAL_SEQUENTIAL : Addr) (a_CONTAINER : Addr) (a_PERSISTENT_WITH_TTL : Addr) (a_PERSISTENT_SEQUENTIAL_WITH_TTL : Addr) (h0 : Heap) (n0 : Nat) (Z0 : n0 ≤ h0.size) (O0 : Old Z n0 h0) (p_0 : Sta Z Z.heap "com/example/alert_tree/alerttree/protocol/CreateMode" "$VALUES" "[Lcom/example/alert_tree/alerttree/protocol/CreateMode;" (.ref aV)) (p_1 : Exa Z Z.heap aV "[Lcom/example/alert_tree/alerttree/protocol/CreateMode;") (p_2 : Arv Z Z.heap aV kV (.object "com/example/alert_tree/alerttree/protocol/CreateMode") (7 : Int32) [(.ref a_PERSISTENT), (.ref a_EPHEMERAL), (.ref a_PERSISTENT_SEQUENTIAL), (.ref a_EPHEMERAL_SEQUENTIAL), (.ref a_CONTAINER), (.ref a_PERSISTENT_WITH_TTL), (.ref a_PERSISTENT_SEQUENTIAL_WITH_TTL)] .null) :
    MetFree l (⟨"com/example/alert_tree/alerttree/protocol/CreateMode", "values", "()[Lcom/example/alert_tree/alerttree/protocol/CreateMode;"⟩ : MethodName) (head1 (Jvm.Cond.code (⟨"com/example/alert_tree/alerttree/protocol/CreateMode", "values", "()[Lcom/example/alert_tree/alerttree/protocol/CreateMode;"⟩ : MethodName) prog_7_method_1_code 0 (some (.array (.object "com/example/alert_tree/alerttree/protocol/CreateMode"))) :: ws) ({ frames := 1, cells := 1, slots := 7, locals := 14 } : Room)) (fun a U => a = #[] ∧ Z.Warmed39 U.vm ∧ U.heap = h0) (fun _ _ _ _ _ => True) (fun _ U o U' => ∃ v L, o = .returned v ∧ Q_rm2 Z aV kV a_PERSISTENT a_EPHEMERAL a_PERSISTENT_SEQUENTIAL a_EPHEMERAL_SEQUENTIAL a_CONTAINER a_PERSISTENT_WITH_TTL a_PERSISTENT_SEQUENTIAL_WITH_TTL h0 n0 v U'.heap L ∧ FrameEnd U o U' L ({ frames := 1, cells := 1, slots := 7, locals := 14 } : Room).cells ({ frames := 1, cells := 1, slots := 7, locals := 14 } : Room).slots) := by
  refine MetFree.of_bodySF (plainFor_of_name pn_0) hisR ?_
  intro p e s m args below meth c s₁ Bd hml0 hP hK
  obtain ⟨rfl, hZ, hh⟩ := hP
  have hx := Bd.exec
  have hby := Bd.bytes
  have hml : c.maxLocals = 0 := hml0
  have hown : s.vm.findClass "com/example/alert_tree/alerttree/protocol/CreateMode" = some m.cls := findClass_of_methodNamed Bd.named
  have hnm := (name_of_methodNamed Bd.named Bd.method).1
  have X0 : Stand p l e ({ frames := 1, cells := 1, slots := 7, locals := 14 } : Room) s m #[] below meth c s₁ [] 0 0 := Stand.of_body Bd
  have e0 : s₁.heap = h0 := by rw [← hh, Bd.state]; rfl
  have N0 := Fr.nil n0
  show own_Ends p e below s ({ frames := 1, cells := 1, slots := 7, locals := 14 } : Room).cells ({ frames := 1, cells := 1, slots := 7, locals := 14 } : Room).slots (Q_rm2 Z aV kV a_PERSISTENT a_EPHEMERAL a_PERSISTENT_SEQUENTIAL a_EPHEMERAL_SEQUENTIAL a_CONTAINER a_PERSISTENT_WITH_TTL a_PERSISTENT_SEQUENTIAL_WITH_TTL h0 n0) (s₁.setTop (entryFrame m #[] 0))
  rw [ef_2_]
  obtain ⟨T1, X1, e1, st1⟩ := getS2 X0 hx hZ hown (host := "") (Or.inl (hw _ (List.mem_of_getElem? (i := 7) rfl))) Via.refl e0 (p_0.ext O0.2) (g := (mkF m 0 #[] [])) rfl (hb hby d2_0)
  refine own_step (st' := T1.setTop (mkF m 3 #[] [(.ref aV)])) st1 ?_
  obtain ⟨T2, h2, X2, e2, E2, V2, A2, st2⟩ := cloneH X1 hx hZ hown (hw _ (List.mem_of_getElem? (i := 9) rfl)) (hw _ (List.mem_of_getElem? (i := 10) rfl)) (hw _ (List.mem_of_getElem? (i := 14) rfl)) (hw _ (List.mem_of_getElem? (i := 12) rfl)) (hw _ (List.mem_of_getElem? (i := 13) rfl)) (hw _ (List.mem_of_getElem? (i := 15) rfl)) e1 (Arv.arh (p_2.ext O0.2)) (p_1.ext O0.2) (g := (mkF m 3 #[] [(.ref aV)])) rfl (by rw [hml]; rfl) rfl (hb hby d2_3) (by decide) (W := 0) (cap := 7) (by show 2 * 0 + _ ≤ _; exact Nat.le_of_eq rfl) (by decide) (by decide) (by decide) (by decide)
  obtain ⟨b2, g2⟩ : ∃ z, z = h0.size := ⟨_, rfl⟩
  rw [← g2] at A2 V2 st2
  have ne3 : aV ≠ b2 := Nat.ne_of_lt (Nat.lt_of_lt_of_le (p_1.ext O0.2).lt (Nat.le_of_eq g2.symm))
  have g_b2 : n0 ≤ b2 := Nat.le_trans Z0 (Nat.le_of_eq g2.symm)
  have sz_b2 : h0.size ≤ b2 := Nat.le_trans (Keep.refl h0 []).1 (Nat.le_of_eq g2.symm)
  have O4 := O0.ext E2
  have K5 : Keep h0 h2 [] := (Keep.refl h0 []).ext E2
  have Z6 : n0 ≤ h2.size := Nat.le_trans Z0 E2.1
  have V2 : Arv Z h2 b2 kV (.object "com/example/alert_tree/alerttree/protocol/CreateMode") (7 : Int32) [(.ref a_PERSISTENT), (.ref a_EPHEMERAL), (.ref a_PERSISTENT_SEQUENTIAL), (.ref a_EPHEMERAL_SEQUENTIAL), (.ref a_CONTAINER), (.ref a_PERSISTENT_WITH_TTL), (.ref a_PERSISTENT_SEQUENTIAL_WITH_TTL)] .null := V2
  refine own_step (st' := T2.setTop (mkF m 6 #[] [(.ref b2)])) st2 ?_
  obtain ⟨T7, X7, e7, st7⟩ := castY X2 hx hZ hown (hw _ (List.mem_of_getElem? (i := 24) rfl)) e2 (Ins.self A2) (g := (mkF m 6 #[] [(.ref b2)])) rfl rfl (hb hby d2_6)
  refine own_step (st' := T7.setTop (mkF m 9 #[] [(.ref b2)])) st7 ?_
  refine own_ret X7 Bd.notSynchronized (some (.ref b2)) (fun h => by rw [Bd.returns] at h; cases h) (fun fs hr => retOut X7 hx Bd.returns rfl (Or.inr (Or.inr (Or.inr (Or.inr ⟨rfl, rfl, rfl⟩)))) (hb hby d2_9) hr) ?_ (by decide) (by decide)
  rw [e7]
  exact ⟨b2, rfl, N0, K5, sz_b2, V2⟩
theorem d1_0 : decode prog_7_method_7_code 0 = .ok (.aconst_null, 1) := by decide +kernel
theorem d1_1 : decode prog_7_method_7_code 1 = .ok (.astore_n 1, 1) := by decide +kernel
theorem d1_2 : decode prog_7_method_7_code 2 = .ok (.invokestatic 55, 3) := by decide +kernel
theorem d1_5 : decode prog_7_method_7_code 5 = .ok (.astore_n 2, 1) := by decide +kernel
theorem d1_6 : decode prog_7_method_7_code 6 = .ok (.aload_n 2, 1) := by decide +kernel
theorem d1_7 : decode prog_7_method_7_code 7 = .ok (.arraylength, 1) := by decide +kernel
theorem d1_8 : decode prog_7_method_7_code 8 = .ok (.istore_n 3, 1) := by decide +kernel
theorem d1_9 : decode prog_7_method_7_code 9 = .ok (.iconst 0, 1) := by decide +kernel
theorem d1_10 : decode prog_7_method_7_code 10 = .ok (.istore 4, 2) := by decide +kernel
theorem d1_12 : decode prog_7_method_7_code 12 = .ok (.iload 4, 2) := by decide +kernel
theorem d1_14 : decode prog_7_method_7_code 14 = .ok (.iload_n 3, 1) := by decide +kernel
theorem d1_15 : decode prog_7_method_7_code 15 = .ok (.if_icmp .ge 30, 3) := by decide +kernel
theorem d1_18 : decode prog_7_method_7_code 18 = .ok (.aload_n 2, 1) := by decide +kernel
theorem d1_19 : decode prog_7_method_7_code 19 = .ok (.iload 4, 2) := by decide +kernel
theorem d1_21 : decode prog_7_method_7_code 21 = .ok (.aaload, 1) := by decide +kernel
theorem d1_22 : decode prog_7_method_7_code 22 = .ok (.astore 5, 2) := by decide +kernel
theorem d1_24 : decode prog_7_method_7_code 24 = .ok (.aload 5, 2) := by decide +kernel
theorem d1_26 : decode prog_7_method_7_code 26 = .ok (.getfield 44, 3) := by decide +kernel
theorem d1_29 : decode prog_7_method_7_code 29 = .ok (.iload_n 0, 1) := by decide +kernel
theorem d1_30 : decode prog_7_method_7_code 30 = .ok (.if_icmp .ne 9, 3) := by decide +kernel
theorem d1_33 : decode prog_7_method_7_code 33 = .ok (.aload 5, 2) := by decide +kernel
theorem d1_35 : decode prog_7_method_7_code 35 = .ok (.astore_n 1, 1) := by decide +kernel
theorem d1_36 : decode prog_7_method_7_code 36 = .ok (.goto 9, 3) := by decide +kernel
theorem d1_39 : decode prog_7_method_7_code 39 = .ok (.iinc 4 1, 3) := by decide +kernel
theorem d1_42 : decode prog_7_method_7_code 42 = .ok (.goto (-30), 3) := by decide +kernel
theorem d1_45 : decode prog_7_method_7_code 45 = .ok (.aload_n 1, 1) := by decide +kernel
theorem d1_46 : decode prog_7_method_7_code 46 = .ok (.areturn, 1) := by decide +kernel
theorem ef_1_I (m : MethodId) (x0 : Int32) : entryFrame m #[(.int x0)] 6 = mkF m 0 #[.val (.int x0), .unset, .unset, .unset, .unset, .unset] [] := by first | (simp [entryFrame, mkF, argsToLocals, Value.category]; done) | rfl
def Q_rm1 (Z : State) (x0 : Int32) (aV : Addr) (kV : ClassId) (a_PERSISTENT : Addr) (a_EPHEMERAL : Addr) (a_PERSISTENT_SEQUENTIAL : Addr) (a_EPHEMERAL_SEQUENTIAL : Addr) (a_CONTAINER : Addr) (a_PERSISTENT_WITH_TTL : Addr) (a_PERSISTENT_SEQUENTIAL_WITH_TTL : Addr) (h0 : Heap) (n0 : Nat) (v : Option Value) (h : Heap) (L : List Loc) : Prop := v = some (own_mode x0 a_PERSISTENT a_EPHEMERAL a_PERSISTENT_SEQUENTIAL a_EPHEMERAL_SEQUENTIAL a_CONTAINER a_PERSISTENT_WITH_TTL a_PERSISTENT_SEQUENTIAL_WITH_TTL) ∧ Fr n0 L ∧ Keep h0 h []
set_option maxRecDepth 65536 in
set_option maxHeartbeats 40000000 in
theorem rm1 (l : Launch) (Z : State) (a0 : Array Value) (hw : ∀ d ∈ tables_1, d.before a0 Z = true) (ws : List Jvm.Cond) (x0 : Int32) (aV : Addr) (kV : ClassId) (a_PERSISTENT : Addr) (a_EPHEMERAL : Addr) (a_PERSISTENT_SEQUENTIAL : Addr) (a_EPHEMERAL_SEQUENTIAL : Addr) (a_CONTAINER : Addr) (a_PERSISTENT_WITH_TTL : Addr) (a_PERSISTENT_SEQUENTIAL_WITH_TTL : Addr) (h0 : Heap) (n0 : Nat) (Z0 : n0 ≤ h0.size) (O0 : Old Z n0 h0) (p_0 : Sta Z Z.heap "com/example/alert_tree/alerttree/protocol/CreateMode" "$VALUES" "[Lcom/example/alert_tree/alerttree/protocol/CreateMode;" (.ref aV)) (p_1 : Exa Z Z.heap aV "[Lcom/example/alert_tree/alerttree/protocol/CreateMode;") (p_2 : Arv Z Z.heap aV kV (.object "com/example/alert_tree/alerttree/protocol/CreateMode") (7 : Int32) [(.ref a_PERSISTENT), (.ref a_EPHEMERAL), (.ref a_PERSISTENT_SEQUENTIAL), (.ref a_EPHEMERAL_SEQUENTIAL), (.ref a_CONTAINER), (.ref a_PERSISTENT_WITH_TTL), (.ref a_PERSISTENT_SEQUENTIAL_WITH_TTL)] .null) (p_3 : Fld Z Z.heap a_PERSISTENT "com/example/alert_tree/alerttree/protocol/CreateMode" "flags" "I" (.int (0 : Int32))) (p_4 : Fld Z Z.heap a_EPHEMERAL "com/example/alert_tree/alerttree/protocol/CreateMode" "flags" "I" (.int (1 : Int32))) (p_5 : Fld Z Z.heap a_PERSISTENT_SEQUENTIAL "com/example/alert_tree/alerttree/protocol/CreateMode" "flags" "I" (.int (2 : Int32))) (p_6 : Fld Z Z.heap a_EPHEMERAL_SEQUENTIAL "com/example/alert_tree/alerttree/protocol/CreateMode" "flags" "I" (.int (3 : Int32))) (p_7 : Fld Z Z.heap a_CONTAINER "com/example/alert_tree/alerttree/protocol/CreateMode" "flags" "I" (.int (4 : Int32))) (p_8 : Fld Z Z.heap a_PERSISTENT_WITH_TTL "com/example/alert_tree/alerttree/protocol/CreateMode" "flags" "I" (.int (5 : Int32))) (p_9 : Fld Z Z.heap a_PERSISTENT_SEQUENTIAL_WITH_TTL "com/example/alert_tree/alerttree/protocol/CreateMode" "flags" "I" (.int (6 : Int32))) :
    MetFree l (⟨"com/example/alert_tree/alerttree/protocol/CreateMode", "of", "(I)Lcom/example/alert_tree/alerttree/protocol/CreateMode;"⟩ : MethodName) (head1 (Jvm.Cond.code (⟨"com/example/alert_tree/alerttree/protocol/CreateMode", "of", "(I)Lcom/example/alert_tree/alerttree/protocol/CreateMode;"⟩ : MethodName) prog_7_method_7_code 6 (some (.object "com/example/alert_tree/alerttree/protocol/CreateMode")) :: ws) ({ frames := 2, cells := 1, slots := 7, locals := 25 } : Room)) (fun a U => a = #[(.int x0)] ∧ Z.Warmed39 U.vm ∧ U.heap = h0) (fun _ _ _ _ _ => True) (fun _ U o U' => ∃ v L, o = .returned v ∧ Q_rm1 Z x0 aV kV a_PERSISTENT a_EPHEMERAL a_PERSISTENT_SEQUENTIAL a_EPHEMERAL_SEQUENTIAL a_CONTAINER a_PERSISTENT_WITH_TTL a_PERSISTENT_SEQUENTIAL_WITH_TTL h0 n0 v U'.heap L ∧ FrameEnd U o U' L ({ frames := 2, cells := 1, slots := 7, locals := 25 } : Room).cells ({ frames := 2, cells := 1, slots := 7, locals := 25 } : Room).slots) := by
  refine MetFree.of_bodySF (plainFor_of_name pn_0) hisR ?_
  intro p e s m args below meth c s₁ Bd hml0 hP hK
  obtain ⟨rfl, hZ, hh⟩ := hP
  have hx := Bd.exec
  have hby := Bd.bytes
  have hml : c.maxLocals = 6 := hml0
  have hown : s.vm.findClass "com/example/alert_tree/alerttree/protocol/CreateMode" = some m.cls := findClass_of_methodNamed Bd.named
  have hnm := (name_of_methodNamed Bd.named Bd.method).1
  have X0 : Stand p l e ({ frames := 2, cells := 1, slots := 7, locals := 25 } : Room) s m #[(.int x0)] below meth c s₁ [] 0 0 := Stand.of_body Bd
  have e0 : s₁.heap = h0 := by rw [← hh, Bd.state]; rfl
  have N0 := Fr.nil n0
  show own_Ends p e below s ({ frames := 2, cells := 1, slots := 7, locals := 25 } : Room).cells ({ frames := 2, cells := 1, slots := 7, locals := 25 } : Room).slots (Q_rm1 Z x0 aV kV a_PERSISTENT a_EPHEMERAL a_PERSISTENT_SEQUENTIAL a_EPHEMERAL_SEQUENTIAL a_CONTAINER a_PERSISTENT_WITH_TTL a_PERSISTENT_SEQUENTIAL_WITH_TTL h0 n0) (s₁.setTop (entryFrame m #[(.int x0)] 6))
  rw [ef_1_I]
  refine own_step (st' := s₁.setTop (mkF m 1 #[.val (.int x0), .unset, .unset, .unset, .unset, .unset] [.null])) (fun t k => XS.aconstNull X0.here hx rfl (hb hby d1_0) k) ?_
  refine own_step (st' := s₁.setTop (mkF m 2 #[.val (.int x0), .val .null, .unset, .unset, .unset, .unset] [])) (fun t k => XS.astoreN X0.here hx rfl (hb hby d1_1) rfl rfl (l' := #[.val (.int x0), .val .null, .unset, .unset, .unset, .unset]) rfl k) ?_
  obtain ⟨_, _, ⟨T1, L1, k1, n1⟩, -, X1, ⟨Lc1, hQ1, l1, y1, z1⟩, st1⟩ := Jvm.LawKit.callS X0 hx (y := (⟨"com/example/alert_tree/alerttree/protocol/CreateMode", "values", "()[Lcom/example/alert_tree/alerttree/protocol/CreateMode;"⟩ : MethodName)) hown (mvT hZ (hw _ (List.mem_of_getElem? (i := 4) rfl))) (mvT hZ (hw _ (List.mem_of_getElem? (i := 5) rfl))) (mvT hZ (hw _ (List.mem_of_getElem? (i := 2) rfl))) (mvT hZ (hw _ (List.mem_of_getElem? (i := 6) rfl))) (by decide) (backOf (W := 0) (rm2 l Z a0 hw [] aV kV a_PERSISTENT a_EPHEMERAL a_PERSISTENT_SEQUENTIAL a_EPHEMERAL_SEQUENTIAL a_CONTAINER a_PERSISTENT_WITH_TTL a_PERSISTENT_SEQUENTIAL_WITH_TTL h0 n0 Z0 O0 p_0 p_1 p_2) hZ (hw _ (List.mem_of_getElem? (i := 6) rfl)) (hw _ (List.mem_of_getElem? (i := 2) rfl)) (by decide) (by decide)) (g := (mkF m 2 #[.val (.int x0), .val .null, .unset, .unset, .unset, .unset] [])) rfl (by rw [hml]; rfl) (argsL := []) (rest := []) (lenOf pd_1 rfl) rfl (by show 2 * 0 + _ ≤ _; exact Nat.le_of_eq rfl) (hb hby d1_2) (fun _ _ => ⟨rfl, e0, (by decide : 0 + 1 ≤ _), (by decide : 0 + 7 ≤ _)⟩)
  dsimp only [Pt.U, Pt.locs, Pt.cells, Pt.slots] at X1 l1 y1 z1 st1 hQ1
  subst l1 y1 z1
  obtain ⟨b_1, rfl, N1q, K1, pq1_0, pq1_1⟩ := hQ1
  have N1 := Fr.app N0 N1q
  obtain ⟨h1, e1⟩ : ∃ z, T1.heap = z := ⟨_, rfl⟩
  rw [e1] at K1 pq1_1
  have ne2 : aV ≠ b_1 := Nat.ne_of_lt (Nat.lt_of_lt_of_le (p_1.ext O0.2).lt pq1_0)
  have ne3 : a_PERSISTENT ≠ b_1 := Nat.ne_of_lt (Nat.lt_of_lt_of_le (p_3.ext O0.2).lt pq1_0)
  have ne4 : a_EPHEMERAL ≠ b_1 := Nat.ne_of_lt (Nat.lt_of_lt_of_le (p_4.ext O0.2).lt pq1_0)
  have ne5 : a_PERSISTENT_SEQUENTIAL ≠ b_1 := Nat.ne_of_lt (Nat.lt_of_lt_of_le (p_5.ext O0.2).lt pq1_0)
  have ne6 : a_EPHEMERAL_SEQUENTIAL ≠ b_1 := Nat.ne_of_lt (Nat.lt_of_lt_of_le (p_6.ext O0.2).lt pq1_0)
  have ne7 : a_CONTAINER ≠ b_1 := Nat.ne_of_lt (Nat.lt_of_lt_of_le (p_7.ext O0.2).lt pq1_0)
  have ne8 : a_PERSISTENT_WITH_TTL ≠ b_1 := Nat.ne_of_lt (Nat.lt_of_lt_of_le (p_8.ext O0.2).lt pq1_0)
  have ne9 : a_PERSISTENT_SEQUENTIAL_WITH_TTL ≠ b_1 := Nat.ne_of_lt (Nat.lt_of_lt_of_le (p_9.ext O0.2).lt pq1_0)
  have g_b_1 : n0 ≤ b_1 := Nat.le_trans Z0 pq1_0
  have sz_b_1 : h0.size ≤ b_1 := Nat.le_trans (Keep.refl h0 []).1 pq1_0
  have O10 := O0.keep K1 all0
  have K11 : Keep h0 h1 [] := (Keep.refl h0 []).trans K1 all0
  have Z12 : n0 ≤ h1.size := Nat.le_trans Z0 K1.1
  refine own_step (st' := T1.setTop (mkF m 5 #[.val (.int x0), .val .null, .unset, .unset, .unset, .unset] [(.ref b_1)])) st1 ?_
  refine own_step (st' := T1.setTop (mkF m 6 #[.val (.int x0), .val .null, .val (.ref b_1), .unset, .unset, .unset] [])) (fun t k => XS.astoreN X1.here hx rfl (hb hby d1_5) rfl rfl (l' := #[.val (.int x0), .val .null, .val (.ref b_1), .unset, .unset, .unset]) rfl k) ?_
  refine own_step (st' := T1.setTop (mkF m 7 #[.val (.int x0), .val .null, .val (.ref b_1), .unset, .unset, .unset] [(.ref b_1)])) (fun t k => XS.aloadN X1.here hx rfl (hb hby d1_6) rfl rfl k) ?_
  refine own_step (st' := T1.setTop (mkF m 8 #[.val (.int x0), .val .null, .val (.ref b_1), .unset, .unset, .unset] [(.int (7 : Int32))])) (fun t k => own_len X1 hx hZ e1 pq1_1 (g := (mkF m 7 #[.val (.int x0), .val .null, .val (.ref b_1), .unset, .unset, .unset] [(.ref b_1)])) rfl rfl (hb hby d1_7) t k) ?_
  refine own_step (st' := T1.setTop (mkF m 9 #[.val (.int x0), .val .null, .val (.ref b_1), .val (.int (7 : Int32)), .unset, .unset] [])) (fun t k => XS.istoreN X1.here hx rfl (hb hby d1_8) rfl (l' := #[.val (.int x0), .val .null, .val (.ref b_1), .val (.int (7 : Int32)), .unset, .unset]) rfl k) ?_
  refine own_step (st' := T1.setTop (mkF m 10 #[.val (.int x0), .val .null, .val (.ref b_1), .val (.int (7 : Int32)), .unset, .unset] [(.int (0 : Int32))])) (fun t k => XS.iconst X1.here hx rfl (hb hby d1_9) k) ?_
  refine own_step (st' := T1.setTop (mkF m 12 #[.val (.int x0), .val .null, .val (.ref b_1), .val (.int (7 : Int32)), .val (.int (0 : Int32)), .unset] [])) (fun t k => XS.istore X1.here hx rfl (hb hby d1_10) rfl (l' := #[.val (.int x0), .val .null, .val (.ref b_1), .val (.int (7 : Int32)), .val (.int (0 : Int32)), .unset]) rfl k) ?_
  refine own_step (st' := T1.setTop (mkF m 14 #[.val (.int x0), .val .null, .val (.ref b_1), .val (.int (7 : Int32)), .val (.int (0 : Int32)), .unset] [(.int (0 : Int32))])) (fun t k => XS.iload X1.here hx rfl (hb hby d1_12) rfl k) ?_
  refine own_step (st' := T1.setTop (mkF m 15 #[.val (.int x0), .val .null, .val (.ref b_1), .val (.int (7 : Int32)), .val (.int (0 : Int32)), .unset] [(.int (7 : Int32)), (.int (0 : Int32))])) (fun t k => XS.iloadN X1.here hx rfl (hb hby d1_14) rfl k) ?_
  refine own_step (st' := T1.setTop (mkF m 18 #[.val (.int x0), .val .null, .val (.ref b_1), .val (.int (7 : Int32)), .val (.int (0 : Int32)), .unset] [])) (fun t k => XS.icmpNo X1.here hx rfl (hb hby d1_15) rfl (tlt (by decide)).2.1 k) ?_
  refine own_step (st' := T1.setTop (mkF m 19 #[.val (.int x0), .val .null, .val (.ref b_1), .val (.int (7 : Int32)), .val (.int (0 : Int32)), .unset] [(.ref b_1)])) (fun t k => XS.aloadN X1.here hx rfl (hb hby d1_18) rfl rfl k) ?_
  refine own_step (st' := T1.setTop (mkF m 21 #[.val (.int x0), .val .null, .val (.ref b_1), .val (.int (7 : Int32)), .val (.int (0 : Int32)), .unset] [(.int (0 : Int32)), (.ref b_1)])) (fun t k => XS.iload X1.here hx rfl (hb hby d1_19) rfl k) ?_
  refine own_step (st' := T1.setTop (mkF m 22 #[.val (.int x0), .val .null, .val (.ref b_1), .val (.int (7 : Int32)), .val (.int (0 : Int32)), .unset] [(.ref a_PERSISTENT)])) (fun t k => own_ldR X1 hx hZ e1 pq1_1 rfl (j := (0 : Int32)) (v := (.ref a_PERSISTENT)) ⟨by decide, by decide⟩ rfl (g := (mkF m 21 #[.val (.int x0), .val .null, .val (.ref b_1), .val (.int (7 : Int32)), .val (.int (0 : Int32)), .unset] [(.int (0 : Int32)), (.ref b_1)])) rfl rfl (hb hby d1_21) t k) ?_
  refine own_step (st' := T1.setTop (mkF m 24 #[.val (.int x0), .val .null, .val (.ref b_1), .val (.int (7 : Int32)), .val (.int (0 : Int32)), .val (.ref a_PERSISTENT)] [])) (fun t k => XS.astore X1.here hx rfl (hb hby d1_22) rfl rfl (l' := #[.val (.int x0), .val .null, .val (.ref b_1), .val (.int (7 : Int32)), .val (.int (0 : Int32)), .val (.ref a_PERSISTENT)]) rfl k) ?_
  refine own_step (st' := T1.setTop (mkF m 26 #[.val (.int x0), .val .null, .val (.ref b_1), .val (.int (7 : Int32)), .val (.int (0 : Int32)), .val (.ref a_PERSISTENT)] [(.ref a_PERSISTENT)])) (fun t k => XS.aload X1.here hx rfl (hb hby d1_24) rfl rfl k) ?_
  obtain ⟨T13, X13, e13, st13⟩ := getF X1 hx hZ hown (host := "") (Or.inl (hw _ (List.mem_of_getElem? (i := 26) rfl))) Via.refl e1 (p_3.ext O10.2) (g := (mkF m 26 #[.val (.int x0), .val .null, .val (.ref b_1), .val (.int (7 : Int32)), .val (.int (0 : Int32)), .val (.ref a_PERSISTENT)] [(.ref a_PERSISTENT)])) rfl rfl (hb hby d1_26)
  refine own_step (st' := T13.setTop (mkF m 29 #[.val (.int x0), .val .null, .val (.ref b_1), .val (.int (7 : Int32)), .val (.int (0 : Int32)), .val (.ref a_PERSISTENT)] [(.int (0 : Int32))])) st13 ?_
  refine own_step (st' := T13.setTop (mkF m 30 #[.val (.int x0), .val .null, .val (.ref b_1), .val (.int (7 : Int32)), .val (.int (0 : Int32)), .val (.ref a_PERSISTENT)] [(.int x0), (.int (0 : Int32))])) (fun t k => XS.iloadN X13.here hx rfl (hb hby d1_29) rfl k) ?_
  by_cases hc14 : (0 : Int32) = x0
  · refine own_step (st' := T13.setTop (mkF m 33 #[.val (.int x0), .val .null, .val (.ref b_1), .val (.int (7 : Int32)), .val (.int (0 : Int32)), .val (.ref a_PERSISTENT)] [])) (fun t k => XS.icmpNo X13.here hx rfl (hb hby d1_30) rfl (teq hc14).2 k) ?_
    refine own_step (st' := T13.setTop (mkF m 35 #[.val (.int x0), .val .null, .val (.ref b_1), .val (.int (7 : Int32)), .val (.int (0 : Int32)), .val (.ref a_PERSISTENT)] [(.ref a_PERSISTENT)])) (fun t k => XS.aload X13.here hx rfl (hb hby d1_33) rfl rfl k) ?_
    refine own_step (st' := T13.setTop (mkF m 36 #[.val (.int x0), .val (.ref a_PERSISTENT), .val (.ref b_1), .val (.int (7 : Int32)), .val (.int (0 : Int32)), .val (.ref a_PERSISTENT)] [])) (fun t k => XS.astoreN X13.here hx rfl (hb hby d1_35) rfl rfl (l' := #[.val (.int x0), .val (.ref a_PERSISTENT), .val (.ref b_1), .val (.int (7 : Int32)), .val (.int (0 : Int32)), .val (.ref a_PERSISTENT)]) rfl k) ?_
    refine own_step (st' := T13.setTop (mkF m 45 #[.val (.int x0), .val (.ref a_PERSISTENT), .val (.ref b_1), .val (.int (7 : Int32)), .val (.int (0 : Int32)), .val (.ref a_PERSISTENT)] [])) (fun t k => XS.goto X13.here hx rfl (pc0 := 36) (pc' := 45) rfl (hb hby d1_36) (by decide) (by decide) k) ?_
    refine own_step (st' := T13.setTop (mkF m 46 #[.val (.int x0), .val (.ref a_PERSISTENT), .val (.ref b_1), .val (.int (7 : Int32)), .val (.int (0 : Int32)), .val (.ref a_PERSISTENT)] [(.ref a_PERSISTENT)])) (fun t k => XS.aloadN X13.here hx rfl (hb hby d1_45) rfl rfl k) ?_
    refine own_ret X13 Bd.notSynchronized (some (.ref a_PERSISTENT)) (fun h => by rw [Bd.returns] at h; cases h) (fun fs hr => retOut X13 hx Bd.returns rfl (Or.inr (Or.inr (Or.inr (Or.inr ⟨rfl, rfl, rfl⟩)))) (hb hby d1_46) hr) ?_ (by decide) (by decide)
    rw [e13]
    exact ⟨(by simp only [own_mode, if_pos (hc14.symm)]), N1, K11⟩
  · refine own_step (st' := T13.setTop (mkF m 39 #[.val (.int x0), .val .null, .val (.ref b_1), .val (.int (7 : Int32)), .val (.int (0 : Int32)), .val (.ref a_PERSISTENT)] [])) (fun t k => XS.icmpYes X13.here hx rfl (pc0 := 30) (pc' := 39) rfl (hb hby d1_30) rfl (feq hc14).2 (by decide) (by decide) k) ?_
    refine own_step (st' := T13.setTop (mkF m 42 #[.val (.int x0), .val .null, .val (.ref b_1), .val (.int (7 : Int32)), .val (.int (1 : Int32)), .val (.ref a_PERSISTENT)] [])) (fun t k => XS.iinc X13.here hx rfl (hb hby d1_39) rfl (l' := #[.val (.int x0), .val .null, .val (.ref b_1), .val (.int (7 : Int32)), .val (.int (1 : Int32)), .val (.ref a_PERSISTENT)]) rfl k) ?_
    refine own_step (st' := T13.setTop (mkF m 12 #[.val (.int x0), .val .null, .val (.ref b_1), .val (.int (7 : Int32)), .val (.int (1 : Int32)), .val (.ref a_PERSISTENT)] [])) (fun t k => XS.goto X13.here hx rfl (pc0 := 42) (pc' := 12) rfl (hb hby d1_42) (by decide) (by decide) k) ?_
    refine own_step (st' := T13.setTop (mkF m 14 #[.val (.int x0), .val .null, .val (.ref b_1), .val (.int (7 : Int32)), .val (.int (1 : Int32)), .val (.ref a_PERSISTENT)] [(.int (1 : Int32))])) (fun t k => XS.iload X13.here hx rfl (hb hby d1_12) rfl k) ?_
    refine own_step (st' := T13.setTop (mkF m 15 #[.val (.int x0), .val .null, .val (.ref b_1), .val (.int (7 : Int32)), .val (.int (1 : Int32)), .val (.ref a_PERSISTENT)] [(.int (7 : Int32)), (.int (1 : Int32))])) (fun t k => XS.iloadN X13.here hx rfl (hb hby d1_14) rfl k) ?_
    refine own_step (st' := T13.setTop (mkF m 18 #[.val (.int x0), .val .null, .val (.ref b_1), .val (.int (7 : Int32)), .val (.int (1 : Int32)), .val (.ref a_PERSISTENT)] [])) (fun t k => XS.icmpNo X13.here hx rfl (hb hby d1_15) rfl (tlt (by decide)).2.1 k) ?_
    refine own_step (st' := T13.setTop (mkF m 19 #[.val (.int x0), .val .null, .val (.ref b_1), .val (.int (7 : Int32)), .val (.int (1 : Int32)), .val (.ref a_PERSISTENT)] [(.ref b_1)])) (fun t k => XS.aloadN X13.here hx rfl (hb hby d1_18) rfl rfl k) ?_
    refine own_step (st' := T13.setTop (mkF m 21 #[.val (.int x0), .val .null, .val (.ref b_1), .val (.int (7 : Int32)), .val (.int (1 : Int32)), .val (.ref a_PERSISTENT)] [(.int (1 : Int32)), (.ref b_1)])) (fun t k => XS.iload X13.here hx rfl (hb hby d1_19) rfl k) ?_
    refine own_step (st' := T13.setTop (mkF m 22 #[.val (.int x0), .val .null, .val (.ref b_1), .val (.int (7 : Int32)), .val (.int (1 : Int32)), .val (.ref a_PERSISTENT)] [(.ref a_EPHEMERAL)])) (fun t k => own_ldR X13 hx hZ e13 pq1_1 rfl (j := (1 : Int32)) (v := (.ref a_EPHEMERAL)) ⟨by decide, by decide⟩ rfl (g := (mkF m 21 #[.val (.int x0), .val .null, .val (.ref b_1), .val (.int (7 : Int32)), .val (.int (1 : Int32)), .val (.ref a_PERSISTENT)] [(.int (1 : Int32)), (.ref b_1)])) rfl rfl (hb hby d1_21) t k) ?_
    refine own_step (st' := T13.setTop (mkF m 24 #[.val (.int x0), .val .null, .val (.ref b_1), .val (.int (7 : Int32)), .val (.int (1 : Int32)), .val (.ref a_EPHEMERAL)] [])) (fun t k => XS.astore X13.here hx rfl (hb hby d1_22) rfl rfl (l' := #[.val (.int x0), .val .null, .val (.ref b_1), .val (.int (7 : Int32)), .val (.int (1 : Int32)), .val (.ref a_EPHEMERAL)]) rfl k) ?_
    refine own_step (st' := T13.setTop (mkF m 26 #[.val (.int x0), .val .null, .val (.ref b_1), .val (.int (7 : Int32)), .val (.int (1 : Int32)), .val (.ref a_EPHEMERAL)] [(.ref a_EPHEMERAL)])) (fun t k => XS.aload X13.here hx rfl (hb hby d1_24) rfl rfl k) ?_
    obtain ⟨T15, X15, e15, st15⟩ := getF X13 hx hZ hown (host := "") (Or.inl (hw _ (List.mem_of_getElem? (i := 26) rfl))) Via.refl e13 (p_4.ext O10.2) (g := (mkF m 26 #[.val (.int x0), .val .null, .val (.ref b_1), .val (.int (7 : Int32)), .val (.int (1 : Int32)), .val (.ref a_EPHEMERAL)] [(.ref a_EPHEMERAL)])) rfl rfl (hb hby d1_26)
    refine own_step (st' := T15.setTop (mkF m 29 #[.val (.int x0), .val .null, .val (.ref b_1), .val (.int (7 : Int32)), .val (.int (1 : Int32)), .val (.ref a_EPHEMERAL)] [(.int (1 : Int32))])) st15 ?_
    refine own_step (st' := T15.setTop (mkF m 30 #[.val (.int x0), .val .null, .val (.ref b_1), .val (.int (7 : Int32)), .val (.int (1 : Int32)), .val (.ref a_EPHEMERAL)] [(.int x0), (.int (1 : Int32))])) (fun t k => XS.iloadN X15.here hx rfl (hb hby d1_29) rfl k) ?_
    by_cases hc16 : (1 : Int32) = x0
    · refine own_step (st' := T15.setTop (mkF m 33 #[.val (.int x0), .val .null, .val (.ref b_1), .val (.int (7 : Int32)), .val (.int (1 : Int32)), .val (.ref a_EPHEMERAL)] [])) (fun t k => XS.icmpNo X15.here hx rfl (hb hby d1_30) rfl (teq hc16).2 k) ?_
      refine own_step (st' := T15.setTop (mkF m 35 #[.val (.int x0), .val .null, .val (.ref b_1), .val (.int (7 : Int32)), .val (.int (1 : Int32)), .val (.ref a_EPHEMERAL)] [(.ref a_EPHEMERAL)])) (fun t k => XS.aload X15.here hx rfl (hb hby d1_33) rfl rfl k) ?_
      refine own_step (st' := T15.setTop (mkF m 36 #[.val (.int x0), .val (.ref a_EPHEMERAL), .val (.ref b_1), .val (.int (7 : Int32)), .val (.int (1 : Int32)), .val (.ref a_EPHEMERAL)] [])) (fun t k => XS.astoreN X15.here hx rfl (hb hby d1_35) rfl rfl (l' := #[.val (.int x0), .val (.ref a_EPHEMERAL), .val (.ref b_1), .val (.int (7 : Int32)), .val (.int (1 : Int32)), .val (.ref a_EPHEMERAL)]) rfl k) ?_
      refine own_step (st' := T15.setTop (mkF m 45 #[.val (.int x0), .val (.ref a_EPHEMERAL), .val (.ref b_1), .val (.int (7 : Int32)), .val (.int (1 : Int32)), .val (.ref a_EPHEMERAL)] [])) (fun t k => XS.goto X15.here hx rfl (pc0 := 36) (pc' := 45) rfl (hb hby d1_36) (by decide) (by decide) k) ?_
      refine own_step (st' := T15.setTop (mkF m 46 #[.val (.int x0), .val (.ref a_EPHEMERAL), .val (.ref b_1), .val (.int (7 : Int32)), .val (.int (1 : Int32)), .val (.ref a_EPHEMERAL)] [(.ref a_EPHEMERAL)])) (fun t k => XS.aloadN X15.here hx rfl (hb hby d1_45) rfl rfl k) ?_
      refine own_ret X15 Bd.notSynchronized (some (.ref a_EPHEMERAL)) (fun h => by rw [Bd.returns] at h; cases h) (fun fs hr => retOut X15 hx Bd.returns rfl (Or.inr (Or.inr (Or.inr (Or.inr ⟨rfl, rfl, rfl⟩)))) (hb hby d1_46) hr) ?_ (by decide) (by decide)
      rw [e15]
      exact ⟨(by simp only [own_mode, if_neg (fun q : x0 = (0 : Int32) => hc14 q.symm), if_pos (hc16.symm)]), N1, K11⟩
    · refine own_step (st' := T15.setTop (mkF m 39 #[.val (.int x0), .val .null, .val (.ref b_1), .val (.int (7 : Int32)), .val (.int (1 : Int32)), .val (.ref a_EPHEMERAL)] [])) (fun t k => XS.icmpYes X15.here hx rfl (pc0 := 30) (pc' := 39) rfl (hb hby d1_30) rfl (feq hc16).2 (by decide) (by decide) k) ?_
      refine own_step (st' := T15.setTop (mkF m 42 #[.val (.int x0), .val .null, .val (.ref b_1), .val (.int (7 : Int32)), .val (.int (2 : Int32)), .val (.ref a_EPHEMERAL)] [])) (fun t k => XS.iinc X15.here hx rfl (hb hby d1_39) rfl (l' := #[.val (.int x0), .val .null, .val (.ref b_1), .val (.int (7 : Int32)), .val (.int (2 : Int32)), .val (.ref a_EPHEMERAL)]) rfl k) ?_
      refine own_step (st' := T15.setTop (mkF m 12 #[.val (.int x0), .val .null, .val (.ref b_1), .val (.int (7 : Int32)), .val (.int (2 : Int32)), .val (.ref a_EPHEMERAL)] [])) (fun t k => XS.goto X15.here hx rfl (pc0 := 42) (pc' := 12) rfl (hb hby d1_42) (by decide) (by decide) k) ?_
      refine own_step (st' := T15.setTop (mkF m 14 #[.val (.int x0), .val .null, .val (.ref b_1), .val (.int (7 : Int32)), .val (.int (2 : Int32)), .val (.ref a_EPHEMERAL)] [(.int (2 : Int32))])) (fun t k => XS.iload X15.here hx rfl (hb hby d1_12) rfl k) ?_
      refine own_step (st' := T15.setTop (mkF m 15 #[.val (.int x0), .val .null, .val (.ref b_1), .val (.int (7 : Int32)), .val (.int (2 : Int32)), .val (.ref a_EPHEMERAL)] [(.int (7 : Int32)), (.int (2 : Int32))])) (fun t k => XS.iloadN X15.here hx rfl (hb hby d1_14) rfl k) ?_
      refine own_step (st' := T15.setTop (mkF m 18 #[.val (.int x0), .val .null, .val (.ref b_1), .val (.int (7 : Int32)), .val (.int (2 : Int32)), .val (.ref a_EPHEMERAL)] [])) (fun t k => XS.icmpNo X15.here hx rfl (hb hby d1_15) rfl (tlt (by decide)).2.1 k) ?_
      refine own_step (st' := T15.setTop (mkF m 19 #[.val (.int x0), .val .null, .val (.ref b_1), .val (.int (7 : Int32)), .val (.int (2 : Int32)), .val (.ref a_EPHEMERAL)] [(.ref b_1)])) (fun t k => XS.aloadN X15.here hx rfl (hb hby d1_18) rfl rfl k) ?_
      refine own_step (st' := T15.setTop (mkF m 21 #[.val (.int x0), .val .null, .val (.ref b_1), .val (.int (7 : Int32)), .val (.int (2 : Int32)), .val (.ref a_EPHEMERAL)] [(.int (2 : Int32)), (.ref b_1)])) (fun t k => XS.iload X15.here hx rfl (hb hby d1_19) rfl k) ?_
      refine own_step (st' := T15.setTop (mkF m 22 #[.val (.int x0), .val .null, .val (.ref b_1), .val (.int (7 : Int32)), .val (.int (2 : Int32)), .val (.ref a_EPHEMERAL)] [(.ref a_PERSISTENT_SEQUENTIAL)])) (fun t k => own_ldR X15 hx hZ e15 pq1_1 rfl (j := (2 : Int32)) (v := (.ref a_PERSISTENT_SEQUENTIAL)) ⟨by decide, by decide⟩ rfl (g := (mkF m 21 #[.val (.int x0), .val .null, .val (.ref b_1), .val (.int (7 : Int32)), .val (.int (2 : Int32)), .val (.ref a_EPHEMERAL)] [(.int (2 : Int32)), (.ref b_1)])) rfl rfl (hb hby d1_21) t k) ?_
      refine own_step (st' := T15.setTop (mkF m 24 #[.val (.int x0), .val .null, .val (.ref b_1), .val (.int (7 : Int32)), .val (.int (2 : Int32)), .val (.ref a_PERSISTENT_SEQUENTIAL)] [])) (fun t k => XS.astore X15.here hx rfl (hb hby d1_22) rfl rfl (l' := #[.val (.int x0), .val .null, .val (.ref b_1), .val (.int (7 : Int32)), .val (.int (2 : Int32)), .val (.ref a_PERSISTENT_SEQUENTIAL)]) rfl k) ?_
      refine own_step (st' := T15.setTop (mkF m 26 #[.val (.int x0), .val .null, .val (.ref b_1), .val (.int (7 : Int32)), .val (.int (2 : Int32)), .val (.ref a_PERSISTENT_SEQUENTIAL)] [(.ref a_PERSISTENT_SEQUENTIAL)])) (fun t k => XS.aload X15.here hx rfl (hb hby d1_24) rfl rfl k) ?_
      obtain ⟨T17, X17, e17, st17⟩ := getF X15 hx hZ hown (host := "") (Or.inl (hw _ (List.mem_of_getElem? (i := 26) rfl))) Via.refl e15 (p_5.ext O10.2) (g := (mkF m 26 #[.val (.int x0), .val .null, .val (.ref b_1), .val (.int (7 : Int32)), .val (.int (2 : Int32)), .val (.ref a_PERSISTENT_SEQUENTIAL)] [(.ref a_PERSISTENT_SEQUENTIAL)])) rfl rfl (hb hby d1_26)
      refine own_step (st' := T17.setTop (mkF m 29 #[.val (.int x0), .val .null, .val (.ref b_1), .val (.int (7 : Int32)), .val (.int (2 : Int32)), .val (.ref a_PERSISTENT_SEQUENTIAL)] [(.int (2 : Int32))])) st17 ?_
      refine own_step (st' := T17.setTop (mkF m 30 #[.val (.int x0), .val .null, .val (.ref b_1), .val (.int (7 : Int32)), .val (.int (2 : Int32)), .val (.ref a_PERSISTENT_SEQUENTIAL)] [(.int x0), (.int (2 : Int32))])) (fun t k => XS.iloadN X17.here hx rfl (hb hby d1_29) rfl k) ?_
      by_cases hc18 : (2 : Int32) = x0
      · refine own_step (st' := T17.setTop (mkF m 33 #[.val (.int x0), .val .null, .val (.ref b_1), .val (.int (7 : Int32)), .val (.int (2 : Int32)), .val (.ref a_PERSISTENT_SEQUENTIAL)] [])) (fun t k => XS.icmpNo X17.here hx rfl (hb hby d1_30) rfl (teq hc18).2 k) ?_
        refine own_step (st' := T17.setTop (mkF m 35 #[.val (.int x0), .val .null, .val (.ref b_1), .val (.int (7 : Int32)), .val (.int (2 : Int32)), .val (.ref a_PERSISTENT_SEQUENTIAL)] [(.ref a_PERSISTENT_SEQUENTIAL)])) (fun t k => XS.aload X17.here hx rfl (hb hby d1_33) rfl rfl k) ?_
        refine own_step (st' := T17.setTop (mkF m 36 #[.val (.int x0), .val (.ref a_PERSISTENT_SEQUENTIAL), .val (.ref b_1), .val (.int (7 : Int32)), .val (.int (2 : Int32)), .val (.ref a_PERSISTENT_SEQUENTIAL)] [])) (fun t k => XS.astoreN X17.here hx rfl (hb hby d1_35) rfl rfl (l' := #[.val (.int x0), .val (.ref a_PERSISTENT_SEQUENTIAL), .val (.ref b_1), .val (.int (7 : Int32)), .val (.int (2 : Int32)), .val (.ref a_PERSISTENT_SEQUENTIAL)]) rfl k) ?_
        refine own_step (st' := T17.setTop (mkF m 45 #[.val (.int x0), .val (.ref a_PERSISTENT_SEQUENTIAL), .val (.ref b_1), .val (.int (7 : Int32)), .val (.int (2 : Int32)), .val (.ref a_PERSISTENT_SEQUENTIAL)] [])) (fun t k => XS.goto X17.here hx rfl (pc0 := 36) (pc' := 45) rfl (hb hby d1_36) (by decide) (by decide) k) ?_
        refine own_step (st' := T17.setTop (mkF m 46 #[.val (.int x0), .val (.ref a_PERSISTENT_SEQUENTIAL), .val (.ref b_1), .val (.int (7 : Int32)), .val (.int (2 : Int32)), .val (.ref a_PERSISTENT_SEQUENTIAL)] [(.ref a_PERSISTENT_SEQUENTIAL)])) (fun t k => XS.aloadN X17.here hx rfl (hb hby d1_45) rfl rfl k) ?_
        refine own_ret X17 Bd.notSynchronized (some (.ref a_PERSISTENT_SEQUENTIAL)) (fun h => by rw [Bd.returns] at h; cases h) (fun fs hr => retOut X17 hx Bd.returns rfl (Or.inr (Or.inr (Or.inr (Or.inr ⟨rfl, rfl, rfl⟩)))) (hb hby d1_46) hr) ?_ (by decide) (by decide)
        rw [e17]
        exact ⟨(by simp only [own_mode, if_neg (fun q : x0 = (0 : Int32) => hc14 q.symm), if_neg (fun q : x0 = (1 : Int32) => hc16 q.symm), if_pos (hc18.symm)]), N1, K11⟩
      · refine own_step (st' := T17.setTop (mkF m 39 #[.val (.int x0), .val .null, .val (.ref b_1), .val (.int (7 : Int32)), .val (.int (2 : Int32)), .val (.ref a_PERSISTENT_SEQUENTIAL)] [])) (fun t k => XS.icmpYes X17.here hx rfl (pc0 := 30) (pc' := 39) rfl (hb hby d1_30) rfl (feq hc18).2 (by decide) (by decide) k) ?_
        refine own_step (st' := T17.setTop (mkF m 42 #[.val (.int x0), .val .null, .val (.ref b_1), .val (.int (7 : Int32)), .val (.int (3 : Int32)), .val (.ref a_PERSISTENT_SEQUENTIAL)] [])) (fun t k => XS.iinc X17.here hx rfl (hb hby d1_39) rfl (l' := #[.val (.int x0), .val .null, .val (.ref b_1), .val (.int (7 : Int32)), .val (.int (3 : Int32)), .val (.ref a_PERSISTENT_SEQUENTIAL)]) rfl k) ?_
        refine own_step (st' := T17.setTop (mkF m 12 #[.val (.int x0), .val .null, .val (.ref b_1), .val (.int (7 : Int32)), .val (.int (3 : Int32)), .val (.ref a_PERSISTENT_SEQUENTIAL)] [])) (fun t k => XS.goto X17.here hx rfl (pc0 := 42) (pc' := 12) rfl (hb hby d1_42) (by decide) (by decide) k) ?_
        refine own_step (st' := T17.setTop (mkF m 14 #[.val (.int x0), .val .null, .val (.ref b_1), .val (.int (7 : Int32)), .val (.int (3 : Int32)), .val (.ref a_PERSISTENT_SEQUENTIAL)] [(.int (3 : Int32))])) (fun t k => XS.iload X17.here hx rfl (hb hby d1_12) rfl k) ?_
        refine own_step (st' := T17.setTop (mkF m 15 #[.val (.int x0), .val .null, .val (.ref b_1), .val (.int (7 : Int32)), .val (.int (3 : Int32)), .val (.ref a_PERSISTENT_SEQUENTIAL)] [(.int (7 : Int32)), (.int (3 : Int32))])) (fun t k => XS.iloadN X17.here hx rfl (hb hby d1_14) rfl k) ?_
        refine own_step (st' := T17.setTop (mkF m 18 #[.val (.int x0), .val .null, .val (.ref b_1), .val (.int (7 : Int32)), .val (.int (3 : Int32)), .val (.ref a_PERSISTENT_SEQUENTIAL)] [])) (fun t k => XS.icmpNo X17.here hx rfl (hb hby d1_15) rfl (tlt (by decide)).2.1 k) ?_
        refine own_step (st' := T17.setTop (mkF m 19 #[.val (.int x0), .val .null, .val (.ref b_1), .val (.int (7 : Int32)), .val (.int (3 : Int32)), .val (.ref a_PERSISTENT_SEQUENTIAL)] [(.ref b_1)])) (fun t k => XS.aloadN X17.here hx rfl (hb hby d1_18) rfl rfl k) ?_
        refine own_step (st' := T17.setTop (mkF m 21 #[.val (.int x0), .val .null, .val (.ref b_1), .val (.int (7 : Int32)), .val (.int (3 : Int32)), .val (.ref a_PERSISTENT_SEQUENTIAL)] [(.int (3 : Int32)), (.ref b_1)])) (fun t k => XS.iload X17.here hx rfl (hb hby d1_19) rfl k) ?_
        refine own_step (st' := T17.setTop (mkF m 22 #[.val (.int x0), .val .null, .val (.ref b_1), .val (.int (7 : Int32)), .val (.int (3 : Int32)), .val (.ref a_PERSISTENT_SEQUENTIAL)] [(.ref a_EPHEMERAL_SEQUENTIAL)])) (fun t k => own_ldR X17 hx hZ e17 pq1_1 rfl (j := (3 : Int32)) (v := (.ref a_EPHEMERAL_SEQUENTIAL)) ⟨by decide, by decide⟩ rfl (g := (mkF m 21 #[.val (.int x0), .val .null, .val (.ref b_1), .val (.int (7 : Int32)), .val (.int (3 : Int32)), .val (.ref a_PERSISTENT_SEQUENTIAL)] [(.int (3 : Int32)), (.ref b_1)])) rfl rfl (hb hby d1_21) t k) ?_
        refine own_step (st' := T17.setTop (mkF m 24 #[.val (.int x0), .val .null, .val (.ref b_1), .val (.int (7 : Int32)), .val (.int (3 : Int32)), .val (.ref a_EPHEMERAL_SEQUENTIAL)] [])) (fun t k => XS.astore X17.here hx rfl (hb hby d1_22) rfl rfl (l' := #[.val (.int x0), .val .null, .val (.ref b_1), .val (.int (7 : Int32)), .val (.int (3 : Int32)), .val (.ref a_EPHEMERAL_SEQUENTIAL)]) rfl k) ?_
        refine own_step (st' := T17.setTop (mkF m 26 #[.val (.int x0), .val .null, .val (.ref b_1), .val (.int (7 : Int32)), .val (.int (3 : Int32)), .val (.ref a_EPHEMERAL_SEQUENTIAL)] [(.ref a_EPHEMERAL_SEQUENTIAL)])) (fun t k => XS.aload X17.here hx rfl (hb hby d1_24) rfl rfl k) ?_
        obtain ⟨T19, X19, e19, st19⟩ := getF X17 hx hZ hown (host := "") (Or.inl (hw _ (List.mem_of_getElem? (i := 26) rfl))) Via.refl e17 (p_6.ext O10.2) (g := (mkF m 26 #[.val (.int x0), .val .null, .val (.ref b_1), .val (.int (7 : Int32)), .val (.int (3 : Int32)), .val (.ref a_EPHEMERAL_SEQUENTIAL)] [(.ref a_EPHEMERAL_SEQUENTIAL)])) rfl rfl (hb hby d1_26)
        refine own_step (st' := T19.setTop (mkF m 29 #[.val (.int x0), .val .null, .val (.ref b_1), .val (.int (7 : Int32)), .val (.int (3 : Int32)), .val (.ref a_EPHEMERAL_SEQUENTIAL)] [(.int (3 : Int32))])) st19 ?_
        refine own_step (st' := T19.setTop (mkF m 30 #[.val (.int x0), .val .null, .val (.ref b_1), .val (.int (7 : Int32)), .val (.int (3 : Int32)), .val (.ref a_EPHEMERAL_SEQUENTIAL)] [(.int x0), (.int (3 : Int32))])) (fun t k => XS.iloadN X19.here hx rfl (hb hby d1_29) rfl k) ?_
        by_cases hc20 : (3 : Int32) = x0
        · refine own_step (st' := T19.setTop (mkF m 33 #[.val (.int x0), .val .null, .val (.ref b_1), .val (.int (7 : Int32)), .val (.int (3 : Int32)), .val (.ref a_EPHEMERAL_SEQUENTIAL)] [])) (fun t k => XS.icmpNo X19.here hx rfl (hb hby d1_30) rfl (teq hc20).2 k) ?_
          refine own_step (st' := T19.setTop (mkF m 35 #[.val (.int x0), .val .null, .val (.ref b_1), .val (.int (7 : Int32)), .val (.int (3 : Int32)), .val (.ref a_EPHEMERAL_SEQUENTIAL)] [(.ref a_EPHEMERAL_SEQUENTIAL)])) (fun t k => XS.aload X19.here hx rfl (hb hby d1_33) rfl rfl k) ?_
          refine own_step (st' := T19.setTop (mkF m 36 #[.val (.int x0), .val (.ref a_EPHEMERAL_SEQUENTIAL), .val (.ref b_1), .val (.int (7 : Int32)), .val (.int (3 : Int32)), .val (.ref a_EPHEMERAL_SEQUENTIAL)] [])) (fun t k => XS.astoreN X19.here hx rfl (hb hby d1_35) rfl rfl (l' := #[.val (.int x0), .val (.ref a_EPHEMERAL_SEQUENTIAL), .val (.ref b_1), .val (.int (7 : Int32)), .val (.int (3 : Int32)), .val (.ref a_EPHEMERAL_SEQUENTIAL)]) rfl k) ?_
          refine own_step (st' := T19.setTop (mkF m 45 #[.val (.int x0), .val (.ref a_EPHEMERAL_SEQUENTIAL), .val (.ref b_1), .val (.int (7 : Int32)), .val (.int (3 : Int32)), .val (.ref a_EPHEMERAL_SEQUENTIAL)] [])) (fun t k => XS.goto X19.here hx rfl (pc0 := 36) (pc' := 45) rfl (hb hby d1_36) (by decide) (by decide) k) ?_
          refine own_step (st' := T19.setTop (mkF m 46 #[.val (.int x0), .val (.ref a_EPHEMERAL_SEQUENTIAL), .val (.ref b_1), .val (.int (7 : Int32)), .val (.int (3 : Int32)), .val (.ref a_EPHEMERAL_SEQUENTIAL)] [(.ref a_EPHEMERAL_SEQUENTIAL)])) (fun t k => XS.aloadN X19.here hx rfl (hb hby d1_45) rfl rfl k) ?_
          refine own_ret X19 Bd.notSynchronized (some (.ref a_EPHEMERAL_SEQUENTIAL)) (fun h => by rw [Bd.returns] at h; cases h) (fun fs hr => retOut X19 hx Bd.returns rfl (Or.inr (Or.inr (Or.inr (Or.inr ⟨rfl, rfl, rfl⟩)))) (hb hby d1_46) hr) ?_ (by decide) (by decide)
          rw [e19]
          exact ⟨(by simp only [own_mode, if_neg (fun q : x0 = (0 : Int32) => hc14 q.symm), if_neg (fun q : x0 = (1 : Int32) => hc16 q.symm), if_neg (fun q : x0 = (2 : Int32) => hc18 q.symm), if_pos (hc20.symm)]), N1, K11⟩
        · refine own_step (st' := T19.setTop (mkF m 39 #[.val (.int x0), .val .null, .val (.ref b_1), .val (.int (7 : Int32)), .val (.int (3 : Int32)), .val (.ref a_EPHEMERAL_SEQUENTIAL)] [])) (fun t k => XS.icmpYes X19.here hx rfl (pc0 := 30) (pc' := 39) rfl (hb hby d1_30) rfl (feq hc20).2 (by decide) (by decide) k) ?_
          refine own_step (st' := T19.setTop (mkF m 42 #[.val (.int x0), .val .null, .val (.ref b_1), .val (.int (7 : Int32)), .val (.int (4 : Int32)), .val (.ref a_EPHEMERAL_SEQUENTIAL)] [])) (fun t k => XS.iinc X19.here hx rfl (hb hby d1_39) rfl (l' := #[.val (.int x0), .val .null, .val (.ref b_1), .val (.int (7 : Int32)), .val (.int (4 : Int32)), .val (.ref a_EPHEMERAL_SEQUENTIAL)]) rfl k) ?_
          refine own_step (st' := T19.setTop (mkF m 12 #[.val (.int x0), .val .null, .val (.ref b_1), .val (.int (7 : Int32)), .val (.int (4 : Int32)), .val (.ref a_EPHEMERAL_SEQUENTIAL)] [])) (fun t k => XS.goto X19.here hx rfl (pc0 := 42) (pc' := 12) rfl (hb hby d1_42) (by decide) (by decide) k) ?_
          refine own_step (st' := T19.setTop (mkF m 14 #[.val (.int x0), .val .null, .val (.ref b_1), .val (.int (7 : Int32)), .val (.int (4 : Int32)), .val (.ref a_EPHEMERAL_SEQUENTIAL)] [(.int (4 : Int32))])) (fun t k => XS.iload X19.here hx rfl (hb hby d1_12) rfl k) ?_
          refine own_step (st' := T19.setTop (mkF m 15 #[.val (.int x0), .val .null, .val (.ref b_1), .val (.int (7 : Int32)), .val (.int (4 : Int32)), .val (.ref a_EPHEMERAL_SEQUENTIAL)] [(.int (7 : Int32)), (.int (4 : Int32))])) (fun t k => XS.iloadN X19.here hx rfl (hb hby d1_14) rfl k) ?_
          refine own_step (st' := T19.setTop (mkF m 18 #[.val (.int x0), .val .null, .val (.ref b_1), .val (.int (7 : Int32)), .val (.int (4 : Int32)), .val (.ref a_EPHEMERAL_SEQUENTIAL)] [])) (fun t k => XS.icmpNo X19.here hx rfl (hb hby d1_15) rfl (tlt (by decide)).2.1 k) ?_
          refine own_step (st' := T19.setTop (mkF m 19 #[.val (.int x0), .val .null, .val (.ref b_1), .val (.int (7 : Int32)), .val (.int (4 : Int32)), .val (.ref a_EPHEMERAL_SEQUENTIAL)] [(.ref b_1)])) (fun t k => XS.aloadN X19.here hx rfl (hb hby d1_18) rfl rfl k) ?_
          refine own_step (st' := T19.setTop (mkF m 21 #[.val (.int x0), .val .null, .val (.ref b_1), .val (.int (7 : Int32)), .val (.int (4 : Int32)), .val (.ref a_EPHEMERAL_SEQUENTIAL)] [(.int (4 : Int32)), (.ref b_1)])) (fun t k => XS.iload X19.here hx rfl (hb hby d1_19) rfl k) ?_
          refine own_step (st' := T19.setTop (mkF m 22 #[.val (.int x0), .val .null, .val (.ref b_1), .val (.int (7 : Int32)), .val (.int (4 : Int32)), .val (.ref a_EPHEMERAL_SEQUENTIAL)] [(.ref a_CONTAINER)])) (fun t k => own_ldR X19 hx hZ e19 pq1_1 rfl (j := (4 : Int32)) (v := (.ref a_CONTAINER)) ⟨by decide, by decide⟩ rfl (g := (mkF m 21 #[.val (.int x0), .val .null, .val (.ref b_1), .val (.int (7 : Int32)), .val (.int (4 : Int32)), .val (.ref a_EPHEMERAL_SEQUENTIAL)] [(.int (4 : Int32)), (.ref b_1)])) rfl rfl (hb hby d1_21) t k) ?_
          refine own_step (st' := T19.setTop (mkF m 24 #[.val (.int x0), .val .null, .val (.ref b_1), .val (.int (7 : Int32)), .val (.int (4 : Int32)), .val (.ref a_CONTAINER)] [])) (fun t k => XS.astore X19.here hx rfl (hb hby d1_22) rfl rfl (l' := #[.val (.int x0), .val .null, .val (.ref b_1), .val (.int (7 : Int32)), .val (.int (4 : Int32)), .val (.ref a_CONTAINER)]) rfl k) ?_
          refine own_step (st' := T19.setTop (mkF m 26 #[.val (.int x0), .val .null, .val (.ref b_1), .val (.int (7 : Int32)), .val (.int (4 : Int32)), .val (.ref a_CONTAINER)] [(.ref a_CONTAINER)])) (fun t k => XS.aload X19.here hx rfl (hb hby d1_24) rfl rfl k) ?_
          obtain ⟨T21, X21, e21, st21⟩ := getF X19 hx hZ hown (host := "") (Or.inl (hw _ (List.mem_of_getElem? (i := 26) rfl))) Via.refl e19 (p_7.ext O10.2) (g := (mkF m 26 #[.val (.int x0), .val .null, .val (.ref b_1), .val (.int (7 : Int32)), .val (.int (4 : Int32)), .val (.ref a_CONTAINER)] [(.ref a_CONTAINER)])) rfl rfl (hb hby d1_26)
          refine own_step (st' := T21.setTop (mkF m 29 #[.val (.int x0), .val .null, .val (.ref b_1), .val (.int (7 : Int32)), .val (.int (4 : Int32)), .val (.ref a_CONTAINER)] [(.int (4 : Int32))])) st21 ?_
          refine own_step (st' := T21.setTop (mkF m 30 #[.val (.int x0), .val .null, .val (.ref b_1), .val (.int (7 : Int32)), .val (.int (4 : Int32)), .val (.ref a_CONTAINER)] [(.int x0), (.int (4 : Int32))])) (fun t k => XS.iloadN X21.here hx rfl (hb hby d1_29) rfl k) ?_
          by_cases hc22 : (4 : Int32) = x0
          · refine own_step (st' := T21.setTop (mkF m 33 #[.val (.int x0), .val .null, .val (.ref b_1), .val (.int (7 : Int32)), .val (.int (4 : Int32)), .val (.ref a_CONTAINER)] [])) (fun t k => XS.icmpNo X21.here hx rfl (hb hby d1_30) rfl (teq hc22).2 k) ?_
            refine own_step (st' := T21.setTop (mkF m 35 #[.val (.int x0), .val .null, .val (.ref b_1), .val (.int (7 : Int32)), .val (.int (4 : Int32)), .val (.ref a_CONTAINER)] [(.ref a_CONTAINER)])) (fun t k => XS.aload X21.here hx rfl (hb hby d1_33) rfl rfl k) ?_
            refine own_step (st' := T21.setTop (mkF m 36 #[.val (.int x0), .val (.ref a_CONTAINER), .val (.ref b_1), .val (.int (7 : Int32)), .val (.int (4 : Int32)), .val (.ref a_CONTAINER)] [])) (fun t k => XS.astoreN X21.here hx rfl (hb hby d1_35) rfl rfl (l' := #[.val (.int x0), .val (.ref a_CONTAINER), .val (.ref b_1), .val (.int (7 : Int32)), .val (.int (4 : Int32)), .val (.ref a_CONTAINER)]) rfl k) ?_
            refine own_step (st' := T21.setTop (mkF m 45 #[.val (.int x0), .val (.ref a_CONTAINER), .val (.ref b_1), .val (.int (7 : Int32)), .val (.int (4 : Int32)), .val (.ref a_CONTAINER)] [])) (fun t k => XS.goto X21.here hx rfl (pc0 := 36) (pc' := 45) rfl (hb hby d1_36) (by decide) (by decide) k) ?_
            refine own_step (st' := T21.setTop (mkF m 46 #[.val (.int x0), .val (.ref a_CONTAINER), .val (.ref b_1), .val (.int (7 : Int32)), .val (.int (4 : Int32)), .val (.ref a_CONTAINER)] [(.ref a_CONTAINER)])) (fun t k => XS.aloadN X21.here hx rfl (hb hby d1_45) rfl rfl k) ?_
            refine own_ret X21 Bd.notSynchronized (some (.ref a_CONTAINER)) (fun h => by rw [Bd.returns] at h; cases h) (fun fs hr => retOut X21 hx Bd.returns rfl (Or.inr (Or.inr (Or.inr (Or.inr ⟨rfl, rfl, rfl⟩)))) (hb hby d1_46) hr) ?_ (by decide) (by decide)
            rw [e21]
            exact ⟨(by simp only [own_mode, if_neg (fun q : x0 = (0 : Int32) => hc14 q.symm), if_neg (fun q : x0 = (1 : Int32) => hc16 q.symm), if_neg (fun q : x0 = (2 : Int32) => hc18 q.symm), if_neg (fun q : x0 = (3 : Int32) => hc20 q.symm), if_pos (hc22.symm)]), N1, K11⟩
          · refine own_step (st' := T21.setTop (mkF m 39 #[.val (.int x0), .val .null, .val (.ref b_1), .val (.int (7 : Int32)), .val (.int (4 : Int32)), .val (.ref a_CONTAINER)] [])) (fun t k => XS.icmpYes X21.here hx rfl (pc0 := 30) (pc' := 39) rfl (hb hby d1_30) rfl (feq hc22).2 (by decide) (by decide) k) ?_
            refine own_step (st' := T21.setTop (mkF m 42 #[.val (.int x0), .val .null, .val (.ref b_1), .val (.int (7 : Int32)), .val (.int (5 : Int32)), .val (.ref a_CONTAINER)] [])) (fun t k => XS.iinc X21.here hx rfl (hb hby d1_39) rfl (l' := #[.val (.int x0), .val .null, .val (.ref b_1), .val (.int (7 : Int32)), .val (.int (5 : Int32)), .val (.ref a_CONTAINER)]) rfl k) ?_
            refine own_step (st' := T21.setTop (mkF m 12 #[.val (.int x0), .val .null, .val (.ref b_1), .val (.int (7 : Int32)), .val (.int (5 : Int32)), .val (.ref a_CONTAINER)] [])) (fun t k => XS.goto X21.here hx rfl (pc0 := 42) (pc' := 12) rfl (hb hby d1_42) (by decide) (by decide) k) ?_
            refine own_step (st' := T21.setTop (mkF m 14 #[.val (.int x0), .val .null, .val (.ref b_1), .val (.int (7 : Int32)), .val (.int (5 : Int32)), .val (.ref a_CONTAINER)] [(.int (5 : Int32))])) (fun t k => XS.iload X21.here hx rfl (hb hby d1_12) rfl k) ?_
            refine own_step (st' := T21.setTop (mkF m 15 #[.val (.int x0), .val .null, .val (.ref b_1), .val (.int (7 : Int32)), .val (.int (5 : Int32)), .val (.ref a_CONTAINER)] [(.int (7 : Int32)), (.int (5 : Int32))])) (fun t k => XS.iloadN X21.here hx rfl (hb hby d1_14) rfl k) ?_
            refine own_step (st' := T21.setTop (mkF m 18 #[.val (.int x0), .val .null, .val (.ref b_1), .val (.int (7 : Int32)), .val (.int (5 : Int32)), .val (.ref a_CONTAINER)] [])) (fun t k => XS.icmpNo X21.here hx rfl (hb hby d1_15) rfl (tlt (by decide)).2.1 k) ?_
            refine own_step (st' := T21.setTop (mkF m 19 #[.val (.int x0), .val .null, .val (.ref b_1), .val (.int (7 : Int32)), .val (.int (5 : Int32)), .val (.ref a_CONTAINER)] [(.ref b_1)])) (fun t k => XS.aloadN X21.here hx rfl (hb hby d1_18) rfl rfl k) ?_
            refine own_step (st' := T21.setTop (mkF m 21 #[.val (.int x0), .val .null, .val (.ref b_1), .val (.int (7 : Int32)), .val (.int (5 : Int32)), .val (.ref a_CONTAINER)] [(.int (5 : Int32)), (.ref b_1)])) (fun t k => XS.iload X21.here hx rfl (hb hby d1_19) rfl k) ?_
            refine own_step (st' := T21.setTop (mkF m 22 #[.val (.int x0), .val .null, .val (.ref b_1), .val (.int (7 : Int32)), .val (.int (5 : Int32)), .val (.ref a_CONTAINER)] [(.ref a_PERSISTENT_WITH_TTL)])) (fun t k => own_ldR X21 hx hZ e21 pq1_1 rfl (j := (5 : Int32)) (v := (.ref a_PERSISTENT_WITH_TTL)) ⟨by decide, by decide⟩ rfl (g := (mkF m 21 #[.val (.int x0), .val .null, .val (.ref b_1), .val (.int (7 : Int32)), .val (.int (5 : Int32)), .val (.ref a_CONTAINER)] [(.int (5 : Int32)), (.ref b_1)])) rfl rfl (hb hby d1_21) t k) ?_
            refine own_step (st' := T21.setTop (mkF m 24 #[.val (.int x0), .val .null, .val (.ref b_1), .val (.int (7 : Int32)), .val (.int (5 : Int32)), .val (.ref a_PERSISTENT_WITH_TTL)] [])) (fun t k => XS.astore X21.here hx rfl (hb hby d1_22) rfl rfl (l' := #[.val (.int x0), .val .null, .val (.ref b_1), .val (.int (7 : Int32)), .val (.int (5 : Int32)), .val (.ref a_PERSISTENT_WITH_TTL)]) rfl k) ?_
            refine own_step (st' := T21.setTop (mkF m 26 #[.val (.int x0), .val .null, .val (.ref b_1), .val (.int (7 : Int32)), .val (.int (5 : Int32)), .val (.ref a_PERSISTENT_WITH_TTL)] [(.ref a_PERSISTENT_WITH_TTL)])) (fun t k => XS.aload X21.here hx rfl (hb hby d1_24) rfl rfl k) ?_
            obtain ⟨T23, X23, e23, st23⟩ := getF X21 hx hZ hown (host := "") (Or.inl (hw _ (List.mem_of_getElem? (i := 26) rfl))) Via.refl e21 (p_8.ext O10.2) (g := (mkF m 26 #[.val (.int x0), .val .null, .val (.ref b_1), .val (.int (7 : Int32)), .val (.int (5 : Int32)), .val (.ref a_PERSISTENT_WITH_TTL)] [(.ref a_PERSISTENT_WITH_TTL)])) rfl rfl (hb hby d1_26)
            refine own_step (st' := T23.setTop (mkF m 29 #[.val (.int x0), .val .null, .val (.ref b_1), .val (.int (7 : Int32)), .val (.int (5 : Int32)), .val (.ref a_PERSISTENT_WITH_TTL)] [(.int (5 : Int32))])) st23 ?_
            refine own_step (st' := T23.setTop (mkF m 30 #[.val (.int x0), .val .null, .val (.ref b_1), .val (.int (7 : Int32)), .val (.int (5 : Int32)), .val (.ref a_PERSISTENT_WITH_TTL)] [(.int x0), (.int (5 : Int32))])) (fun t k => XS.iloadN X23.here hx rfl (hb hby d1_29) rfl k) ?_
            by_cases hc24 : (5 : Int32) = x0
            · refine own_step (st' := T23.setTop (mkF m 33 #[.val (.int x0), .val .null, .val (.ref b_1), .val (.int (7 : Int32)), .val (.int (5 : Int32)), .val (.ref a_PERSISTENT_WITH_TTL)] [])) (fun t k => XS.icmpNo X23.here hx rfl (hb hby d1_30) rfl (teq hc24).2 k) ?_
              refine own_step (st' := T23.setTop (mkF m 35 #[.val (.int x0), .val .null, .val (.ref b_1), .val (.int (7 : Int32)), .val (.int (5 : Int32)), .val (.ref a_PERSISTENT_WITH_TTL)] [(.ref a_PERSISTENT_WITH_TTL)])) (fun t k => XS.aload X23.here hx rfl (hb hby d1_33) rfl rfl k) ?_
              refine own_step (st' := T23.setTop (mkF m 36 #[.val (.int x0), .val (.ref a_PERSISTENT_WITH_TTL), .val (.ref b_1), .val (.int (7 : Int32)), .val (.int (5 : Int32)), .val (.ref a_PERSISTENT_WITH_TTL)] [])) (fun t k => XS.astoreN X23.here hx rfl (hb hby d1_35) rfl rfl (l' := #[.val (.int x0), .val (.ref a_PERSISTENT_WITH_TTL), .val (.ref b_1), .val (.int (7 : Int32)), .val (.int (5 : Int32)), .val (.ref a_PERSISTENT_WITH_TTL)]) rfl k) ?_
              refine own_step (st' := T23.setTop (mkF m 45 #[.val (.int x0), .val (.ref a_PERSISTENT_WITH_TTL), .val (.ref b_1), .val (.int (7 : Int32)), .val (.int (5 : Int32)), .val (.ref a_PERSISTENT_WITH_TTL)] [])) (fun t k => XS.goto X23.here hx rfl (pc0 := 36) (pc' := 45) rfl (hb hby d1_36) (by decide) (by decide) k) ?_
              refine own_step (st' := T23.setTop (mkF m 46 #[.val (.int x0), .val (.ref a_PERSISTENT_WITH_TTL), .val (.ref b_1), .val (.int (7 : Int32)), .val (.int (5 : Int32)), .val (.ref a_PERSISTENT_WITH_TTL)] [(.ref a_PERSISTENT_WITH_TTL)])) (fun t k => XS.aloadN X23.here hx rfl (hb hby d1_45) rfl rfl k) ?_
              refine own_ret X23 Bd.notSynchronized (some (.ref a_PERSISTENT_WITH_TTL)) (fun h => by rw [Bd.returns] at h; cases h) (fun fs hr => retOut X23 hx Bd.returns rfl (Or.inr (Or.inr (Or.inr (Or.inr ⟨rfl, rfl, rfl⟩)))) (hb hby d1_46) hr) ?_ (by decide) (by decide)
              rw [e23]
              exact ⟨(by simp only [own_mode, if_neg (fun q : x0 = (0 : Int32) => hc14 q.symm), if_neg (fun q : x0 = (1 : Int32) => hc16 q.symm), if_neg (fun q : x0 = (2 : Int32) => hc18 q.symm), if_neg (fun q : x0 = (3 : Int32) => hc20 q.symm), if_neg (fun q : x0 = (4 : Int32) => hc22 q.symm), if_pos (hc24.symm)]), N1, K11⟩
            · refine own_step (st' := T23.setTop (mkF m 39 #[.val (.int x0), .val .null, .val (.ref b_1), .val (.int (7 : Int32)), .val (.int (5 : Int32)), .val (.ref a_PERSISTENT_WITH_TTL)] [])) (fun t k => XS.icmpYes X23.here hx rfl (pc0 := 30) (pc' := 39) rfl (hb hby d1_30) rfl (feq hc24).2 (by decide) (by decide) k) ?_
              refine own_step (st' := T23.setTop (mkF m 42 #[.val (.int x0), .val .null, .val (.ref b_1), .val (.int (7 : Int32)), .val (.int (6 : Int32)), .val (.ref a_PERSISTENT_WITH_TTL)] [])) (fun t k => XS.iinc X23.here hx rfl (hb hby d1_39) rfl (l' := #[.val (.int x0), .val .null, .val (.ref b_1), .val (.int (7 : Int32)), .val (.int (6 : Int32)), .val (.ref a_PERSISTENT_WITH_TTL)]) rfl k) ?_
              refine own_step (st' := T23.setTop (mkF m 12 #[.val (.int x0), .val .null, .val (.ref b_1), .val (.int (7 : Int32)), .val (.int (6 : Int32)), .val (.ref a_PERSISTENT_WITH_TTL)] [])) (fun t k => XS.goto X23.here hx rfl (pc0 := 42) (pc' := 12) rfl (hb hby d1_42) (by decide) (by decide) k) ?_
              refine own_step (st' := T23.setTop (mkF m 14 #[.val (.int x0), .val .null, .val (.ref b_1), .val (.int (7 : Int32)), .val (.int (6 : Int32)), .val (.ref a_PERSISTENT_WITH_TTL)] [(.int (6 : Int32))])) (fun t k => XS.iload X23.here hx rfl (hb hby d1_12) rfl k) ?_
              refine own_step (st' := T23.setTop (mkF m 15 #[.val (.int x0), .val .null, .val (.ref b_1), .val (.int (7 : Int32)), .val (.int (6 : Int32)), .val (.ref a_PERSISTENT_WITH_TTL)] [(.int (7 : Int32)), (.int (6 : Int32))])) (fun t k => XS.iloadN X23.here hx rfl (hb hby d1_14) rfl k) ?_
              refine own_step (st' := T23.setTop (mkF m 18 #[.val (.int x0), .val .null, .val (.ref b_1), .val (.int (7 : Int32)), .val (.int (6 : Int32)), .val (.ref a_PERSISTENT_WITH_TTL)] [])) (fun t k => XS.icmpNo X23.here hx rfl (hb hby d1_15) rfl (tlt (by decide)).2.1 k) ?_
              refine own_step (st' := T23.setTop (mkF m 19 #[.val (.int x0), .val .null, .val (.ref b_1), .val (.int (7 : Int32)), .val (.int (6 : Int32)), .val (.ref a_PERSISTENT_WITH_TTL)] [(.ref b_1)])) (fun t k => XS.aloadN X23.here hx rfl (hb hby d1_18) rfl rfl k) ?_
              refine own_step (st' := T23.setTop (mkF m 21 #[.val (.int x0), .val .null, .val (.ref b_1), .val (.int (7 : Int32)), .val (.int (6 : Int32)), .val (.ref a_PERSISTENT_WITH_TTL)] [(.int (6 : Int32)), (.ref b_1)])) (fun t k => XS.iload X23.here hx rfl (hb hby d1_19) rfl k) ?_
              refine own_step (st' := T23.setTop (mkF m 22 #[.val (.int x0), .val .null, .val (.ref b_1), .val (.int (7 : Int32)), .val (.int (6 : Int32)), .val (.ref a_PERSISTENT_WITH_TTL)] [(.ref a_PERSISTENT_SEQUENTIAL_WITH_TTL)])) (fun t k => own_ldR X23 hx hZ e23 pq1_1 rfl (j := (6 : Int32)) (v := (.ref a_PERSISTENT_SEQUENTIAL_WITH_TTL)) ⟨by decide, by decide⟩ rfl (g := (mkF m 21 #[.val (.int x0), .val .null, .val (.ref b_1), .val (.int (7 : Int32)), .val (.int (6 : Int32)), .val (.ref a_PERSISTENT_WITH_TTL)] [(.int (6 : Int32)), (.ref b_1)])) rfl rfl (hb hby d1_21) t k) ?_
              refine own_step (st' := T23.setTop (mkF m 24 #[.val (.int x0), .val .null, .val (.ref b_1), .val (.int (7 : Int32)), .val (.int (6 : Int32)), .val (.ref a_PERSISTENT_SEQUENTIAL_WITH_TTL)] [])) (fun t k => XS.astore X23.here hx rfl (hb hby d1_22) rfl rfl (l' := #[.val (.int x0), .val .null, .val (.ref b_1), .val (.int (7 : Int32)), .val (.int (6 : Int32)), .val (.ref a_PERSISTENT_SEQUENTIAL_WITH_TTL)]) rfl k) ?_
              refine own_step (st' := T23.setTop (mkF m 26 #[.val (.int x0), .val .null, .val (.ref b_1), .val (.int (7 : Int32)), .val (.int (6 : Int32)), .val (.ref a_PERSISTENT_SEQUENTIAL_WITH_TTL)] [(.ref a_PERSISTENT_SEQUENTIAL_WITH_TTL)])) (fun t k => XS.aload X23.here hx rfl (hb hby d1_24) rfl rfl k) ?_
              obtain ⟨T25, X25, e25, st25⟩ := getF X23 hx hZ hown (host := "") (Or.inl (hw _ (List.mem_of_getElem? (i := 26) rfl))) Via.refl e23 (p_9.ext O10.2) (g := (mkF m 26 #[.val (.int x0), .val .null, .val (.ref b_1), .val (.int (7 : Int32)), .val (.int (6 : Int32)), .val (.ref a_PERSISTENT_SEQUENTIAL_WITH_TTL)] [(.ref a_PERSISTENT_SEQUENTIAL_WITH_TTL)])) rfl rfl (hb hby d1_26)
              refine own_step (st' := T25.setTop (mkF m 29 #[.val (.int x0), .val .null, .val (.ref b_1), .val (.int (7 : Int32)), .val (.int (6 : Int32)), .val (.ref a_PERSISTENT_SEQUENTIAL_WITH_TTL)] [(.int (6 : Int32))])) st25 ?_
              refine own_step (st' := T25.setTop (mkF m 30 #[.val (.int x0), .val .null, .val (.ref b_1), .val (.int (7 : Int32)), .val (.int (6 : Int32)), .val (.ref a_PERSISTENT_SEQUENTIAL_WITH_TTL)] [(.int x0), (.int (6 : Int32))])) (fun t k => XS.iloadN X25.here hx rfl (hb hby d1_29) rfl k) ?_
              by_cases hc26 : (6 : Int32) = x0
              · refine own_step (st' := T25.setTop (mkF m 33 #[.val (.int x0), .val .null, .val (.ref b_1), .val (.int (7 : Int32)), .val (.int (6 : Int32)), .val (.ref a_PERSISTENT_SEQUENTIAL_WITH_TTL)] [])) (fun t k => XS.icmpNo X25.here hx rfl (hb hby d1_30) rfl (teq hc26).2 k) ?_
                refine own_step (st' := T25.setTop (mkF m 35 #[.val (.int x0), .val .null, .val (.ref b_1), .val (.int (7 : Int32)), .val (.int (6 : Int32)), .val (.ref a_PERSISTENT_SEQUENTIAL_WITH_TTL)] [(.ref a_PERSISTENT_SEQUENTIAL_WITH_TTL)])) (fun t k => XS.aload X25.here hx rfl (hb hby d1_33) rfl rfl k) ?_
                refine own_step (st' := T25.setTop (mkF m 36 #[.val (.int x0), .val (.ref a_PERSISTENT_SEQUENTIAL_WITH_TTL), .val (.ref b_1), .val (.int (7 : Int32)), .val (.int (6 : Int32)), .val (.ref a_PERSISTENT_SEQUENTIAL_WITH_TTL)] [])) (fun t k => XS.astoreN X25.here hx rfl (hb hby d1_35) rfl rfl (l' := #[.val (.int x0), .val (.ref a_PERSISTENT_SEQUENTIAL_WITH_TTL), .val (.ref b_1), .val (.int (7 : Int32)), .val (.int (6 : Int32)), .val (.ref a_PERSISTENT_SEQUENTIAL_WITH_TTL)]) rfl k) ?_
                refine own_step (st' := T25.setTop (mkF m 45 #[.val (.int x0), .val (.ref a_PERSISTENT_SEQUENTIAL_WITH_TTL), .val (.ref b_1), .val (.int (7 : Int32)), .val (.int (6 : Int32)), .val (.ref a_PERSISTENT_SEQUENTIAL_WITH_TTL)] [])) (fun t k => XS.goto X25.here hx rfl (pc0 := 36) (pc' := 45) rfl (hb hby d1_36) (by decide) (by decide) k) ?_
                refine own_step (st' := T25.setTop (mkF m 46 #[.val (.int x0), .val (.ref a_PERSISTENT_SEQUENTIAL_WITH_TTL), .val (.ref b_1), .val (.int (7 : Int32)), .val (.int (6 : Int32)), .val (.ref a_PERSISTENT_SEQUENTIAL_WITH_TTL)] [(.ref a_PERSISTENT_SEQUENTIAL_WITH_TTL)])) (fun t k => XS.aloadN X25.here hx rfl (hb hby d1_45) rfl rfl k) ?_
                refine own_ret X25 Bd.notSynchronized (some (.ref a_PERSISTENT_SEQUENTIAL_WITH_TTL)) (fun h => by rw [Bd.returns] at h; cases h) (fun fs hr => retOut X25 hx Bd.returns rfl (Or.inr (Or.inr (Or.inr (Or.inr ⟨rfl, rfl, rfl⟩)))) (hb hby d1_46) hr) ?_ (by decide) (by decide)
                rw [e25]
                exact ⟨(by simp only [own_mode, if_neg (fun q : x0 = (0 : Int32) => hc14 q.symm), if_neg (fun q : x0 = (1 : Int32) => hc16 q.symm), if_neg (fun q : x0 = (2 : Int32) => hc18 q.symm), if_neg (fun q : x0 = (3 : Int32) => hc20 q.symm), if_neg (fun q : x0 = (4 : Int32) => hc22 q.symm), if_neg (fun q : x0 = (5 : Int32) => hc24 q.symm), if_pos (hc26.symm)]), N1, K11⟩
              · refine own_step (st' := T25.setTop (mkF m 39 #[.val (.int x0), .val .null, .val (.ref b_1), .val (.int (7 : Int32)), .val (.int (6 : Int32)), .val (.ref a_PERSISTENT_SEQUENTIAL_WITH_TTL)] [])) (fun t k => XS.icmpYes X25.here hx rfl (pc0 := 30) (pc' := 39) rfl (hb hby d1_30) rfl (feq hc26).2 (by decide) (by decide) k) ?_
                refine own_step (st' := T25.setTop (mkF m 42 #[.val (.int x0), .val .null, .val (.ref b_1), .val (.int (7 : Int32)), .val (.int (7 : Int32)), .val (.ref a_PERSISTENT_SEQUENTIAL_WITH_TTL)] [])) (fun t k => XS.iinc X25.here hx rfl (hb hby d1_39) rfl (l' := #[.val (.int x0), .val .null, .val (.ref b_1), .val (.int (7 : Int32)), .val (.int (7 : Int32)), .val (.ref a_PERSISTENT_SEQUENTIAL_WITH_TTL)]) rfl k) ?_
                refine own_step (st' := T25.setTop (mkF m 12 #[.val (.int x0), .val .null, .val (.ref b_1), .val (.int (7 : Int32)), .val (.int (7 : Int32)), .val (.ref a_PERSISTENT_SEQUENTIAL_WITH_TTL)] [])) (fun t k => XS.goto X25.here hx rfl (pc0 := 42) (pc' := 12) rfl (hb hby d1_42) (by decide) (by decide) k) ?_
                refine own_step (st' := T25.setTop (mkF m 14 #[.val (.int x0), .val .null, .val (.ref b_1), .val (.int (7 : Int32)), .val (.int (7 : Int32)), .val (.ref a_PERSISTENT_SEQUENTIAL_WITH_TTL)] [(.int (7 : Int32))])) (fun t k => XS.iload X25.here hx rfl (hb hby d1_12) rfl k) ?_
                refine own_step (st' := T25.setTop (mkF m 15 #[.val (.int x0), .val .null, .val (.ref b_1), .val (.int (7 : Int32)), .val (.int (7 : Int32)), .val (.ref a_PERSISTENT_SEQUENTIAL_WITH_TTL)] [(.int (7 : Int32)), (.int (7 : Int32))])) (fun t k => XS.iloadN X25.here hx rfl (hb hby d1_14) rfl k) ?_
                refine own_step (st' := T25.setTop (mkF m 45 #[.val (.int x0), .val .null, .val (.ref b_1), .val (.int (7 : Int32)), .val (.int (7 : Int32)), .val (.ref a_PERSISTENT_SEQUENTIAL_WITH_TTL)] [])) (fun t k => XS.icmpYes X25.here hx rfl (pc0 := 15) (pc' := 45) rfl (hb hby d1_15) rfl (flt (by decide)).2.1 (by decide) (by decide) k) ?_
                refine own_step (st' := T25.setTop (mkF m 46 #[.val (.int x0), .val .null, .val (.ref b_1), .val (.int (7 : Int32)), .val (.int (7 : Int32)), .val (.ref a_PERSISTENT_SEQUENTIAL_WITH_TTL)] [.null])) (fun t k => XS.aloadN X25.here hx rfl (hb hby d1_45) rfl rfl k) ?_
                refine own_ret X25 Bd.notSynchronized (some .null) (fun h => by rw [Bd.returns] at h; cases h) (fun fs hr => retOut X25 hx Bd.returns rfl (Or.inr (Or.inr (Or.inr (Or.inr ⟨rfl, rfl, rfl⟩)))) (hb hby d1_46) hr) ?_ (by decide) (by decide)
                rw [e25]
                exact ⟨(by simp only [own_mode, if_neg (fun q : x0 = (0 : Int32) => hc14 q.symm), if_neg (fun q : x0 = (1 : Int32) => hc16 q.symm), if_neg (fun q : x0 = (2 : Int32) => hc18 q.symm), if_neg (fun q : x0 = (3 : Int32) => hc20 q.symm), if_neg (fun q : x0 = (4 : Int32) => hc22 q.symm), if_neg (fun q : x0 = (5 : Int32) => hc24 q.symm), if_neg (fun q : x0 = (6 : Int32) => hc26 q.symm)]), N1, K11⟩
theorem d3_0 : decode method_2_code 0 = .ok (.iload_n 0, 1) := by decide +kernel
theorem d3_1 : decode method_2_code 1 = .ok (.ifCond .ne 7, 3) := by decide +kernel
theorem d3_4 : decode method_2_code 4 = .ok (.getstatic 7, 3) := by decide +kernel
theorem d3_7 : decode method_2_code 7 = .ok (.areturn, 1) := by decide +kernel
theorem d3_8 : decode method_2_code 8 = .ok (.iload_n 0, 1) := by decide +kernel
theorem d3_9 : decode method_2_code 9 = .ok (.iconst 1, 1) := by decide +kernel
theorem d3_10 : decode method_2_code 10 = .ok (.if_icmp .ne 7, 3) := by decide +kernel
theorem d3_13 : decode method_2_code 13 = .ok (.getstatic 13, 3) := by decide +kernel
theorem d3_16 : decode method_2_code 16 = .ok (.areturn, 1) := by decide +kernel
theorem d3_17 : decode method_2_code 17 = .ok (.iload_n 0, 1) := by decide +kernel
theorem d3_18 : decode method_2_code 18 = .ok (.iconst 2, 1) := by decide +kernel
theorem d3_19 : decode method_2_code 19 = .ok (.if_icmp .ne 7, 3) := by decide +kernel
theorem d3_22 : decode method_2_code 22 = .ok (.getstatic 16, 3) := by decide +kernel
theorem d3_25 : decode method_2_code 25 = .ok (.areturn, 1) := by decide +kernel
theorem d3_26 : decode method_2_code 26 = .ok (.iload_n 0, 1) := by decide +kernel
theorem d3_27 : decode method_2_code 27 = .ok (.iconst 3, 1) := by decide +kernel
theorem d3_28 : decode method_2_code 28 = .ok (.if_icmp .ne 7, 3) := by decide +kernel
theorem d3_31 : decode method_2_code 31 = .ok (.getstatic 19, 3) := by decide +kernel
theorem d3_34 : decode method_2_code 34 = .ok (.areturn, 1) := by decide +kernel
theorem d3_35 : decode method_2_code 35 = .ok (.iload_n 0, 1) := by decide +kernel
theorem d3_36 : decode method_2_code 36 = .ok (.iconst 4, 1) := by decide +kernel
theorem d3_37 : decode method_2_code 37 = .ok (.if_icmp .ne 7, 3) := by decide +kernel
theorem d3_40 : decode method_2_code 40 = .ok (.getstatic 22, 3) := by decide +kernel
theorem d3_43 : decode method_2_code 43 = .ok (.areturn, 1) := by decide +kernel
theorem d3_44 : decode method_2_code 44 = .ok (.iload_n 0, 1) := by decide +kernel
theorem d3_45 : decode method_2_code 45 = .ok (.iconst 5, 1) := by decide +kernel
theorem d3_46 : decode method_2_code 46 = .ok (.if_icmp .ne 7, 3) := by decide +kernel
theorem d3_49 : decode method_2_code 49 = .ok (.getstatic 25, 3) := by decide +kernel
theorem d3_52 : decode method_2_code 52 = .ok (.areturn, 1) := by decide +kernel
theorem d3_53 : decode method_2_code 53 = .ok (.iload_n 0, 1) := by decide +kernel
theorem d3_54 : decode method_2_code 54 = .ok (.bipush 6, 2) := by decide +kernel
theorem d3_56 : decode method_2_code 56 = .ok (.if_icmp .ne 7, 3) := by decide +kernel
theorem d3_59 : decode method_2_code 59 = .ok (.getstatic 28, 3) := by decide +kernel
theorem d3_62 : decode method_2_code 62 = .ok (.areturn, 1) := by decide +kernel
theorem d3_63 : decode method_2_code 63 = .ok (.aconst_null, 1) := by decide +kernel
theorem d3_64 : decode method_2_code 64 = .ok (.areturn, 1) := by decide +kernel
theorem pn_1 : plainName "com/example/alert_tree/alerttree/protocol/CreateModeOfPinLaw" = true := by first | (simp [plainName, overriddenIn]; done) | decide +kernel
theorem ef_3_I (m : MethodId) (x0 : Int32) : entryFrame m #[(.int x0)] 1 = mkF m 0 #[.val (.int x0)] [] := by first | (simp [entryFrame, mkF, argsToLocals, Value.category]; done) | rfl
def Q_rm3 (Z : State) (x0 : Int32) (a_PERSISTENT : Addr) (a_EPHEMERAL : Addr) (a_PERSISTENT_SEQUENTIAL : Addr) (a_EPHEMERAL_SEQUENTIAL : Addr) (a_CONTAINER : Addr) (a_PERSISTENT_WITH_TTL : Addr) (a_PERSISTENT_SEQUENTIAL_WITH_TTL : Addr) (h0 : Heap) (n0 : Nat) (v : Option Value) (h : Heap) (L : List Loc) : Prop := v = some (own_mode x0 a_PERSISTENT a_EPHEMERAL a_PERSISTENT_SEQUENTIAL a_EPHEMERAL_SEQUENTIAL a_CONTAINER a_PERSISTENT_WITH_TTL a_PERSISTENT_SEQUENTIAL_WITH_TTL) ∧ Fr n0 L ∧ h = h0
set_option maxRecDepth 65536 in
set_option maxHeartbeats 40000000 in
theorem rm3 (l : Launch) (Z : State) (a0 : Array Value) (hw : ∀ d ∈ tables_1, d.before a0 Z = true) (ws : List Jvm.Cond) (x0 : Int32) (a_PERSISTENT : Addr) (a_EPHEMERAL : Addr) (a_PERSISTENT_SEQUENTIAL : Addr) (a_EPHEMERAL_SEQUENTIAL : Addr) (a_CONTAINER : Addr) (a_PERSISTENT_WITH_TTL : Addr) (a_PERSISTENT_SEQUENTIAL_WITH_TTL : Addr) (h0 : Heap) (n0 : Nat) (Z0 : n0 ≤ h0.size) (O0 : Old Z n0 h0) (p_0 : Sta Z Z.heap "com/example/alert_tree/alerttree/protocol/CreateMode" "PERSISTENT" "Lcom/example/alert_tree/alerttree/protocol/CreateMode;" (.ref a_PERSISTENT)) (p_1 : Sta Z Z.heap "com/example/alert_tree/alerttree/protocol/CreateMode" "EPHEMERAL" "Lcom/example/alert_tree/alerttree/protocol/CreateMode;" (.ref a_EPHEMERAL)) (p_2 : Sta Z Z.heap "com/example/alert_tree/alerttree/protocol/CreateMode" "PERSISTENT_SEQUENTIAL" "Lcom/example/alert_tree/alerttree/protocol/CreateMode;" (.ref a_PERSISTENT_SEQUENTIAL)) (p_3 : Sta Z Z.heap "com/example/alert_tree/alerttree/protocol/CreateMode" "EPHEMERAL_SEQUENTIAL" "Lcom/example/alert_tree/alerttree/protocol/CreateMode;" (.ref a_EPHEMERAL_SEQUENTIAL)) (p_4 : Sta Z Z.heap "com/example/alert_tree/alerttree/protocol/CreateMode" "CONTAINER" "Lcom/example/alert_tree/alerttree/protocol/CreateMode;" (.ref a_CONTAINER)) (p_5 : Sta Z Z.heap "com/example/alert_tree/alerttree/protocol/CreateMode" "PERSISTENT_WITH_TTL" "Lcom/example/alert_tree/alerttree/protocol/CreateMode;" (.ref a_PERSISTENT_WITH_TTL)) (p_6 : Sta Z Z.heap "com/example/alert_tree/alerttree/protocol/CreateMode" "PERSISTENT_SEQUENTIAL_WITH_TTL" "Lcom/example/alert_tree/alerttree/protocol/CreateMode;" (.ref a_PERSISTENT_SEQUENTIAL_WITH_TTL)) :
    MetFree l (⟨"com/example/alert_tree/alerttree/protocol/CreateModeOfPinLaw", "expected", "(I)Lcom/example/alert_tree/alerttree/protocol/CreateMode;"⟩ : MethodName) (head1 (Jvm.Cond.code (⟨"com/example/alert_tree/alerttree/protocol/CreateModeOfPinLaw", "expected", "(I)Lcom/example/alert_tree/alerttree/protocol/CreateMode;"⟩ : MethodName) method_2_code 1 (some (.object "com/example/alert_tree/alerttree/protocol/CreateMode")) :: ws) ({ frames := 0, cells := 0, slots := 0, locals := 0 } : Room)) (fun a U => a = #[(.int x0)] ∧ Z.Warmed39 U.vm ∧ U.heap = h0) (fun _ _ _ _ _ => True) (fun _ U o U' => ∃ v L, o = .returned v ∧ Q_rm3 Z x0 a_PERSISTENT a_EPHEMERAL a_PERSISTENT_SEQUENTIAL a_EPHEMERAL_SEQUENTIAL a_CONTAINER a_PERSISTENT_WITH_TTL a_PERSISTENT_SEQUENTIAL_WITH_TTL h0 n0 v U'.heap L ∧ FrameEnd U o U' L ({ frames := 0, cells := 0, slots := 0, locals := 0 } : Room).cells ({ frames := 0, cells := 0, slots := 0, locals := 0 } : Room).slots) := by
  refine MetFree.of_bodySF (plainFor_of_name pn_1) hisR ?_
  intro p e s m args below meth c s₁ Bd hml0 hP hK
  obtain ⟨rfl, hZ, hh⟩ := hP
  have hx := Bd.exec
  have hby := Bd.bytes
  have hml : c.maxLocals = 1 := hml0
  have hown : s.vm.findClass "com/example/alert_tree/alerttree/protocol/CreateModeOfPinLaw" = some m.cls := findClass_of_methodNamed Bd.named
  have hnm := (name_of_methodNamed Bd.named Bd.method).1
  have X0 : Stand p l e ({ frames := 0, cells := 0, slots := 0, locals := 0 } : Room) s m #[(.int x0)] below meth c s₁ [] 0 0 := Stand.of_body Bd
  have e0 : s₁.heap = h0 := by rw [← hh, Bd.state]; rfl
  have N0 := Fr.nil n0
  show own_Ends p e below s ({ frames := 0, cells := 0, slots := 0, locals := 0 } : Room).cells ({ frames := 0, cells := 0, slots := 0, locals := 0 } : Room).slots (Q_rm3 Z x0 a_PERSISTENT a_EPHEMERAL a_PERSISTENT_SEQUENTIAL a_EPHEMERAL_SEQUENTIAL a_CONTAINER a_PERSISTENT_WITH_TTL a_PERSISTENT_SEQUENTIAL_WITH_TTL h0 n0) (s₁.setTop (entryFrame m #[(.int x0)] 1))
  rw [ef_3_I]
  refine own_step (st' := s₁.setTop (mkF m 1 #[.val (.int x0)] [(.int x0)])) (fun t k => XS.iloadN X0.here hx rfl (hb hby d3_0) rfl k) ?_
  by_cases hc1 : x0 = (0 : Int32)
  · refine own_step (st' := s₁.setTop (mkF m 4 #[.val (.int x0)] [])) (fun t k => XS.ifNo X0.here hx rfl (hb hby d3_1) rfl ((if0 _ _).trans (teq hc1).2) k) ?_
    obtain ⟨T2, X2, e2, st2⟩ := getS2 X0 hx hZ hown (host := "") (Or.inl (hw _ (List.mem_of_getElem? (i := 32) rfl))) Via.refl e0 (p_0.ext O0.2) (g := (mkF m 4 #[.val (.int x0)] [])) rfl (hb hby d3_4)
    refine own_step (st' := T2.setTop (mkF m 7 #[.val (.int x0)] [(.ref a_PERSISTENT)])) st2 ?_
    refine own_ret X2 Bd.notSynchronized (some (.ref a_PERSISTENT)) (fun h => by rw [Bd.returns] at h; cases h) (fun fs hr => retOut X2 hx Bd.returns rfl (Or.inr (Or.inr (Or.inr (Or.inr ⟨rfl, rfl, rfl⟩)))) (hb hby d3_7) hr) ?_ (by decide) (by decide)
    rw [e2]
    exact ⟨(by simp only [own_mode, if_pos (hc1)]), N0, rfl⟩
  · refine own_step (st' := s₁.setTop (mkF m 8 #[.val (.int x0)] [])) (fun t k => XS.ifYes X0.here hx rfl (pc0 := 1) (pc' := 8) rfl (hb hby d3_1) rfl ((if0 _ _).trans (feq hc1).2) (by decide) (by decide) k) ?_
    refine own_step (st' := s₁.setTop (mkF m 9 #[.val (.int x0)] [(.int x0)])) (fun t k => XS.iloadN X0.here hx rfl (hb hby d3_8) rfl k) ?_
    refine own_step (st' := s₁.setTop (mkF m 10 #[.val (.int x0)] [(.int (1 : Int32)), (.int x0)])) (fun t k => XS.iconst X0.here hx rfl (hb hby d3_9) k) ?_
    by_cases hc3 : x0 = (1 : Int32)
    · refine own_step (st' := s₁.setTop (mkF m 13 #[.val (.int x0)] [])) (fun t k => XS.icmpNo X0.here hx rfl (hb hby d3_10) rfl (teq hc3).2 k) ?_
      obtain ⟨T4, X4, e4, st4⟩ := getS2 X0 hx hZ hown (host := "") (Or.inl (hw _ (List.mem_of_getElem? (i := 34) rfl))) Via.refl e0 (p_1.ext O0.2) (g := (mkF m 13 #[.val (.int x0)] [])) rfl (hb hby d3_13)
      refine own_step (st' := T4.setTop (mkF m 16 #[.val (.int x0)] [(.ref a_EPHEMERAL)])) st4 ?_
      refine own_ret X4 Bd.notSynchronized (some (.ref a_EPHEMERAL)) (fun h => by rw [Bd.returns] at h; cases h) (fun fs hr => retOut X4 hx Bd.returns rfl (Or.inr (Or.inr (Or.inr (Or.inr ⟨rfl, rfl, rfl⟩)))) (hb hby d3_16) hr) ?_ (by decide) (by decide)
      rw [e4]
      exact ⟨(by simp only [own_mode, if_neg (hc1), if_pos (hc3)]), N0, rfl⟩
    · refine own_step (st' := s₁.setTop (mkF m 17 #[.val (.int x0)] [])) (fun t k => XS.icmpYes X0.here hx rfl (pc0 := 10) (pc' := 17) rfl (hb hby d3_10) rfl (feq hc3).2 (by decide) (by decide) k) ?_
      refine own_step (st' := s₁.setTop (mkF m 18 #[.val (.int x0)] [(.int x0)])) (fun t k => XS.iloadN X0.here hx rfl (hb hby d3_17) rfl k) ?_
      refine own_step (st' := s₁.setTop (mkF m 19 #[.val (.int x0)] [(.int (2 : Int32)), (.int x0)])) (fun t k => XS.iconst X0.here hx rfl (hb hby d3_18) k) ?_
      by_cases hc5 : x0 = (2 : Int32)
      · refine own_step (st' := s₁.setTop (mkF m 22 #[.val (.int x0)] [])) (fun t k => XS.icmpNo X0.here hx rfl (hb hby d3_19) rfl (teq hc5).2 k) ?_
        obtain ⟨T6, X6, e6, st6⟩ := getS2 X0 hx hZ hown (host := "") (Or.inl (hw _ (List.mem_of_getElem? (i := 37) rfl))) Via.refl e0 (p_2.ext O0.2) (g := (mkF m 22 #[.val (.int x0)] [])) rfl (hb hby d3_22)
        refine own_step (st' := T6.setTop (mkF m 25 #[.val (.int x0)] [(.ref a_PERSISTENT_SEQUENTIAL)])) st6 ?_
        refine own_ret X6 Bd.notSynchronized (some (.ref a_PERSISTENT_SEQUENTIAL)) (fun h => by rw [Bd.returns] at h; cases h) (fun fs hr => retOut X6 hx Bd.returns rfl (Or.inr (Or.inr (Or.inr (Or.inr ⟨rfl, rfl, rfl⟩)))) (hb hby d3_25) hr) ?_ (by decide) (by decide)
        rw [e6]
        exact ⟨(by simp only [own_mode, if_neg (hc1), if_neg (hc3), if_pos (hc5)]), N0, rfl⟩
      · refine own_step (st' := s₁.setTop (mkF m 26 #[.val (.int x0)] [])) (fun t k => XS.icmpYes X0.here hx rfl (pc0 := 19) (pc' := 26) rfl (hb hby d3_19) rfl (feq hc5).2 (by decide) (by decide) k) ?_
        refine own_step (st' := s₁.setTop (mkF m 27 #[.val (.int x0)] [(.int x0)])) (fun t k => XS.iloadN X0.here hx rfl (hb hby d3_26) rfl k) ?_
        refine own_step (st' := s₁.setTop (mkF m 28 #[.val (.int x0)] [(.int (3 : Int32)), (.int x0)])) (fun t k => XS.iconst X0.here hx rfl (hb hby d3_27) k) ?_
        by_cases hc7 : x0 = (3 : Int32)
        · refine own_step (st' := s₁.setTop (mkF m 31 #[.val (.int x0)] [])) (fun t k => XS.icmpNo X0.here hx rfl (hb hby d3_28) rfl (teq hc7).2 k) ?_
          obtain ⟨T8, X8, e8, st8⟩ := getS2 X0 hx hZ hown (host := "") (Or.inl (hw _ (List.mem_of_getElem? (i := 35) rfl))) Via.refl e0 (p_3.ext O0.2) (g := (mkF m 31 #[.val (.int x0)] [])) rfl (hb hby d3_31)
          refine own_step (st' := T8.setTop (mkF m 34 #[.val (.int x0)] [(.ref a_EPHEMERAL_SEQUENTIAL)])) st8 ?_
          refine own_ret X8 Bd.notSynchronized (some (.ref a_EPHEMERAL_SEQUENTIAL)) (fun h => by rw [Bd.returns] at h; cases h) (fun fs hr => retOut X8 hx Bd.returns rfl (Or.inr (Or.inr (Or.inr (Or.inr ⟨rfl, rfl, rfl⟩)))) (hb hby d3_34) hr) ?_ (by decide) (by decide)
          rw [e8]
          exact ⟨(by simp only [own_mode, if_neg (hc1), if_neg (hc3), if_neg (hc5), if_pos (hc7)]), N0, rfl⟩
        · refine own_step (st' := s₁.setTop (mkF m 35 #[.val (.int x0)] [])) (fun t k => XS.icmpYes X0.here hx rfl (pc0 := 28) (pc' := 35) rfl (hb hby d3_28) rfl (feq hc7).2 (by decide) (by decide) k) ?_
          refine own_step (st' := s₁.setTop (mkF m 36 #[.val (.int x0)] [(.int x0)])) (fun t k => XS.iloadN X0.here hx rfl (hb hby d3_35) rfl k) ?_
          refine own_step (st' := s₁.setTop (mkF m 37 #[.val (.int x0)] [(.int (4 : Int32)), (.int x0)])) (fun t k => XS.iconst X0.here hx rfl (hb hby d3_36) k) ?_
          by_cases hc9 : x0 = (4 : Int32)
          · refine own_step (st' := s₁.setTop (mkF m 40 #[.val (.int x0)] [])) (fun t k => XS.icmpNo X0.here hx rfl (hb hby d3_37) rfl (teq hc9).2 k) ?_
            obtain ⟨T10, X10, e10, st10⟩ := getS2 X0 hx hZ hown (host := "") (Or.inl (hw _ (List.mem_of_getElem? (i := 38) rfl))) Via.refl e0 (p_4.ext O0.2) (g := (mkF m 40 #[.val (.int x0)] [])) rfl (hb hby d3_40)
            refine own_step (st' := T10.setTop (mkF m 43 #[.val (.int x0)] [(.ref a_CONTAINER)])) st10 ?_
            refine own_ret X10 Bd.notSynchronized (some (.ref a_CONTAINER)) (fun h => by rw [Bd.returns] at h; cases h) (fun fs hr => retOut X10 hx Bd.returns rfl (Or.inr (Or.inr (Or.inr (Or.inr ⟨rfl, rfl, rfl⟩)))) (hb hby d3_43) hr) ?_ (by decide) (by decide)
            rw [e10]
            exact ⟨(by simp only [own_mode, if_neg (hc1), if_neg (hc3), if_neg (hc5), if_neg (hc7), if_pos (hc9)]), N0, rfl⟩
          · refine own_step (st' := s₁.setTop (mkF m 44 #[.val (.int x0)] [])) (fun t k => XS.icmpYes X0.here hx rfl (pc0 := 37) (pc' := 44) rfl (hb hby d3_37) rfl (feq hc9).2 (by decide) (by decide) k) ?_
            refine own_step (st' := s₁.setTop (mkF m 45 #[.val (.int x0)] [(.int x0)])) (fun t k => XS.iloadN X0.here hx rfl (hb hby d3_44) rfl k) ?_
            refine own_step (st' := s₁.setTop (mkF m 46 #[.val (.int x0)] [(.int (5 : Int32)), (.int x0)])) (fun t k => XS.iconst X0.here hx rfl (hb hby d3_45) k) ?_
            by_cases hc11 : x0 = (5 : Int32)
            · refine own_step (st' := s₁.setTop (mkF m 49 #[.val (.int x0)] [])) (fun t k => XS.icmpNo X0.here hx rfl (hb hby d3_46) rfl (teq hc11).2 k) ?_
              obtain ⟨T12, X12, e12, st12⟩ := getS2 X0 hx hZ hown (host := "") (Or.inl (hw _ (List.mem_of_getElem? (i := 36) rfl))) Via.refl e0 (p_5.ext O0.2) (g := (mkF m 49 #[.val (.int x0)] [])) rfl (hb hby d3_49)
              refine own_step (st' := T12.setTop (mkF m 52 #[.val (.int x0)] [(.ref a_PERSISTENT_WITH_TTL)])) st12 ?_
              refine own_ret X12 Bd.notSynchronized (some (.ref a_PERSISTENT_WITH_TTL)) (fun h => by rw [Bd.returns] at h; cases h) (fun fs hr => retOut X12 hx Bd.returns rfl (Or.inr (Or.inr (Or.inr (Or.inr ⟨rfl, rfl, rfl⟩)))) (hb hby d3_52) hr) ?_ (by decide) (by decide)
              rw [e12]
              exact ⟨(by simp only [own_mode, if_neg (hc1), if_neg (hc3), if_neg (hc5), if_neg (hc7), if_neg (hc9), if_pos (hc11)]), N0, rfl⟩
            · refine own_step (st' := s₁.setTop (mkF m 53 #[.val (.int x0)] [])) (fun t k => XS.icmpYes X0.here hx rfl (pc0 := 46) (pc' := 53) rfl (hb hby d3_46) rfl (feq hc11).2 (by decide) (by decide) k) ?_
              refine own_step (st' := s₁.setTop (mkF m 54 #[.val (.int x0)] [(.int x0)])) (fun t k => XS.iloadN X0.here hx rfl (hb hby d3_53) rfl k) ?_
              refine own_step (st' := s₁.setTop (mkF m 56 #[.val (.int x0)] [(.int (6 : Int32)), (.int x0)])) (fun t k => XS.bipush X0.here hx rfl (hb hby d3_54) k) ?_
              by_cases hc13 : x0 = (6 : Int32)
              · refine own_step (st' := s₁.setTop (mkF m 59 #[.val (.int x0)] [])) (fun t k => XS.icmpNo X0.here hx rfl (hb hby d3_56) rfl (teq hc13).2 k) ?_
                obtain ⟨T14, X14, e14, st14⟩ := getS2 X0 hx hZ hown (host := "") (Or.inl (hw _ (List.mem_of_getElem? (i := 33) rfl))) Via.refl e0 (p_6.ext O0.2) (g := (mkF m 59 #[.val (.int x0)] [])) rfl (hb hby d3_59)
                refine own_step (st' := T14.setTop (mkF m 62 #[.val (.int x0)] [(.ref a_PERSISTENT_SEQUENTIAL_WITH_TTL)])) st14 ?_
                refine own_ret X14 Bd.notSynchronized (some (.ref a_PERSISTENT_SEQUENTIAL_WITH_TTL)) (fun h => by rw [Bd.returns] at h; cases h) (fun fs hr => retOut X14 hx Bd.returns rfl (Or.inr (Or.inr (Or.inr (Or.inr ⟨rfl, rfl, rfl⟩)))) (hb hby d3_62) hr) ?_ (by decide) (by decide)
                rw [e14]
                exact ⟨(by simp only [own_mode, if_neg (hc1), if_neg (hc3), if_neg (hc5), if_neg (hc7), if_neg (hc9), if_neg (hc11), if_pos (hc13)]), N0, rfl⟩
              · refine own_step (st' := s₁.setTop (mkF m 63 #[.val (.int x0)] [])) (fun t k => XS.icmpYes X0.here hx rfl (pc0 := 56) (pc' := 63) rfl (hb hby d3_56) rfl (feq hc13).2 (by decide) (by decide) k) ?_
                refine own_step (st' := s₁.setTop (mkF m 64 #[.val (.int x0)] [.null])) (fun t k => XS.aconstNull X0.here hx rfl (hb hby d3_63) k) ?_
                refine own_ret X0 Bd.notSynchronized (some .null) (fun h => by rw [Bd.returns] at h; cases h) (fun fs hr => retOut X0 hx Bd.returns rfl (Or.inr (Or.inr (Or.inr (Or.inr ⟨rfl, rfl, rfl⟩)))) (hb hby d3_64) hr) ?_ (by decide) (by decide)
                rw [e0]
                exact ⟨(by simp only [own_mode, if_neg (hc1), if_neg (hc3), if_neg (hc5), if_neg (hc7), if_neg (hc9), if_neg (hc11), if_neg (hc13)]), N0, rfl⟩
theorem ef_0_II (m : MethodId) (x0 : Int32) (x1 : Int32) : entryFrame m #[(.int x0), (.int x1)] maxLocals = mkF m 0 #[.val (.int x0), .val (.int x1), .unset, .unset, .unset] [] := by first | (simp [entryFrame, mkF, argsToLocals, Value.category, maxLocals]; done) | rfl
def Q_rm0 (Z : State) (x0 : Int32) (x1 : Int32) (aV : Addr) (kV : ClassId) (a_PERSISTENT : Addr) (a_EPHEMERAL : Addr) (a_PERSISTENT_SEQUENTIAL : Addr) (a_EPHEMERAL_SEQUENTIAL : Addr) (a_CONTAINER : Addr) (a_PERSISTENT_WITH_TTL : Addr) (a_PERSISTENT_SEQUENTIAL_WITH_TTL : Addr) (h0 : Heap) (n0 : Nat) (v : Option Value) (h : Heap) (L : List Loc) : Prop := v = some (.int (1 : Int32)) ∧ Fr n0 L
set_option maxRecDepth 65536 in
set_option maxHeartbeats 40000000 in
theorem rm0 (l : Launch) (Z : State) (a0 : Array Value) (hw : ∀ d ∈ tables_1, d.before a0 Z = true) (ws : List Jvm.Cond) (x0 : Int32) (x1 : Int32) (aV : Addr) (kV : ClassId) (a_PERSISTENT : Addr) (a_EPHEMERAL : Addr) (a_PERSISTENT_SEQUENTIAL : Addr) (a_EPHEMERAL_SEQUENTIAL : Addr) (a_CONTAINER : Addr) (a_PERSISTENT_WITH_TTL : Addr) (a_PERSISTENT_SEQUENTIAL_WITH_TTL : Addr) (h0 : Heap) (n0 : Nat) (Z0 : n0 ≤ h0.size) (O0 : Old Z n0 h0) (p_0 : Sta Z Z.heap "com/example/alert_tree/alerttree/protocol/CreateMode" "$VALUES" "[Lcom/example/alert_tree/alerttree/protocol/CreateMode;" (.ref aV)) (p_1 : Exa Z Z.heap aV "[Lcom/example/alert_tree/alerttree/protocol/CreateMode;") (p_2 : Arv Z Z.heap aV kV (.object "com/example/alert_tree/alerttree/protocol/CreateMode") (7 : Int32) [(.ref a_PERSISTENT), (.ref a_EPHEMERAL), (.ref a_PERSISTENT_SEQUENTIAL), (.ref a_EPHEMERAL_SEQUENTIAL), (.ref a_CONTAINER), (.ref a_PERSISTENT_WITH_TTL), (.ref a_PERSISTENT_SEQUENTIAL_WITH_TTL)] .null) (p_3 : Fld Z Z.heap a_PERSISTENT "com/example/alert_tree/alerttree/protocol/CreateMode" "flags" "I" (.int (0 : Int32))) (p_4 : Fld Z Z.heap a_EPHEMERAL "com/example/alert_tree/alerttree/protocol/CreateMode" "flags" "I" (.int (1 : Int32))) (p_5 : Fld Z Z.heap a_PERSISTENT_SEQUENTIAL "com/example/alert_tree/alerttree/protocol/CreateMode" "flags" "I" (.int (2 : Int32))) (p_6 : Fld Z Z.heap a_EPHEMERAL_SEQUENTIAL "com/example/alert_tree/alerttree/protocol/CreateMode" "flags" "I" (.int (3 : Int32))) (p_7 : Fld Z Z.heap a_CONTAINER "com/example/alert_tree/alerttree/protocol/CreateMode" "flags" "I" (.int (4 : Int32))) (p_8 : Fld Z Z.heap a_PERSISTENT_WITH_TTL "com/example/alert_tree/alerttree/protocol/CreateMode" "flags" "I" (.int (5 : Int32))) (p_9 : Fld Z Z.heap a_PERSISTENT_SEQUENTIAL_WITH_TTL "com/example/alert_tree/alerttree/protocol/CreateMode" "flags" "I" (.int (6 : Int32))) (p_10 : Sta Z Z.heap "com/example/alert_tree/alerttree/protocol/CreateMode" "PERSISTENT" "Lcom/example/alert_tree/alerttree/protocol/CreateMode;" (.ref a_PERSISTENT)) (p_11 : Sta Z Z.heap "com/example/alert_tree/alerttree/protocol/CreateMode" "EPHEMERAL" "Lcom/example/alert_tree/alerttree/protocol/CreateMode;" (.ref a_EPHEMERAL)) (p_12 : Sta Z Z.heap "com/example/alert_tree/alerttree/protocol/CreateMode" "PERSISTENT_SEQUENTIAL" "Lcom/example/alert_tree/alerttree/protocol/CreateMode;" (.ref a_PERSISTENT_SEQUENTIAL)) (p_13 : Sta Z Z.heap "com/example/alert_tree/alerttree/protocol/CreateMode" "EPHEMERAL_SEQUENTIAL" "Lcom/example/alert_tree/alerttree/protocol/CreateMode;" (.ref a_EPHEMERAL_SEQUENTIAL)) (p_14 : Sta Z Z.heap "com/example/alert_tree/alerttree/protocol/CreateMode" "CONTAINER" "Lcom/example/alert_tree/alerttree/protocol/CreateMode;" (.ref a_CONTAINER)) (p_15 : Sta Z Z.heap "com/example/alert_tree/alerttree/protocol/CreateMode" "PERSISTENT_WITH_TTL" "Lcom/example/alert_tree/alerttree/protocol/CreateMode;" (.ref a_PERSISTENT_WITH_TTL)) (p_16 : Sta Z Z.heap "com/example/alert_tree/alerttree/protocol/CreateMode" "PERSISTENT_SEQUENTIAL_WITH_TTL" "Lcom/example/alert_tree/alerttree/protocol/CreateMode;" (.ref a_PERSISTENT_SEQUENTIAL_WITH_TTL)) :
    MetFree l x (head1 (Jvm.Cond.code x code maxLocals ret :: ws) room_1) (fun a U => a = #[(.int x0), (.int x1)] ∧ Z.Warmed39 U.vm ∧ U.heap = h0) (fun _ _ _ _ _ => True) (fun _ U o U' => ∃ v L, o = .returned v ∧ Q_rm0 Z x0 x1 aV kV a_PERSISTENT a_EPHEMERAL a_PERSISTENT_SEQUENTIAL a_EPHEMERAL_SEQUENTIAL a_CONTAINER a_PERSISTENT_WITH_TTL a_PERSISTENT_SEQUENTIAL_WITH_TTL h0 n0 v U'.heap L ∧ FrameEnd U o U' L room_1.cells room_1.slots) := by
  refine MetFree.of_bodySF (plainFor_of_name pn_1) hisR ?_
  intro p e s m args below meth c s₁ Bd hml0 hP hK
  obtain ⟨rfl, hZ, hh⟩ := hP
  have hx := Bd.exec
  have hby := Bd.bytes
  have hml : c.maxLocals = 5 := hml0
  have hown : s.vm.findClass "com/example/alert_tree/alerttree/protocol/CreateModeOfPinLaw" = some m.cls := findClass_of_methodNamed Bd.named
  have hnm := (name_of_methodNamed Bd.named Bd.method).1
  have X0 : Stand p l e room_1 s m #[(.int x0), (.int x1)] below meth c s₁ [] 0 0 := Stand.of_body Bd
  have e0 : s₁.heap = h0 := by rw [← hh, Bd.state]; rfl
  have N0 := Fr.nil n0
  show own_Ends p e below s room_1.cells room_1.slots (Q_rm0 Z x0 x1 aV kV a_PERSISTENT a_EPHEMERAL a_PERSISTENT_SEQUENTIAL a_EPHEMERAL_SEQUENTIAL a_CONTAINER a_PERSISTENT_WITH_TTL a_PERSISTENT_SEQUENTIAL_WITH_TTL h0 n0) (s₁.setTop (entryFrame m #[(.int x0), (.int x1)] maxLocals))
  rw [ef_0_II]
  refine own_step (st' := s₁.setTop (mkF m 1 #[.val (.int x0), .val (.int x1), .unset, .unset, .unset] [(.int x1)])) (fun t k => XS.iloadN X0.here hx rfl (hb hby at_0) rfl k) ?_
  refine own_step (st' := s₁.setTop (mkF m 3 #[.val (.int x0), .val (.int x1), .unset, .unset, .unset] [(.int (15 : Int32)), (.int x1)])) (fun t k => XS.bipush X0.here hx rfl (hb hby at_1) k) ?_
  refine own_step (st' := s₁.setTop (mkF m 4 #[.val (.int x0), .val (.int x1), .unset, .unset, .unset] [(.int (x1 &&& (15 : Int32)))])) (fun t k => XS.iand X0.here hx rfl (hb hby at_3) rfl k) ?_
  refine own_step (st' := s₁.setTop (mkF m 5 #[.val (.int x0), .val (.int x1), .unset, .unset, .unset] [(.int (4 : Int32)), (.int (x1 &&& (15 : Int32)))])) (fun t k => XS.iconst X0.here hx rfl (hb hby at_4) k) ?_
  refine own_step (st' := s₁.setTop (mkF m 6 #[.val (.int x0), .val (.int x1), .unset, .unset, .unset] [(.int ((x1 &&& (15 : Int32)) - (4 : Int32)))])) (fun t k => XS.isub X0.here hx rfl (hb hby at_5) rfl k) ?_
  obtain ⟨kk, e_kk⟩ : ∃ z : Int32, z = ((x1 &&& (15 : Int32)) - (4 : Int32)) := ⟨_, rfl⟩
  rw [← e_kk]
  refine own_step (st' := s₁.setTop (mkF m 7 #[.val (.int x0), .val (.int x1), .val (.int kk), .unset, .unset] [])) (fun t k => XS.istoreN X0.here hx rfl (hb hby at_6) rfl (l' := #[.val (.int x0), .val (.int x1), .val (.int kk), .unset, .unset]) rfl k) ?_
  refine own_step (st' := s₁.setTop (mkF m 8 #[.val (.int x0), .val (.int x1), .val (.int kk), .unset, .unset] [(.int x0)])) (fun t k => XS.iloadN X0.here hx rfl (hb hby at_7) rfl k) ?_
  obtain ⟨_, _, ⟨T1, L1, k1, n1⟩, -, X1, ⟨Lc1, hQ1, l1, y1, z1⟩, st1⟩ := Jvm.LawKit.callS X0 hx (y := (⟨"com/example/alert_tree/alerttree/protocol/CreateMode", "of", "(I)Lcom/example/alert_tree/alerttree/protocol/CreateMode;"⟩ : MethodName)) hown (mvT hZ (hw _ (List.mem_of_getElem? (i := 0) rfl))) (mvT hZ (hw _ (List.mem_of_getElem? (i := 1) rfl))) (mvT hZ (hw _ (List.mem_of_getElem? (i := 2) rfl))) (mvT hZ (hw _ (List.mem_of_getElem? (i := 3) rfl))) (by decide) (backOf (W := 0) (rm1 l Z a0 hw [] x0 aV kV a_PERSISTENT a_EPHEMERAL a_PERSISTENT_SEQUENTIAL a_EPHEMERAL_SEQUENTIAL a_CONTAINER a_PERSISTENT_WITH_TTL a_PERSISTENT_SEQUENTIAL_WITH_TTL h0 n0 Z0 O0 p_0 p_1 p_2 p_3 p_4 p_5 p_6 p_7 p_8 p_9) hZ (hw _ (List.mem_of_getElem? (i := 3) rfl)) (hw _ (List.mem_of_getElem? (i := 2) rfl)) (by decide) (by decide)) (g := (mkF m 8 #[.val (.int x0), .val (.int x1), .val (.int kk), .unset, .unset] [(.int x0)])) rfl (by rw [hml]; rfl) (argsL := [(.int x0)]) (rest := []) (lenOf pd_0 rfl) rfl (by show 2 * 0 + _ ≤ _; exact Nat.le_of_eq rfl) (hb hby at_8) (fun _ _ => ⟨rfl, e0, (by decide : 0 + 1 ≤ _), (by decide : 0 + 7 ≤ _)⟩)
  dsimp only [Pt.U, Pt.locs, Pt.cells, Pt.slots] at X1 l1 y1 z1 st1 hQ1
  subst l1 y1 z1
  obtain ⟨rfl, N1q, K1⟩ := hQ1
  have N1 := Fr.app N0 N1q
  obtain ⟨h1, e1⟩ : ∃ z, T1.heap = z := ⟨_, rfl⟩
  rw [e1] at K1
  have O2 := O0.keep K1 all0
  have Z3 : n0 ≤ h1.size := Nat.le_trans Z0 K1.1
  refine own_step (st' := T1.setTop (mkF m 11 #[.val (.int x0), .val (.int x1), .val (.int kk), .unset, .unset] [(own_mode x0 a_PERSISTENT a_EPHEMERAL a_PERSISTENT_SEQUENTIAL a_EPHEMERAL_SEQUENTIAL a_CONTAINER a_PERSISTENT_WITH_TTL a_PERSISTENT_SEQUENTIAL_WITH_TTL)])) st1 ?_
  refine own_step (st' := T1.setTop (mkF m 12 #[.val (.int x0), .val (.int x1), .val (.int kk), .val (own_mode x0 a_PERSISTENT a_EPHEMERAL a_PERSISTENT_SEQUENTIAL a_EPHEMERAL_SEQUENTIAL a_CONTAINER a_PERSISTENT_WITH_TTL a_PERSISTENT_SEQUENTIAL_WITH_TTL), .unset] [])) (fun t k => XS.astoreN X1.here hx rfl (hb hby at_11) rfl (own_mode_ref x0 a_PERSISTENT a_EPHEMERAL a_PERSISTENT_SEQUENTIAL a_EPHEMERAL_SEQUENTIAL a_CONTAINER a_PERSISTENT_WITH_TTL a_PERSISTENT_SEQUENTIAL_WITH_TTL) (l' := #[.val (.int x0), .val (.int x1), .val (.int kk), .val (own_mode x0 a_PERSISTENT a_EPHEMERAL a_PERSISTENT_SEQUENTIAL a_EPHEMERAL_SEQUENTIAL a_CONTAINER a_PERSISTENT_WITH_TTL a_PERSISTENT_SEQUENTIAL_WITH_TTL), .unset]) (by rcases ref_cases (own_mode_ref x0 a_PERSISTENT a_EPHEMERAL a_PERSISTENT_SEQUENTIAL a_EPHEMERAL_SEQUENTIAL a_CONTAINER a_PERSISTENT_WITH_TTL a_PERSISTENT_SEQUENTIAL_WITH_TTL) with q | ⟨_, q⟩ <;> rw [q] <;> rfl) k) ?_
  refine own_step (st' := T1.setTop (mkF m 13 #[.val (.int x0), .val (.int x1), .val (.int kk), .val (own_mode x0 a_PERSISTENT a_EPHEMERAL a_PERSISTENT_SEQUENTIAL a_EPHEMERAL_SEQUENTIAL a_CONTAINER a_PERSISTENT_WITH_TTL a_PERSISTENT_SEQUENTIAL_WITH_TTL), .unset] [(.int kk)])) (fun t k => XS.iloadN X1.here hx rfl (hb hby at_12) rfl k) ?_
  obtain ⟨_, _, ⟨T4, L4, k4, n4⟩, -, X4, ⟨Lc4, hQ4, l4, y4, z4⟩, st4⟩ := Jvm.LawKit.callS X1 hx (y := (⟨"com/example/alert_tree/alerttree/protocol/CreateMode", "of", "(I)Lcom/example/alert_tree/alerttree/protocol/CreateMode;"⟩ : MethodName)) hown (mvT hZ (hw _ (List.mem_of_getElem? (i := 0) rfl))) (mvT hZ (hw _ (List.mem_of_getElem? (i := 1) rfl))) (mvT hZ (hw _ (List.mem_of_getElem? (i := 2) rfl))) (mvT hZ (hw _ (List.mem_of_getElem? (i := 3) rfl))) (by decide) (backOf (W := 0) (rm1 l Z a0 hw [] kk aV kV a_PERSISTENT a_EPHEMERAL a_PERSISTENT_SEQUENTIAL a_EPHEMERAL_SEQUENTIAL a_CONTAINER a_PERSISTENT_WITH_TTL a_PERSISTENT_SEQUENTIAL_WITH_TTL h1 n0 Z3 O2 p_0 p_1 p_2 p_3 p_4 p_5 p_6 p_7 p_8 p_9) hZ (hw _ (List.mem_of_getElem? (i := 3) rfl)) (hw _ (List.mem_of_getElem? (i := 2) rfl)) (by decide) (by decide)) (g := (mkF m 13 #[.val (.int x0), .val (.int x1), .val (.int kk), .val (own_mode x0 a_PERSISTENT a_EPHEMERAL a_PERSISTENT_SEQUENTIAL a_EPHEMERAL_SEQUENTIAL a_CONTAINER a_PERSISTENT_WITH_TTL a_PERSISTENT_SEQUENTIAL_WITH_TTL), .unset] [(.int kk)])) rfl (by rw [hml]; rfl) (argsL := [(.int kk)]) (rest := []) (lenOf pd_0 rfl) rfl (by show 2 * 0 + _ ≤ _; exact Nat.le_of_eq rfl) (hb hby at_13) (fun _ _ => ⟨rfl, e1, (by decide : 1 + 1 ≤ _), (by decide : 7 + 7 ≤ _)⟩)
  dsimp only [Pt.U, Pt.locs, Pt.cells, Pt.slots] at X4 l4 y4 z4 st4 hQ4
  subst l4 y4 z4
  obtain ⟨rfl, N4q, K4⟩ := hQ4
  have N4 := Fr.app N1 N4q
  obtain ⟨h4, e4⟩ : ∃ z, T4.heap = z := ⟨_, rfl⟩
  rw [e4] at K4
  have O5 := O2.keep K4 all0
  have Z6 : n0 ≤ h4.size := Nat.le_trans Z3 K4.1
  refine own_step (st' := T4.setTop (mkF m 16 #[.val (.int x0), .val (.int x1), .val (.int kk), .val (own_mode x0 a_PERSISTENT a_EPHEMERAL a_PERSISTENT_SEQUENTIAL a_EPHEMERAL_SEQUENTIAL a_CONTAINER a_PERSISTENT_WITH_TTL a_PERSISTENT_SEQUENTIAL_WITH_TTL), .unset] [(own_mode kk a_PERSISTENT a_EPHEMERAL a_PERSISTENT_SEQUENTIAL a_EPHEMERAL_SEQUENTIAL a_CONTAINER a_PERSISTENT_WITH_TTL a_PERSISTENT_SEQUENTIAL_WITH_TTL)])) st4 ?_
  refine own_step (st' := T4.setTop (mkF m 18 #[.val (.int x0), .val (.int x1), .val (.int kk), .val (own_mode x0 a_PERSISTENT a_EPHEMERAL a_PERSISTENT_SEQUENTIAL a_EPHEMERAL_SEQUENTIAL a_CONTAINER a_PERSISTENT_WITH_TTL a_PERSISTENT_SEQUENTIAL_WITH_TTL), .val (own_mode kk a_PERSISTENT a_EPHEMERAL a_PERSISTENT_SEQUENTIAL a_EPHEMERAL_SEQUENTIAL a_CONTAINER a_PERSISTENT_WITH_TTL a_PERSISTENT_SEQUENTIAL_WITH_TTL)] [])) (fun t k => XS.astore X4.here hx rfl (hb hby at_16) rfl (own_mode_ref kk a_PERSISTENT a_EPHEMERAL a_PERSISTENT_SEQUENTIAL a_EPHEMERAL_SEQUENTIAL a_CONTAINER a_PERSISTENT_WITH_TTL a_PERSISTENT_SEQUENTIAL_WITH_TTL) (l' := #[.val (.int x0), .val (.int x1), .val (.int kk), .val (own_mode x0 a_PERSISTENT a_EPHEMERAL a_PERSISTENT_SEQUENTIAL a_EPHEMERAL_SEQUENTIAL a_CONTAINER a_PERSISTENT_WITH_TTL a_PERSISTENT_SEQUENTIAL_WITH_TTL), .val (own_mode kk a_PERSISTENT a_EPHEMERAL a_PERSISTENT_SEQUENTIAL a_EPHEMERAL_SEQUENTIAL a_CONTAINER a_PERSISTENT_WITH_TTL a_PERSISTENT_SEQUENTIAL_WITH_TTL)]) (by rcases ref_cases (own_mode_ref kk a_PERSISTENT a_EPHEMERAL a_PERSISTENT_SEQUENTIAL a_EPHEMERAL_SEQUENTIAL a_CONTAINER a_PERSISTENT_WITH_TTL a_PERSISTENT_SEQUENTIAL_WITH_TTL) with q | ⟨_, q⟩ <;> rw [q] <;> rfl) k) ?_
  refine own_step (st' := T4.setTop (mkF m 19 #[.val (.int x0), .val (.int x1), .val (.int kk), .val (own_mode x0 a_PERSISTENT a_EPHEMERAL a_PERSISTENT_SEQUENTIAL a_EPHEMERAL_SEQUENTIAL a_CONTAINER a_PERSISTENT_WITH_TTL a_PERSISTENT_SEQUENTIAL_WITH_TTL), .val (own_mode kk a_PERSISTENT a_EPHEMERAL a_PERSISTENT_SEQUENTIAL a_EPHEMERAL_SEQUENTIAL a_CONTAINER a_PERSISTENT_WITH_TTL a_PERSISTENT_SEQUENTIAL_WITH_TTL)] [(own_mode x0 a_PERSISTENT a_EPHEMERAL a_PERSISTENT_SEQUENTIAL a_EPHEMERAL_SEQUENTIAL a_CONTAINER a_PERSISTENT_WITH_TTL a_PERSISTENT_SEQUENTIAL_WITH_TTL)])) (fun t k => XS.aloadN X4.here hx rfl (hb hby at_18) rfl (own_mode_ref x0 a_PERSISTENT a_EPHEMERAL a_PERSISTENT_SEQUENTIAL a_EPHEMERAL_SEQUENTIAL a_CONTAINER a_PERSISTENT_WITH_TTL a_PERSISTENT_SEQUENTIAL_WITH_TTL) k) ?_
  refine own_step (st' := T4.setTop (mkF m 20 #[.val (.int x0), .val (.int x1), .val (.int kk), .val (own_mode x0 a_PERSISTENT a_EPHEMERAL a_PERSISTENT_SEQUENTIAL a_EPHEMERAL_SEQUENTIAL a_CONTAINER a_PERSISTENT_WITH_TTL a_PERSISTENT_SEQUENTIAL_WITH_TTL), .val (own_mode kk a_PERSISTENT a_EPHEMERAL a_PERSISTENT_SEQUENTIAL a_EPHEMERAL_SEQUENTIAL a_CONTAINER a_PERSISTENT_WITH_TTL a_PERSISTENT_SEQUENTIAL_WITH_TTL)] [(.int x0), (own_mode x0 a_PERSISTENT a_EPHEMERAL a_PERSISTENT_SEQUENTIAL a_EPHEMERAL_SEQUENTIAL a_CONTAINER a_PERSISTENT_WITH_TTL a_PERSISTENT_SEQUENTIAL_WITH_TTL)])) (fun t k => XS.iloadN X4.here hx rfl (hb hby at_19) rfl k) ?_
  obtain ⟨_, _, ⟨T7, L7, k7, n7⟩, -, X7, ⟨Lc7, hQ7, l7, y7, z7⟩, st7⟩ := Jvm.LawKit.callS X4 hx (y := (⟨"com/example/alert_tree/alerttree/protocol/CreateModeOfPinLaw", "expected", "(I)Lcom/example/alert_tree/alerttree/protocol/CreateMode;"⟩ : MethodName)) hown (mvT hZ (hw _ (List.mem_of_getElem? (i := 28) rfl))) (mvT hZ (hw _ (List.mem_of_getElem? (i := 29) rfl))) (mvT hZ (hw _ (List.mem_of_getElem? (i := 30) rfl))) (mvT hZ (hw _ (List.mem_of_getElem? (i := 31) rfl))) (by decide) (backOf (W := 1) (rm3 l Z a0 hw [] x0 a_PERSISTENT a_EPHEMERAL a_PERSISTENT_SEQUENTIAL a_EPHEMERAL_SEQUENTIAL a_CONTAINER a_PERSISTENT_WITH_TTL a_PERSISTENT_SEQUENTIAL_WITH_TTL h4 n0 Z6 O5 p_10 p_11 p_12 p_13 p_14 p_15 p_16) hZ (hw _ (List.mem_of_getElem? (i := 31) rfl)) (hw _ (List.mem_of_getElem? (i := 30) rfl)) (by decide) (by decide)) (g := (mkF m 20 #[.val (.int x0), .val (.int x1), .val (.int kk), .val (own_mode x0 a_PERSISTENT a_EPHEMERAL a_PERSISTENT_SEQUENTIAL a_EPHEMERAL_SEQUENTIAL a_CONTAINER a_PERSISTENT_WITH_TTL a_PERSISTENT_SEQUENTIAL_WITH_TTL), .val (own_mode kk a_PERSISTENT a_EPHEMERAL a_PERSISTENT_SEQUENTIAL a_EPHEMERAL_SEQUENTIAL a_CONTAINER a_PERSISTENT_WITH_TTL a_PERSISTENT_SEQUENTIAL_WITH_TTL)] [(.int x0), (own_mode x0 a_PERSISTENT a_EPHEMERAL a_PERSISTENT_SEQUENTIAL a_EPHEMERAL_SEQUENTIAL a_CONTAINER a_PERSISTENT_WITH_TTL a_PERSISTENT_SEQUENTIAL_WITH_TTL)])) rfl (by rw [hml]; rfl) (argsL := [(.int x0)]) (rest := [(own_mode x0 a_PERSISTENT a_EPHEMERAL a_PERSISTENT_SEQUENTIAL a_EPHEMERAL_SEQUENTIAL a_CONTAINER a_PERSISTENT_WITH_TTL a_PERSISTENT_SEQUENTIAL_WITH_TTL)]) (lenOf pd_0 rfl) rfl (by show 2 * 0 + _ ≤ _; rcases ref_cases (own_mode_ref x0 a_PERSISTENT a_EPHEMERAL a_PERSISTENT_SEQUENTIAL a_EPHEMERAL_SEQUENTIAL a_CONTAINER a_PERSISTENT_WITH_TTL a_PERSISTENT_SEQUENTIAL_WITH_TTL) with q0 | ⟨_, q0⟩ <;> rw [q0] <;> exact Nat.le_of_eq rfl) (hb hby at_20) (fun _ _ => ⟨rfl, e4, (by decide : 2 + 0 ≤ _), (by decide : 14 + 0 ≤ _)⟩)
  dsimp only [Pt.U, Pt.locs, Pt.cells, Pt.slots] at X7 l7 y7 z7 st7 hQ7
  subst l7 y7 z7
  obtain ⟨rfl, N7q, e7⟩ := hQ7
  have N7 := Fr.app N4 N7q
  refine own_step (st' := T7.setTop (mkF m 23 #[.val (.int x0), .val (.int x1), .val (.int kk), .val (own_mode x0 a_PERSISTENT a_EPHEMERAL a_PERSISTENT_SEQUENTIAL a_EPHEMERAL_SEQUENTIAL a_CONTAINER a_PERSISTENT_WITH_TTL a_PERSISTENT_SEQUENTIAL_WITH_TTL), .val (own_mode kk a_PERSISTENT a_EPHEMERAL a_PERSISTENT_SEQUENTIAL a_EPHEMERAL_SEQUENTIAL a_CONTAINER a_PERSISTENT_WITH_TTL a_PERSISTENT_SEQUENTIAL_WITH_TTL)] [(own_mode x0 a_PERSISTENT a_EPHEMERAL a_PERSISTENT_SEQUENTIAL a_EPHEMERAL_SEQUENTIAL a_CONTAINER a_PERSISTENT_WITH_TTL a_PERSISTENT_SEQUENTIAL_WITH_TTL), (own_mode x0 a_PERSISTENT a_EPHEMERAL a_PERSISTENT_SEQUENTIAL a_EPHEMERAL_SEQUENTIAL a_CONTAINER a_PERSISTENT_WITH_TTL a_PERSISTENT_SEQUENTIAL_WITH_TTL)])) st7 ?_
  refine own_step (st' := T7.setTop (mkF m 26 #[.val (.int x0), .val (.int x1), .val (.int kk), .val (own_mode x0 a_PERSISTENT a_EPHEMERAL a_PERSISTENT_SEQUENTIAL a_EPHEMERAL_SEQUENTIAL a_CONTAINER a_PERSISTENT_WITH_TTL a_PERSISTENT_SEQUENTIAL_WITH_TTL), .val (own_mode kk a_PERSISTENT a_EPHEMERAL a_PERSISTENT_SEQUENTIAL a_EPHEMERAL_SEQUENTIAL a_CONTAINER a_PERSISTENT_WITH_TTL a_PERSISTENT_SEQUENTIAL_WITH_TTL)] [])) (fun t k => Jvm.RoadKit.acmp (g := (mkF m 23 #[.val (.int x0), .val (.int x1), .val (.int kk), .val (own_mode x0 a_PERSISTENT a_EPHEMERAL a_PERSISTENT_SEQUENTIAL a_EPHEMERAL_SEQUENTIAL a_CONTAINER a_PERSISTENT_WITH_TTL a_PERSISTENT_SEQUENTIAL_WITH_TTL), .val (own_mode kk a_PERSISTENT a_EPHEMERAL a_PERSISTENT_SEQUENTIAL a_EPHEMERAL_SEQUENTIAL a_CONTAINER a_PERSISTENT_WITH_TTL a_PERSISTENT_SEQUENTIAL_WITH_TTL)] [(own_mode x0 a_PERSISTENT a_EPHEMERAL a_PERSISTENT_SEQUENTIAL a_EPHEMERAL_SEQUENTIAL a_CONTAINER a_PERSISTENT_WITH_TTL a_PERSISTENT_SEQUENTIAL_WITH_TTL), (own_mode x0 a_PERSISTENT a_EPHEMERAL a_PERSISTENT_SEQUENTIAL a_EPHEMERAL_SEQUENTIAL a_CONTAINER a_PERSISTENT_WITH_TTL a_PERSISTENT_SEQUENTIAL_WITH_TTL)])) X7 hx rfl (own_mode_ref x0 a_PERSISTENT a_EPHEMERAL a_PERSISTENT_SEQUENTIAL a_EPHEMERAL_SEQUENTIAL a_CONTAINER a_PERSISTENT_WITH_TTL a_PERSISTENT_SEQUENTIAL_WITH_TTL) (own_mode_ref x0 a_PERSISTENT a_EPHEMERAL a_PERSISTENT_SEQUENTIAL a_EPHEMERAL_SEQUENTIAL a_CONTAINER a_PERSISTENT_WITH_TTL a_PERSISTENT_SEQUENTIAL_WITH_TTL) (pc0 := 23) (pc' := 26) (same := true) rfl (hb hby at_23) rfl (decide_eq_true rfl) (by decide) (by decide) k) ?_
  refine own_step (st' := T7.setTop (mkF m 28 #[.val (.int x0), .val (.int x1), .val (.int kk), .val (own_mode x0 a_PERSISTENT a_EPHEMERAL a_PERSISTENT_SEQUENTIAL a_EPHEMERAL_SEQUENTIAL a_CONTAINER a_PERSISTENT_WITH_TTL a_PERSISTENT_SEQUENTIAL_WITH_TTL), .val (own_mode kk a_PERSISTENT a_EPHEMERAL a_PERSISTENT_SEQUENTIAL a_EPHEMERAL_SEQUENTIAL a_CONTAINER a_PERSISTENT_WITH_TTL a_PERSISTENT_SEQUENTIAL_WITH_TTL)] [(own_mode kk a_PERSISTENT a_EPHEMERAL a_PERSISTENT_SEQUENTIAL a_EPHEMERAL_SEQUENTIAL a_CONTAINER a_PERSISTENT_WITH_TTL a_PERSISTENT_SEQUENTIAL_WITH_TTL)])) (fun t k => XS.aload X7.here hx rfl (hb hby at_26) rfl (own_mode_ref kk a_PERSISTENT a_EPHEMERAL a_PERSISTENT_SEQUENTIAL a_EPHEMERAL_SEQUENTIAL a_CONTAINER a_PERSISTENT_WITH_TTL a_PERSISTENT_SEQUENTIAL_WITH_TTL) k) ?_
  refine own_step (st' := T7.setTop (mkF m 29 #[.val (.int x0), .val (.int x1), .val (.int kk), .val (own_mode x0 a_PERSISTENT a_EPHEMERAL a_PERSISTENT_SEQUENTIAL a_EPHEMERAL_SEQUENTIAL a_CONTAINER a_PERSISTENT_WITH_TTL a_PERSISTENT_SEQUENTIAL_WITH_TTL), .val (own_mode kk a_PERSISTENT a_EPHEMERAL a_PERSISTENT_SEQUENTIAL a_EPHEMERAL_SEQUENTIAL a_CONTAINER a_PERSISTENT_WITH_TTL a_PERSISTENT_SEQUENTIAL_WITH_TTL)] [(.int kk), (own_mode kk a_PERSISTENT a_EPHEMERAL a_PERSISTENT_SEQUENTIAL a_EPHEMERAL_SEQUENTIAL a_CONTAINER a_PERSISTENT_WITH_TTL a_PERSISTENT_SEQUENTIAL_WITH_TTL)])) (fun t k => XS.iloadN X7.here hx rfl (hb hby at_28) rfl k) ?_
  obtain ⟨_, _, ⟨T8, L8, k8, n8⟩, -, X8, ⟨Lc8, hQ8, l8, y8, z8⟩, st8⟩ := Jvm.LawKit.callS X7 hx (y := (⟨"com/example/alert_tree/alerttree/protocol/CreateModeOfPinLaw", "expected", "(I)Lcom/example/alert_tree/alerttree/protocol/CreateMode;"⟩ : MethodName)) hown (mvT hZ (hw _ (List.mem_of_getElem? (i := 28) rfl))) (mvT hZ (hw _ (List.mem_of_getElem? (i := 29) rfl))) (mvT hZ (hw _ (List.mem_of_getElem? (i := 30) rfl))) (mvT hZ (hw _ (List.mem_of_getElem? (i := 31) rfl))) (by decide) (backOf (W := 1) (rm3 l Z a0 hw [] kk a_PERSISTENT a_EPHEMERAL a_PERSISTENT_SEQUENTIAL a_EPHEMERAL_SEQUENTIAL a_CONTAINER a_PERSISTENT_WITH_TTL a_PERSISTENT_SEQUENTIAL_WITH_TTL h4 n0 Z6 O5 p_10 p_11 p_12 p_13 p_14 p_15 p_16) hZ (hw _ (List.mem_of_getElem? (i := 31) rfl)) (hw _ (List.mem_of_getElem? (i := 30) rfl)) (by decide) (by decide)) (g := (mkF m 29 #[.val (.int x0), .val (.int x1), .val (.int kk), .val (own_mode x0 a_PERSISTENT a_EPHEMERAL a_PERSISTENT_SEQUENTIAL a_EPHEMERAL_SEQUENTIAL a_CONTAINER a_PERSISTENT_WITH_TTL a_PERSISTENT_SEQUENTIAL_WITH_TTL), .val (own_mode kk a_PERSISTENT a_EPHEMERAL a_PERSISTENT_SEQUENTIAL a_EPHEMERAL_SEQUENTIAL a_CONTAINER a_PERSISTENT_WITH_TTL a_PERSISTENT_SEQUENTIAL_WITH_TTL)] [(.int kk), (own_mode kk a_PERSISTENT a_EPHEMERAL a_PERSISTENT_SEQUENTIAL a_EPHEMERAL_SEQUENTIAL a_CONTAINER a_PERSISTENT_WITH_TTL a_PERSISTENT_SEQUENTIAL_WITH_TTL)])) rfl (by rw [hml]; rfl) (argsL := [(.int kk)]) (rest := [(own_mode kk a_PERSISTENT a_EPHEMERAL a_PERSISTENT_SEQUENTIAL a_EPHEMERAL_SEQUENTIAL a_CONTAINER a_PERSISTENT_WITH_TTL a_PERSISTENT_SEQUENTIAL_WITH_TTL)]) (lenOf pd_0 rfl) rfl (by show 2 * 0 + _ ≤ _; rcases ref_cases (own_mode_ref kk a_PERSISTENT a_EPHEMERAL a_PERSISTENT_SEQUENTIAL a_EPHEMERAL_SEQUENTIAL a_CONTAINER a_PERSISTENT_WITH_TTL a_PERSISTENT_SEQUENTIAL_WITH_TTL) with q0 | ⟨_, q0⟩ <;> rw [q0] <;> exact Nat.le_of_eq rfl) (hb hby at_29) (fun _ _ => ⟨rfl, e7, (by decide : 2 + 0 ≤ _), (by decide : 14 + 0 ≤ _)⟩)
  dsimp only [Pt.U, Pt.locs, Pt.cells, Pt.slots] at X8 l8 y8 z8 st8 hQ8
  subst l8 y8 z8
  obtain ⟨rfl, N8q, e8⟩ := hQ8
  have N8 := Fr.app N7 N8q
  refine own_step (st' := T8.setTop (mkF m 32 #[.val (.int x0), .val (.int x1), .val (.int kk), .val (own_mode x0 a_PERSISTENT a_EPHEMERAL a_PERSISTENT_SEQUENTIAL a_EPHEMERAL_SEQUENTIAL a_CONTAINER a_PERSISTENT_WITH_TTL a_PERSISTENT_SEQUENTIAL_WITH_TTL), .val (own_mode kk a_PERSISTENT a_EPHEMERAL a_PERSISTENT_SEQUENTIAL a_EPHEMERAL_SEQUENTIAL a_CONTAINER a_PERSISTENT_WITH_TTL a_PERSISTENT_SEQUENTIAL_WITH_TTL)] [(own_mode kk a_PERSISTENT a_EPHEMERAL a_PERSISTENT_SEQUENTIAL a_EPHEMERAL_SEQUENTIAL a_CONTAINER a_PERSISTENT_WITH_TTL a_PERSISTENT_SEQUENTIAL_WITH_TTL), (own_mode kk a_PERSISTENT a_EPHEMERAL a_PERSISTENT_SEQUENTIAL a_EPHEMERAL_SEQUENTIAL a_CONTAINER a_PERSISTENT_WITH_TTL a_PERSISTENT_SEQUENTIAL_WITH_TTL)])) st8 ?_
  refine own_step (st' := T8.setTop (mkF m 35 #[.val (.int x0), .val (.int x1), .val (.int kk), .val (own_mode x0 a_PERSISTENT a_EPHEMERAL a_PERSISTENT_SEQUENTIAL a_EPHEMERAL_SEQUENTIAL a_CONTAINER a_PERSISTENT_WITH_TTL a_PERSISTENT_SEQUENTIAL_WITH_TTL), .val (own_mode kk a_PERSISTENT a_EPHEMERAL a_PERSISTENT_SEQUENTIAL a_EPHEMERAL_SEQUENTIAL a_CONTAINER a_PERSISTENT_WITH_TTL a_PERSISTENT_SEQUENTIAL_WITH_TTL)] [])) (fun t k => Jvm.RoadKit.acmp (g := (mkF m 32 #[.val (.int x0), .val (.int x1), .val (.int kk), .val (own_mode x0 a_PERSISTENT a_EPHEMERAL a_PERSISTENT_SEQUENTIAL a_EPHEMERAL_SEQUENTIAL a_CONTAINER a_PERSISTENT_WITH_TTL a_PERSISTENT_SEQUENTIAL_WITH_TTL), .val (own_mode kk a_PERSISTENT a_EPHEMERAL a_PERSISTENT_SEQUENTIAL a_EPHEMERAL_SEQUENTIAL a_CONTAINER a_PERSISTENT_WITH_TTL a_PERSISTENT_SEQUENTIAL_WITH_TTL)] [(own_mode kk a_PERSISTENT a_EPHEMERAL a_PERSISTENT_SEQUENTIAL a_EPHEMERAL_SEQUENTIAL a_CONTAINER a_PERSISTENT_WITH_TTL a_PERSISTENT_SEQUENTIAL_WITH_TTL), (own_mode kk a_PERSISTENT a_EPHEMERAL a_PERSISTENT_SEQUENTIAL a_EPHEMERAL_SEQUENTIAL a_CONTAINER a_PERSISTENT_WITH_TTL a_PERSISTENT_SEQUENTIAL_WITH_TTL)])) X8 hx rfl (own_mode_ref kk a_PERSISTENT a_EPHEMERAL a_PERSISTENT_SEQUENTIAL a_EPHEMERAL_SEQUENTIAL a_CONTAINER a_PERSISTENT_WITH_TTL a_PERSISTENT_SEQUENTIAL_WITH_TTL) (own_mode_ref kk a_PERSISTENT a_EPHEMERAL a_PERSISTENT_SEQUENTIAL a_EPHEMERAL_SEQUENTIAL a_CONTAINER a_PERSISTENT_WITH_TTL a_PERSISTENT_SEQUENTIAL_WITH_TTL) (pc0 := 32) (pc' := 35) (same := true) rfl (hb hby at_32) rfl (decide_eq_true rfl) (by decide) (by decide) k) ?_
  refine own_step (st' := T8.setTop (mkF m 36 #[.val (.int x0), .val (.int x1), .val (.int kk), .val (own_mode x0 a_PERSISTENT a_EPHEMERAL a_PERSISTENT_SEQUENTIAL a_EPHEMERAL_SEQUENTIAL a_CONTAINER a_PERSISTENT_WITH_TTL a_PERSISTENT_SEQUENTIAL_WITH_TTL), .val (own_mode kk a_PERSISTENT a_EPHEMERAL a_PERSISTENT_SEQUENTIAL a_EPHEMERAL_SEQUENTIAL a_CONTAINER a_PERSISTENT_WITH_TTL a_PERSISTENT_SEQUENTIAL_WITH_TTL)] [(.int (1 : Int32))])) (fun t k => XS.iconst X8.here hx rfl (hb hby at_35) k) ?_
  refine own_step (st' := T8.setTop (mkF m 40 #[.val (.int x0), .val (.int x1), .val (.int kk), .val (own_mode x0 a_PERSISTENT a_EPHEMERAL a_PERSISTENT_SEQUENTIAL a_EPHEMERAL_SEQUENTIAL a_CONTAINER a_PERSISTENT_WITH_TTL a_PERSISTENT_SEQUENTIAL_WITH_TTL), .val (own_mode kk a_PERSISTENT a_EPHEMERAL a_PERSISTENT_SEQUENTIAL a_EPHEMERAL_SEQUENTIAL a_CONTAINER a_PERSISTENT_WITH_TTL a_PERSISTENT_SEQUENTIAL_WITH_TTL)] [(.int (1 : Int32))])) (fun t k => XS.goto X8.here hx rfl (pc0 := 36) (pc' := 40) rfl (hb hby at_36) (by decide) (by decide) k) ?_
  refine own_ret X8 Bd.notSynchronized (some (.int (1 : Int32))) (fun h => by rw [Bd.returns] at h; cases h) (fun fs hr => retN X8 hx (t := .boolean) Bd.returns (by simp) (hb hby at_40) hr) ?_ (by decide) (by decide)
  rw [e8]
  exact ⟨rfl, N8⟩
set_option maxRecDepth 65536 in
set_option maxHeartbeats 40000000 in
theorem comes_1 {Post : Tables → Env → Array Value → State → Outcome → State → Prop} (hpost : ∀ tb e args s v u, (limb_1_1.after args s (.returned v) u = true ∧ limb_1_2.after args s (.returned v) u = true ∧ True) → FrameEnd s (.returned v) u (Jvm.fieldLocs frame_1_writes args s ++ Jvm.arrayLocs frame_1_arrays args s ++ Jvm.staticLocs frame_1_statics s) 16 128 → Post tb e args s (.returned v) u) :
    ArmFor flags0 classFile x code maxLocals ret World_1 tables_1 room_1 Calls_1 rest_1 Pre_1 Post := by
  intro l hfl _ _ p e ha hc hk s m args below hf hA hF happ hP
  obtain ⟨hcalls, hrest, hpre⟩ := hP
  obtain ⟨-, -, -, hnamed, -, -, -, hat⟩ := (Spec.applies_iff hf).mp happ
  obtain ⟨hg, hn⟩ := and_e (Cond.before_iff.mp (show (Jvm.Cond.and given_1 narrow_1).before args s = true from hpre))
  obtain ⟨hcount, hg0⟩ := and_e hg
  obtain ⟨ha0, hg1⟩ := and_e hg0
  obtain ⟨w0, w1, rfl⟩ : ∃ w0 w1 : Value, args = #[w0, w1] := by
    have hs : args.size = 2 := by simpa [Cond.value, given_1] using hcount
    obtain ⟨L⟩ := args
    match L, hs with
    | [w0, w1], _ => exact ⟨w0, w1, rfl⟩
  have hw := fun d (hd : d ∈ tables_1) => atoms_spec (ws := Jvm.Cond.code x code maxLocals ret :: tables_1) hat d (List.mem_cons_of_mem _ hd)
  have hfit : Fit s := fun {y c} hc i hi => by
    obtain ⟨ha, rfl⟩ := Array.getElem?_eq_some_iff.mp hc
    have q := List.all_eq_true.mp ((Array.all_eq_true_iff_forall_mem.mp hF) _ (Array.getElem_mem ha)) i (List.mem_range.mpr hi)
    simpa [Array.getElem?_eq_getElem hi] using q
  obtain ⟨i0, ei0⟩ := is_v ha0
  obtain rfl : w0 = (.int i0) := Option.some.inj ei0
  obtain ⟨i1, ei1⟩ := is_v hg1
  obtain rfl : w1 = (.int i1) := Option.some.inj ei1
  obtain ⟨c0, r0⟩ := and_e hn
  obtain ⟨c1, r1⟩ := and_e r0
  obtain ⟨c2, r2⟩ := and_e r1
  obtain ⟨c3, r3⟩ := and_e r2
  obtain ⟨c4, r4⟩ := and_e r3
  obtain ⟨c5, r5⟩ := and_e r4
  obtain ⟨c6, r6⟩ := and_e r5
  obtain ⟨c7, r7⟩ := and_e r6
  obtain ⟨c8, r8⟩ := and_e r7
  obtain ⟨c9, r9⟩ := and_e r8
  obtain ⟨c10, r10⟩ := and_e r9
  obtain ⟨c11, r11⟩ := and_e r10
  obtain ⟨c12, r12⟩ := and_e r11
  obtain ⟨c13, r13⟩ := and_e r12
  obtain ⟨c14, r14⟩ := and_e r13
  obtain ⟨c15, r15⟩ := and_e r14
  obtain ⟨c16, r16⟩ := and_e r15
  obtain ⟨c17, r17⟩ := and_e r16
  obtain ⟨c18, r18⟩ := and_e r17
  obtain ⟨c19, r19⟩ := and_e r18
  obtain ⟨c20, r20⟩ := and_e r19
  obtain ⟨c21, r21⟩ := and_e r20
  obtain ⟨c22, r22⟩ := and_e r21
  obtain ⟨a__VALUES, _, _, _, ev__VALUES, -⟩ := Cond.exactly_spec (Cond.before_iff.mpr c1)
  have E__VALUES := Exa.start (Z := s) ev__VALUES c1
  have S__VALUES := Sta.start (Z := s) ev__VALUES (Or.inr ⟨(hw _ (List.mem_of_getElem? (i := 2) rfl)), (hw _ (List.mem_of_getElem? (i := 8) rfl))⟩)
  obtain ⟨a_PERSISTENT, _, _, _, ev_PERSISTENT, -⟩ := Cond.exactly_spec (Cond.before_iff.mpr c3)
  have E_PERSISTENT := Exa.start (Z := s) ev_PERSISTENT c3
  have S_PERSISTENT := Sta.start (Z := s) ev_PERSISTENT (Or.inr ⟨(hw _ (List.mem_of_getElem? (i := 2) rfl)), (hw _ (List.mem_of_getElem? (i := 16) rfl))⟩)
  obtain ⟨a_EPHEMERAL, _, _, _, ev_EPHEMERAL, -⟩ := Cond.exactly_spec (Cond.before_iff.mpr c5)
  have E_EPHEMERAL := Exa.start (Z := s) ev_EPHEMERAL c5
  have S_EPHEMERAL := Sta.start (Z := s) ev_EPHEMERAL (Or.inr ⟨(hw _ (List.mem_of_getElem? (i := 2) rfl)), (hw _ (List.mem_of_getElem? (i := 17) rfl))⟩)
  obtain ⟨a_PERSISTENT_SEQUENTIAL, _, _, _, ev_PERSISTENT_SEQUENTIAL, -⟩ := Cond.exactly_spec (Cond.before_iff.mpr c7)
  have E_PERSISTENT_SEQUENTIAL := Exa.start (Z := s) ev_PERSISTENT_SEQUENTIAL c7
  have S_PERSISTENT_SEQUENTIAL := Sta.start (Z := s) ev_PERSISTENT_SEQUENTIAL (Or.inr ⟨(hw _ (List.mem_of_getElem? (i := 2) rfl)), (hw _ (List.mem_of_getElem? (i := 18) rfl))⟩)
  obtain ⟨a_EPHEMERAL_SEQUENTIAL, _, _, _, ev_EPHEMERAL_SEQUENTIAL, -⟩ := Cond.exactly_spec (Cond.before_iff.mpr c9)
  have E_EPHEMERAL_SEQUENTIAL := Exa.start (Z := s) ev_EPHEMERAL_SEQUENTIAL c9
  have S_EPHEMERAL_SEQUENTIAL := Sta.start (Z := s) ev_EPHEMERAL_SEQUENTIAL (Or.inr ⟨(hw _ (List.mem_of_getElem? (i := 2) rfl)), (hw _ (List.mem_of_getElem? (i := 19) rfl))⟩)
  obtain ⟨a_CONTAINER, _, _, _, ev_CONTAINER, -⟩ := Cond.exactly_spec (Cond.before_iff.mpr c11)
  have E_CONTAINER := Exa.start (Z := s) ev_CONTAINER c11
  have S_CONTAINER := Sta.start (Z := s) ev_CONTAINER (Or.inr ⟨(hw _ (List.mem_of_getElem? (i := 2) rfl)), (hw _ (List.mem_of_getElem? (i := 20) rfl))⟩)
  obtain ⟨a_PERSISTENT_WITH_TTL, _, _, _, ev_PERSISTENT_WITH_TTL, -⟩ := Cond.exactly_spec (Cond.before_iff.mpr c13)
  have E_PERSISTENT_WITH_TTL := Exa.start (Z := s) ev_PERSISTENT_WITH_TTL c13
  have S_PERSISTENT_WITH_TTL := Sta.start (Z := s) ev_PERSISTENT_WITH_TTL (Or.inr ⟨(hw _ (List.mem_of_getElem? (i := 2) rfl)), (hw _ (List.mem_of_getElem? (i := 21) rfl))⟩)
  obtain ⟨a_PERSISTENT_SEQUENTIAL_WITH_TTL, _, _, _, ev_PERSISTENT_SEQUENTIAL_WITH_TTL, -⟩ := Cond.exactly_spec (Cond.before_iff.mpr c15)
  have E_PERSISTENT_SEQUENTIAL_WITH_TTL := Exa.start (Z := s) ev_PERSISTENT_SEQUENTIAL_WITH_TTL c15
  have S_PERSISTENT_SEQUENTIAL_WITH_TTL := Sta.start (Z := s) ev_PERSISTENT_SEQUENTIAL_WITH_TTL (Or.inr ⟨(hw _ (List.mem_of_getElem? (i := 2) rfl)), (hw _ (List.mem_of_getElem? (i := 22) rfl))⟩)
  have F_PERSISTENT_flags : Fld s s.heap a_PERSISTENT "com/example/alert_tree/alerttree/protocol/CreateMode" "flags" "I" (.int (0 : Int32)) := Fld.start ((fld_at ev_PERSISTENT).symm.trans (own_eqI c17))
  have F_EPHEMERAL_flags : Fld s s.heap a_EPHEMERAL "com/example/alert_tree/alerttree/protocol/CreateMode" "flags" "I" (.int (1 : Int32)) := Fld.start ((fld_at ev_EPHEMERAL).symm.trans (own_eqI c18))
  have F_PERSISTENT_SEQUENTIAL_flags : Fld s s.heap a_PERSISTENT_SEQUENTIAL "com/example/alert_tree/alerttree/protocol/CreateMode" "flags" "I" (.int (2 : Int32)) := Fld.start ((fld_at ev_PERSISTENT_SEQUENTIAL).symm.trans (own_eqI c19))
  have F_EPHEMERAL_SEQUENTIAL_flags : Fld s s.heap a_EPHEMERAL_SEQUENTIAL "com/example/alert_tree/alerttree/protocol/CreateMode" "flags" "I" (.int (3 : Int32)) := Fld.start ((fld_at ev_EPHEMERAL_SEQUENTIAL).symm.trans (own_eqI c20))
  have F_CONTAINER_flags : Fld s s.heap a_CONTAINER "com/example/alert_tree/alerttree/protocol/CreateMode" "flags" "I" (.int (4 : Int32)) := Fld.start ((fld_at ev_CONTAINER).symm.trans (own_eqI c21))
  have F_PERSISTENT_WITH_TTL_flags : Fld s s.heap a_PERSISTENT_WITH_TTL "com/example/alert_tree/alerttree/protocol/CreateMode" "flags" "I" (.int (5 : Int32)) := Fld.start ((fld_at ev_PERSISTENT_WITH_TTL).symm.trans (own_eqI c22))
  have F_PERSISTENT_SEQUENTIAL_WITH_TTL_flags : Fld s s.heap a_PERSISTENT_SEQUENTIAL_WITH_TTL "com/example/alert_tree/alerttree/protocol/CreateMode" "flags" "I" (.int (6 : Int32)) := Fld.start ((fld_at ev_PERSISTENT_SEQUENTIAL_WITH_TTL).symm.trans (own_eqI r22))
  obtain ⟨clV, AV⟩ := Arr.start (Z := s) ev__VALUES c0
  obtain ⟨hl1, hl2⟩ := own_lenA ev__VALUES AV (own_eqI c2)
  have el0 := (elem_in (own_eqR c4 ev_PERSISTENT) ev__VALUES (Term.int_eval _) AV.1).2
  have el1 := (elem_in (own_eqR c6 ev_EPHEMERAL) ev__VALUES (Term.int_eval _) AV.1).2
  have el2 := (elem_in (own_eqR c8 ev_PERSISTENT_SEQUENTIAL) ev__VALUES (Term.int_eval _) AV.1).2
  have el3 := (elem_in (own_eqR c10 ev_EPHEMERAL_SEQUENTIAL) ev__VALUES (Term.int_eval _) AV.1).2
  have el4 := (elem_in (own_eqR c12 ev_CONTAINER) ev__VALUES (Term.int_eval _) AV.1).2
  have el5 := (elem_in (own_eqR c14 ev_PERSISTENT_WITH_TTL) ev__VALUES (Term.int_eval _) AV.1).2
  have el6 := (elem_in (own_eqR c16 ev_PERSISTENT_SEQUENTIAL_WITH_TTL) ev__VALUES (Term.int_eval _) AV.1).2
  have V0 : Arv s s.heap a__VALUES clV.cls (.object "com/example/alert_tree/alerttree/protocol/CreateMode") (7 : Int32) [(.ref a_PERSISTENT), (.ref a_EPHEMERAL), (.ref a_PERSISTENT_SEQUENTIAL), (.ref a_EPHEMERAL_SEQUENTIAL), (.ref a_CONTAINER), (.ref a_PERSISTENT_WITH_TTL), (.ref a_PERSISTENT_SEQUENTIAL_WITH_TTL)] .null := Arv.start hfit AV hl1 hl2 (by decide) rfl ⟨el0, el1, el2, el3, el4, el5, el6, trivial⟩
  obtain ⟨n, o, h1, h2, h3, _, L, rfl, ⟨rfl, N⟩, hq⟩ := rm0 l s _ hw tables_1 i0 i1 a__VALUES clV.cls a_PERSISTENT a_EPHEMERAL a_PERSISTENT_SEQUENTIAL a_EPHEMERAL_SEQUENTIAL a_CONTAINER a_PERSISTENT_WITH_TTL a_PERSISTENT_SEQUENTIAL_WITH_TTL s.heap s.heap.size (Nat.le_refl _) (Old.start s) S__VALUES E__VALUES V0 F_PERSISTENT_flags F_EPHEMERAL_flags F_PERSISTENT_SEQUENTIAL_flags F_EPHEMERAL_SEQUENTIAL_flags F_CONTAINER_flags F_PERSISTENT_WITH_TTL_flags F_PERSISTENT_SEQUENTIAL_WITH_TTL_flags S_PERSISTENT S_EPHEMERAL S_PERSISTENT_SEQUENTIAL S_EPHEMERAL_SEQUENTIAL S_CONTAINER S_PERSISTENT_WITH_TTL S_PERSISTENT_SEQUENTIAL_WITH_TTL p e ha hc hk s m _ below hf ((Spec.applies_iff_loose hf).mp happ).1 ⟨rfl, State.Warmed39.refl s, rfl⟩ trivial
  refine ⟨n, _, h1, h2, h3, hpost _ _ _ _ _ _ ⟨Cond.after_iff.mpr rfl, Cond.after_iff.mpr (eq_i res_at (Term.int_eval (1)) rfl), trivial⟩ ⟨hq.1, hq.2.1, (hq.2.2.sift fun y hy => Or.inr (N y hy)).mono (by decide) (by decide)⟩⟩
theorem main_1_1 : Claimed_1_1 := comes_1 fun _ _ _ _ _ _ h hF => ⟨h.1, hF⟩
theorem main_1_2 : Claimed_1_2 := comes_1 fun _ _ _ _ _ _ h hF => ⟨h.2.1, hF⟩
end Jvm.Pilot.@@N@@
namespace Jvm.Pilot.@@N@@
open Jvm Jvm.ClassFile Sem Op Lib Jvm.Free Jvm.Stand Jvm.Pilot.@@N@@.Jvm.D
/-! MADE BY PROGRAM (witnessworld.py) out of the Statement's table words and the real class files: 13 classes; the members and pool entries that the words name. The judged class is class 1, her method 2. -/
namespace start1
open Jvm.ClassFile
def u (s : String) : CpInfo := .utf8 (stringToUtf16 s)
/-- a pool by its gaps: so many unusable entries, then the entry; so many at the end -/
def gap : Nat → List CpInfo → List CpInfo
  | 0, r => r
  | n + 1, r => .unusable :: gap n r
def poolList (es : List (Nat × CpInfo)) (last : Nat) : List CpInfo := es.foldr (fun e r => gap e.1 (e.2 :: r)) (gap last [])
def pool (es : List (Nat × CpInfo)) (last : Nat) : Array CpInfo := ⟨poolList es last⟩
def fileOf (pool : Array CpInfo) (this : Nat) (attrs : Array Attribute := #[]) (ms : Array MethodInfo := #[]) (fl : Nat := 33) (sup : Nat := 0) (ifs : Array Nat := #[]) (fds : Array FieldInfo := #[]) : ClassFile where
  minorVersion := 0
  majorVersion := 65
  constantPool := pool
  accessFlags := fl
  thisClass := this
  superClass := sup
  interfaces := ifs
  fields := fds
  methods := ms
  attributes := attrs
def plain (name : String) (sup : Option ClassId) : Class where
  name := name
  kind := .ordinary
  loader := none
  accessFlags := 33
  super := sup
  interfaces := #[]
  cf := none
  fields := #[]
  methods := #[]
  instanceTypes := #[]
  staticTypes := #[]
  resolved := #[]
  callSites := []
  init := .initialized
  statics := none
  mirror := none

def pool0 : Array CpInfo := pool [(5, u "<init>"), (0, u "()V"), (1, .class_ 10), (1, u "java/lang/Object"), (85, u "clone"), (0, u "()Ljava/lang/Object;")] 26

def k0m0 : Method := { name := "<init>", desc := "()V", sig := { parameters := [], returnType := none }, accessFlags := 1, code := none }
def k0m1 : Method := { name := "clone", desc := "()Ljava/lang/Object;", sig := { parameters := [], returnType := some (.object "java/lang/Object") }, accessFlags := 260, code := none }
/-- java/lang/Object -/
def k0 : Class := { plain "java/lang/Object" none with
  accessFlags := 33
  interfaces := #[]
  cf := some (fileOf pool0 8 #[] #[{ accessFlags := 1, nameIndex := 5, descriptorIndex := 6, attributes := #[] }, { accessFlags := 260, nameIndex := 96, descriptorIndex := 97, attributes := #[] }] 33 0 #[] #[])
  fields := #[]
  methods := #[k0m0, k0m1]
  instanceTypes := #[]
  staticTypes := #[]
  resolved := Array.replicate 124 none
  statics := none }

def pool1 : Array CpInfo := pool [(2, .class_ 4), (1, u "java/lang/Object"), (0, u "<init>"), (0, u "()V"), (0, .fieldref 8 9), (0, .class_ 10), (0, .nameAndType 11 12), (0, u "com/example/alert_tree/alerttree/protocol/CreateMode"), (0, u "PERSISTENT"), (0, u "Lcom/example/alert_tree/alerttree/protocol/CreateMode;"), (0, .fieldref 8 14), (0, .nameAndType 15 12), (0, u "EPHEMERAL"), (0, .fieldref 8 17), (0, .nameAndType 18 12), (0, u "PERSISTENT_SEQUENTIAL"), (0, .fieldref 8 20), (0, .nameAndType 21 12), (0, u "EPHEMERAL_SEQUENTIAL"), (0, .fieldref 8 23), (0, .nameAndType 24 12), (0, u "CONTAINER"), (0, .fieldref 8 26), (0, .nameAndType 27 12), (0, u "PERSISTENT_WITH_TTL"), (0, .fieldref 8 29), (0, .nameAndType 30 12), (0, u "PERSISTENT_SEQUENTIAL_WITH_TTL"), (0, .methodref 8 32), (0, .nameAndType 33 34), (0, u "of"), (0, u "(I)Lcom/example/alert_tree/alerttree/protocol/CreateMode;"), (0, .methodref 36 37), (0, .class_ 38), (0, .nameAndType 39 34), (0, u "com/example/alert_tree/alerttree/protocol/CreateModeOfPinLaw"), (0, u "expected"), (3, u "law"), (0, u "(II)Z")] 2

def k1m0 : Method := { name := "<init>", desc := "()V", sig := { parameters := [], returnType := none }, accessFlags := 1, code := none }
def k1c1 : Code := { maxStack := 2, maxLocals := 1, code := method_2_code, exceptionTable := #[], attributes := #[] }
def k1m1 : Method := { name := "expected", desc := "(I)Lcom/example/alert_tree/alerttree/protocol/CreateMode;", sig := { parameters := [.int], returnType := some (.object "com/example/alert_tree/alerttree/protocol/CreateMode") }, accessFlags := 10, code := some k1c1 }
def k1c2 : Code := { maxStack := 2, maxLocals := 5, code := code, exceptionTable := #[], attributes := #[] }
def k1m2 : Method := { name := "law", desc := "(II)Z", sig := { parameters := [.int, .int], returnType := some .boolean }, accessFlags := 9, code := some k1c2 }
/-- com/example/alert_tree/alerttree/protocol/CreateModeOfPinLaw -/
def k1 : Class := { plain "com/example/alert_tree/alerttree/protocol/CreateModeOfPinLaw" (some 0) with
  accessFlags := 49
  interfaces := #[]
  cf := some (fileOf pool1 36 #[] #[{ accessFlags := 1, nameIndex := 5, descriptorIndex := 6, attributes := #[] }, { accessFlags := 10, nameIndex := 39, descriptorIndex := 34, attributes := #[] }, { accessFlags := 9, nameIndex := 43, descriptorIndex := 44, attributes := #[] }] 49 2 #[] #[])
  fields := #[]
  methods := #[k1m0, k1m1, k1m2]
  instanceTypes := #[]
  staticTypes := #[]
  resolved := Array.replicate 47 none
  statics := none }

def pool2 : Array CpInfo := pool [(1, .class_ 2), (0, u "java/lang/constant/Constable"), (0, .class_ 4), (0, u "java/lang/Object")] 6

/-- java/lang/constant/Constable -/
def k2 : Class := { plain "java/lang/constant/Constable" (some 0) with
  accessFlags := 1537
  interfaces := #[]
  cf := some (fileOf pool2 1 #[] #[] 1537 3 #[] #[])
  fields := #[]
  methods := #[]
  instanceTypes := #[]
  staticTypes := #[]
  resolved := Array.replicate 11 none
  statics := none }

def pool3 : Array CpInfo := pool [(1, .class_ 2), (0, u "java/lang/Comparable"), (0, .class_ 4), (0, u "java/lang/Object")] 7

/-- java/lang/Comparable -/
def k3 : Class := { plain "java/lang/Comparable" (some 0) with
  accessFlags := 1537
  interfaces := #[]
  cf := some (fileOf pool3 1 #[] #[] 1537 3 #[] #[])
  fields := #[]
  methods := #[]
  instanceTypes := #[]
  staticTypes := #[]
  resolved := Array.replicate 12 none
  statics := none }

def pool4 : Array CpInfo := pool [(1, .class_ 2), (0, u "java/io/Serializable"), (0, .class_ 4), (0, u "java/lang/Object")] 2

/-- java/io/Serializable -/
def k4 : Class := { plain "java/io/Serializable" (some 0) with
  accessFlags := 1537
  interfaces := #[]
  cf := some (fileOf pool4 1 #[] #[] 1537 3 #[] #[])
  fields := #[]
  methods := #[]
  instanceTypes := #[]
  staticTypes := #[]
  resolved := Array.replicate 7 none
  statics := none }

def pool5 : Array CpInfo := pool [(2, .class_ 4), (1, u "java/lang/Enum"), (0, u "name"), (0, u "Ljava/lang/String;"), (2, u "ordinal"), (0, u "I"), (1, .class_ 14), (1, u "java/lang/Object"), (4, u "hash"), (86, .class_ 108), (1, u "java/lang/Enum$EnumDesc"), (2, .class_ 112), (0, u "java/lang/constant/Constable"), (0, .class_ 114), (0, u "java/lang/Comparable"), (0, .class_ 116), (0, u "java/io/Serializable")] 87

/-- java/lang/Enum -/
def k5 : Class := { plain "java/lang/Enum" (some 0) with
  accessFlags := 1057
  interfaces := #[2, 3, 4]
  cf := some (fileOf pool5 2 #[.nestMembers #[106]] #[] 1057 12 #[111, 113, 115] #[{ accessFlags := 18, nameIndex := 5, descriptorIndex := 6, attributes := #[] }, { accessFlags := 18, nameIndex := 9, descriptorIndex := 10, attributes := #[] }, { accessFlags := 2, nameIndex := 19, descriptorIndex := 10, attributes := #[] }])
  fields := #[{ name := "name", type := (.object "java/lang/String"), accessFlags := 18, slot := 0, constantValue := 0 }, { name := "ordinal", type := .int, accessFlags := 18, slot := 1, constantValue := 0 }, { name := "hash", type := .int, accessFlags := 2, slot := 2, constantValue := 0 }]
  methods := #[]
  instanceTypes := #[(.object "java/lang/String"), .int, .int]
  staticTypes := #[]
  resolved := Array.replicate 204 none
  statics := none }

def pool6 : Array CpInfo := pool [(1, .class_ 2), (0, u "com/example/alert_tree/alerttree/protocol/CreateMode"), (2, u "PERSISTENT"), (0, u "Lcom/example/alert_tree/alerttree/protocol/CreateMode;"), (2, u "EPHEMERAL"), (2, u "PERSISTENT_SEQUENTIAL"), (2, u "EPHEMERAL_SEQUENTIAL"), (2, u "CONTAINER"), (2, u "PERSISTENT_WITH_TTL"), (2, u "PERSISTENT_SEQUENTIAL_WITH_TTL"), (0, .fieldref 1 26), (0, .nameAndType 27 28), (0, u "$VALUES"), (0, u "[Lcom/example/alert_tree/alerttree/protocol/CreateMode;"), (0, .methodref 30 31), (0, .class_ 28), (0, .nameAndType 32 33), (0, u "clone"), (0, u "()Ljava/lang/Object;"), (1, .class_ 37), (1, u "java/lang/Enum"), (6, .fieldref 1 45), (0, .nameAndType 46 47), (0, u "flags"), (0, u "I"), (2, u "ephemeral"), (0, u "Z"), (2, u "sequential"), (0, .methodref 1 56), (0, .nameAndType 57 58), (0, u "values"), (0, u "()[Lcom/example/alert_tree/alerttree/protocol/CreateMode;"), (23, u "of"), (0, u "(I)Lcom/example/alert_tree/alerttree/protocol/CreateMode;")] 6

def k6c0 : Code := { maxStack := 1, maxLocals := 0, code := prog_7_method_1_code, exceptionTable := #[], attributes := #[] }
def k6m0 : Method := { name := "values", desc := "()[Lcom/example/alert_tree/alerttree/protocol/CreateMode;", sig := { parameters := [], returnType := some (.array (.object "com/example/alert_tree/alerttree/protocol/CreateMode")) }, accessFlags := 9, code := some k6c0 }
def k6c1 : Code := { maxStack := 2, maxLocals := 6, code := prog_7_method_7_code, exceptionTable := #[], attributes := #[] }
def k6m1 : Method := { name := "of", desc := "(I)Lcom/example/alert_tree/alerttree/protocol/CreateMode;", sig := { parameters := [.int], returnType := some (.object "com/example/alert_tree/alerttree/protocol/CreateMode") }, accessFlags := 9, code := some k6c1 }
/-- com/example/alert_tree/alerttree/protocol/CreateMode -/
def k6 : Class := { plain "com/example/alert_tree/alerttree/protocol/CreateMode" (some 5) with
  accessFlags := 16433
  interfaces := #[]
  cf := some (fileOf pool6 1 #[] #[{ accessFlags := 9, nameIndex := 57, descriptorIndex := 58, attributes := #[] }, { accessFlags := 9, nameIndex := 82, descriptorIndex := 83, attributes := #[] }] 16433 35 #[] #[{ accessFlags := 16409, nameIndex := 5, descriptorIndex := 6, attributes := #[] }, { accessFlags := 16409, nameIndex := 9, descriptorIndex := 6, attributes := #[] }, { accessFlags := 16409, nameIndex := 12, descriptorIndex := 6, attributes := #[] }, { accessFlags := 16409, nameIndex := 15, descriptorIndex := 6, attributes := #[] }, { accessFlags := 16409, nameIndex := 18, descriptorIndex := 6, attributes := #[] }, { accessFlags := 16409, nameIndex := 21, descriptorIndex := 6, attributes := #[] }, { accessFlags := 16409, nameIndex := 24, descriptorIndex := 6, attributes := #[] }, { accessFlags := 18, nameIndex := 46, descriptorIndex := 47, attributes := #[] }, { accessFlags := 18, nameIndex := 50, descriptorIndex := 51, attributes := #[] }, { accessFlags := 18, nameIndex := 54, descriptorIndex := 51, attributes := #[] }, { accessFlags := 4122, nameIndex := 27, descriptorIndex := 28, attributes := #[] }])
  fields := #[{ name := "PERSISTENT", type := (.object "com/example/alert_tree/alerttree/protocol/CreateMode"), accessFlags := 16409, slot := 0, constantValue := 0 }, { name := "EPHEMERAL", type := (.object "com/example/alert_tree/alerttree/protocol/CreateMode"), accessFlags := 16409, slot := 1, constantValue := 0 }, { name := "PERSISTENT_SEQUENTIAL", type := (.object "com/example/alert_tree/alerttree/protocol/CreateMode"), accessFlags := 16409, slot := 2, constantValue := 0 }, { name := "EPHEMERAL_SEQUENTIAL", type := (.object "com/example/alert_tree/alerttree/protocol/CreateMode"), accessFlags := 16409, slot := 3, constantValue := 0 }, { name := "CONTAINER", type := (.object "com/example/alert_tree/alerttree/protocol/CreateMode"), accessFlags := 16409, slot := 4, constantValue := 0 }, { name := "PERSISTENT_WITH_TTL", type := (.object "com/example/alert_tree/alerttree/protocol/CreateMode"), accessFlags := 16409, slot := 5, constantValue := 0 }, { name := "PERSISTENT_SEQUENTIAL_WITH_TTL", type := (.object "com/example/alert_tree/alerttree/protocol/CreateMode"), accessFlags := 16409, slot := 6, constantValue := 0 }, { name := "flags", type := .int, accessFlags := 18, slot := 3, constantValue := 0 }, { name := "ephemeral", type := .boolean, accessFlags := 18, slot := 4, constantValue := 0 }, { name := "sequential", type := .boolean, accessFlags := 18, slot := 5, constantValue := 0 }, { name := "$VALUES", type := (.array (.object "com/example/alert_tree/alerttree/protocol/CreateMode")), accessFlags := 4122, slot := 7, constantValue := 0 }]
  methods := #[k6m0, k6m1]
  instanceTypes := #[(.object "java/lang/String"), .int, .int, .int, .boolean, .boolean]
  staticTypes := #[(.object "com/example/alert_tree/alerttree/protocol/CreateMode"), (.object "com/example/alert_tree/alerttree/protocol/CreateMode"), (.object "com/example/alert_tree/alerttree/protocol/CreateMode"), (.object "com/example/alert_tree/alerttree/protocol/CreateMode"), (.object "com/example/alert_tree/alerttree/protocol/CreateMode"), (.object "com/example/alert_tree/alerttree/protocol/CreateMode"), (.object "com/example/alert_tree/alerttree/protocol/CreateMode"), (.array (.object "com/example/alert_tree/alerttree/protocol/CreateMode"))]
  resolved := Array.replicate 90 none
  statics := some 0 }

def pool7 : Array CpInfo := pool [(1, .class_ 2), (0, u "java/lang/Cloneable"), (0, .class_ 4), (0, u "java/lang/Object")] 2

/-- java/lang/Cloneable -/
def k7 : Class := { plain "java/lang/Cloneable" (some 0) with
  accessFlags := 1537
  interfaces := #[]
  cf := some (fileOf pool7 1 #[] #[] 1537 3 #[] #[])
  fields := #[]
  methods := #[]
  instanceTypes := #[]
  staticTypes := #[]
  resolved := Array.replicate 7 none
  statics := none }

/-- the primitive byte -/
def k8 : Class := { plain "byte" none with kind := .primitive 'B', accessFlags := 0x411 }
/-- [B -/
def k9 : Class := { plain "[B" (some 0) with kind := .array 8 .byte, interfaces := #[7, 4], accessFlags := 1041 }

/-- the primitive int -/
def k10 : Class := { plain "int" none with kind := .primitive 'I', accessFlags := 0x411 }
/-- [I -/
def k11 : Class := { plain "[I" (some 0) with kind := .array 10 .int, interfaces := #[7, 4], accessFlags := 1041 }

/-- [Lcom/example/alert_tree/alerttree/protocol/CreateMode; -/
def k12 : Class := { plain "[Lcom/example/alert_tree/alerttree/protocol/CreateMode;" (some 0) with kind := .array 6 (.object "com/example/alert_tree/alerttree/protocol/CreateMode"), interfaces := #[7, 4], accessFlags := 1041 }

def heap : Heap := #[{ cls := 6, slots := #[.ref 2, .ref 3, .ref 4, .ref 5, .ref 6, .ref 7, .ref 8, .ref 1], vm := .statics 6 },
  { cls := 12, slots := #[.ref 2, .ref 3, .ref 4, .ref 5, .ref 6, .ref 7, .ref 8], vm := .none },
  { cls := 6, slots := #[.null, .int 0, .int 0, .int 0, .int 0, .int 0], vm := .none },
  { cls := 6, slots := #[.null, .int 1, .int 0, .int 1, .int 0, .int 0], vm := .none },
  { cls := 6, slots := #[.null, .int 2, .int 0, .int 2, .int 0, .int 0], vm := .none },
  { cls := 6, slots := #[.null, .int 3, .int 0, .int 3, .int 0, .int 0], vm := .none },
  { cls := 6, slots := #[.null, .int 4, .int 0, .int 4, .int 0, .int 0], vm := .none },
  { cls := 6, slots := #[.null, .int 5, .int 0, .int 5, .int 0, .int 0], vm := .none },
  { cls := 6, slots := #[.null, .int 6, .int 0, .int 6, .int 0, .int 0], vm := .none }]
def classes : Array Class := #[k0, k1, k2, k3, k4, k5, k6, k7, k8, k9, k10, k11, k12]
def interned : List (Array UInt16 × Addr) := []
def slotsUsed : Nat := 57
def theMethod : MethodId := ⟨1, 2⟩
def args0 : Array Value := #[.int 5, .int 7]
def aboutOver (below : List Frame) : State where
  vm := { classes := classes, interned := interned.toArray }
  heap := heap
  slotsUsed := slotsUsed
  threads := #[{ frames := .invoking theMethod args0 :: below }]
def below0 : List Frame := [.native { method := ⟨0, 0⟩, args := #[] }]
def about1 : State := aboutOver below0
def p0 : Program := .bare "" "" ""
def e0 : Env := launch0.env 0 0 0
theorem w_frames : about1.frames = Frame.invoking theMethod args0 :: below0 := rfl
set_option maxRecDepth 65536 in
theorem w_args : argsFit about1.vm theMethod args0 = true := by decide +kernel
set_option maxRecDepth 65536 in
theorem w_heap : heapFits about1 = true := by decide +kernel
set_option maxRecDepth 65536 in
theorem w_runnable : about1.curStatus? = some .runnable := by decide +kernel
set_option maxRecDepth 65536 in
theorem w_alone : about1.alone = true := by decide +kernel
set_option maxRecDepth 65536 in
theorem w_named : about1.methodNamed? x = some theMethod := by decide +kernel
set_option maxRecDepth 65536 in
theorem w_hears : about1.hears theMethod below0 = true := by decide +kernel
set_option maxRecDepth 65536 in
theorem w_ripe : about1.ripe theMethod args0 below0 = true := by decide +kernel
theorem w_running : about1.status = .running := rfl
set_option maxRecDepth 65536 in
theorem w_room : about1.hasRoom e0.platform room_1 = true :=
  launch0.hasRoom_least _ room_1 (by decide +kernel) (by decide +kernel) (by decide +kernel) (by decide +kernel) (by decide +kernel) (by decide +kernel)
theorem allAtoms_all (ts : List Jvm.Cond) (a : Array Jvm.Value) (st : Jvm.State) : (allAtoms ts).before a st = ts.all (fun c => c.before a st) := by
  induction ts with
  | nil => rfl
  | cons c t ih =>
    show (Jvm.Cond.and c (allAtoms t)).before a st = _
    rw [Jvm.Cond.before_and, ih, List.all_cons]
def words1 : List Jvm.Cond := Jvm.Cond.code x code maxLocals ret :: tables_1
/-- a 'code' word, met by the world's own term for the bytes: nothing is compared byte by byte -/
theorem code_word {y : MethodName} {bytes : ByteArray} {mx : Nat} {rt : Option FieldType} {a : Array Value} {s : State} {m : MethodId} {meth : Method} {c : Code} (h1 : s.methodNamed? y = some m) (h2 : s.vm.method? m = some meth) (h3 : meth.code = some c) (h4 : c.code = bytes)
    (h5 : (c.maxLocals == mx && c.exceptionTable.isEmpty && decide (c.maxStack ≤ mostOperands) && decide (meth.sig.returnType = rt) && !meth.locks && decide (parseMethodDescriptor y.desc = some meth.sig)) = true) : (Jvm.Cond.code y bytes mx rt).before a s = true := by
  simp only [Bool.and_eq_true, beq_iff_eq, Bool.not_eq_true', decide_eq_true_eq] at h5
  obtain ⟨⟨⟨⟨⟨g1, g2⟩, g3⟩, g4⟩, g5⟩, g6⟩ := h5
  simp [Cond.before, Cond.holds, Cond.value, h1, h2, h3, h4, g1, g2, g3, g4, g5, g6]
def isCode : Jvm.Cond → Bool
  | .code _ _ _ _ => true
  | _ => false
theorem all_split {L : List Jvm.Cond} {P : Jvm.Cond → Bool} (h1 : L.all (fun c => isCode c || P c) = true) (h2 : ∀ c ∈ L.filter isCode, P c = true) : L.all P = true := by
  refine List.all_eq_true.mpr fun c hc => ?_
  have h := List.all_eq_true.mp h1 c hc
  rcases Bool.eq_false_or_eq_true (isCode c) with hi | hi
  · exact h2 c (List.mem_filter.mpr ⟨hc, hi⟩)
  · simpa [hi] using h
set_option maxRecDepth 65536 in
theorem w_c0 : (Jvm.Cond.code x code maxLocals ret).before args0 about1 = true := code_word (m := ⟨1, 2⟩) (meth := k1m2) (c := k1c2) (by decide +kernel) rfl rfl rfl (by decide +kernel)
set_option maxRecDepth 65536 in
theorem w_c1 : (Jvm.Cond.code ({ cls := "com/example/alert_tree/alerttree/protocol/CreateMode", name := "of", desc := "(I)Lcom/example/alert_tree/alerttree/protocol/CreateMode;" } : Jvm.MethodName) prog_7_method_7_code (6 : Nat) (Option.some (Jvm.ClassFile.FieldType.object "com/example/alert_tree/alerttree/protocol/CreateMode"))).before args0 about1 = true := code_word (m := ⟨6, 1⟩) (meth := k6m1) (c := k6c1) (by decide +kernel) rfl rfl rfl (by decide +kernel)
set_option maxRecDepth 65536 in
theorem w_c2 : (Jvm.Cond.code ({ cls := "com/example/alert_tree/alerttree/protocol/CreateMode", name := "values", desc := "()[Lcom/example/alert_tree/alerttree/protocol/CreateMode;" } : Jvm.MethodName) prog_7_method_1_code (0 : Nat) (Option.some (Jvm.ClassFile.FieldType.array (Jvm.ClassFile.FieldType.object "com/example/alert_tree/alerttree/protocol/CreateMode")))).before args0 about1 = true := code_word (m := ⟨6, 0⟩) (meth := k6m0) (c := k6c0) (by decide +kernel) rfl rfl rfl (by decide +kernel)
set_option maxRecDepth 65536 in
theorem w_c3 : (Jvm.Cond.code ({ cls := "com/example/alert_tree/alerttree/protocol/CreateModeOfPinLaw", name := "expected", desc := "(I)Lcom/example/alert_tree/alerttree/protocol/CreateMode;" } : Jvm.MethodName) method_2_code (1 : Nat) (Option.some (Jvm.ClassFile.FieldType.object "com/example/alert_tree/alerttree/protocol/CreateMode"))).before args0 about1 = true := code_word (m := ⟨1, 1⟩) (meth := k1m1) (c := k1c1) (by decide +kernel) rfl rfl rfl (by decide +kernel)
def codes1 : List Jvm.Cond := [Jvm.Cond.code x code maxLocals ret, Jvm.Cond.code ({ cls := "com/example/alert_tree/alerttree/protocol/CreateMode", name := "of", desc := "(I)Lcom/example/alert_tree/alerttree/protocol/CreateMode;" } : Jvm.MethodName) prog_7_method_7_code (6 : Nat) (Option.some (Jvm.ClassFile.FieldType.object "com/example/alert_tree/alerttree/protocol/CreateMode")), Jvm.Cond.code ({ cls := "com/example/alert_tree/alerttree/protocol/CreateMode", name := "values", desc := "()[Lcom/example/alert_tree/alerttree/protocol/CreateMode;" } : Jvm.MethodName) prog_7_method_1_code (0 : Nat) (Option.some (Jvm.ClassFile.FieldType.array (Jvm.ClassFile.FieldType.object "com/example/alert_tree/alerttree/protocol/CreateMode"))), Jvm.Cond.code ({ cls := "com/example/alert_tree/alerttree/protocol/CreateModeOfPinLaw", name := "expected", desc := "(I)Lcom/example/alert_tree/alerttree/protocol/CreateMode;" } : Jvm.MethodName) method_2_code (1 : Nat) (Option.some (Jvm.ClassFile.FieldType.object "com/example/alert_tree/alerttree/protocol/CreateMode"))]
set_option maxRecDepth 65536 in
theorem codes_eq : words1.filter isCode = codes1 := rfl
theorem w_codes : ∀ c ∈ words1.filter isCode, c.before args0 about1 = true := by
  rw [codes_eq]
  intro c hc
  simp only [codes1, List.mem_cons, List.not_mem_nil, or_false] at hc
  rcases hc with rfl | rfl | rfl | rfl
  · exact w_c0
  · exact w_c1
  · exact w_c2
  · exact w_c3
set_option maxRecDepth 65536 in
theorem w_t1 : (words1.take 24).all (fun c => isCode c || c.before args0 about1) = true := by decide +kernel
set_option maxRecDepth 65536 in
theorem w_t2 : (words1.drop 24).all (fun c => isCode c || c.before args0 about1) = true := by decide +kernel
theorem w_tables : (allAtoms (Jvm.Cond.code x code maxLocals ret :: tables_1)).before args0 about1 = true := by
  rw [allAtoms_all]
  show words1.all (fun c => c.before args0 about1) = true
  refine all_split ?_ w_codes
  rw [← List.take_append_drop 24 words1, List.all_append, w_t1, w_t2]
  rfl
set_option maxRecDepth 65536 in
theorem w_case : (Jvm.Cond.and given_1 narrow_1).before args0 about1 = true := by decide +kernel
theorem w_applies : (headSpec (Jvm.Cond.code x code maxLocals ret :: tables_1) room_1).applies x e0.platform about1 = true :=
  (Spec.applies_iff w_frames).mpr ⟨w_running, w_runnable, w_alone, w_named, w_hears, w_ripe, w_room, w_tables⟩
theorem atStart : AtStart classFile x code maxLocals ret World_1 tables_1 room_1 Calls_1 rest_1 Pre_1 launch0 p0 e0 about1 theMethod args0 below0 :=
  ⟨lists_1, trivial, launch0.admits_env _ _ _, launch0.least_env, fairChoices_fair.cas, fairChoices_fair.clock, w_frames, w_args, w_heap, w_applies, trivial, trivial, w_case⟩
end start1
theorem witness_1 : WitnessClaimed_1 := ⟨start1.p0, start1.e0, start1.about1, start1.theMethod, start1.args0, start1.below0, start1.atStart⟩
end Jvm.Pilot.@@N@@
